/- Parts of the proof: Vl. -/
import Derived.Test.YtjcbeinpkafjiaaGreatU26
import Derived.Test.YtjcbeinpkafjiaaGreatUXXp
set_option linter.all false
set_option maxRecDepth 10000
namespace Go.E
open Go Go.Sort Go.Proofs
theorem ans_rel {V:List Sp} {m:Nat} {outs:List (Option Int)} {got:List An} (h:Pw (AnsOk V (fun ks=>∀ x ∈ ks,kindT x.tr=21)) outs got) (hm:∀ x ∈ V,x.ks.length≤m) (i:Nat) (a b:An) (ha:got[i]? = some a) (hb:(outs.map (ansP (V.map bareS)))[i]? = some b) :
    a.dn=b.dn∧a.ok=b.ok∧(a.ok=true→(∀ x ∈ a.sp.ks,kindT x.tr=21)∧bareS a.sp=b.sp∧a.sp.ks.length≤m):=by
 rw [List.getElem?_map] at hb
 obtain ⟨o,ho,rfl⟩:=Option.map_eq_some_iff.1 hb
 have hr:=h.2 i o a ho ha
 cases o with
 | none =>
  obtain rfl:a=⟨false,false,⟨[],[],[]⟩⟩:=hr
  exact ⟨rfl,rfl,fun h=>by cases h⟩
 | some p =>
  obtain ⟨h1,h2,h3,h4⟩:=hr
  have hin:inV (V.map bareS) p=inV V p:=by unfold inV; rw [List.length_map]
  unfold ansP
  simp only [hin]
  cases hi:inV V p with
  | false =>
   rw [if_neg (by decide)]
   exact ⟨h1,h2.trans hi,fun h=>by rw [h2,hi] at h; cases h⟩
  | true =>
   obtain ⟨hp0,hpV⟩:=of_decide_eq_true hi
   obtain ⟨j,rfl⟩:∃ j:Nat,p=j:=⟨p.toNat,by omega⟩
   have hj:j < V.length:=by omega
   obtain ⟨g1,g2,g3,g4⟩:=h3 j rfl hj
   rw [if_pos rfl]
   refine ⟨h1,h2.trans hi,fun _=>⟨g4,?_,?_⟩⟩
   ·show bareS a.sp=(V.map bareS)[j]!
    rw [getElem!_pos (V.map bareS) j (by simpa using hj),List.getElem_map]
    rw [getElem!_pos V j hj] at g1 g2 g3
    exact bareS_eq g1 g2 g3
   ·have:=congrArg List.length g3
    rw [List.length_map,List.length_map] at this
    rw [this]
    rw [getElem!_pos V j hj]
    exact hm _ (List.getElem_mem hj)
end Go.E
