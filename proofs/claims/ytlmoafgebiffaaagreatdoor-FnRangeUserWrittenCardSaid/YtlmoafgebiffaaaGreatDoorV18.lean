/- Parts of the proof: Vb, Vc, Vd, Ve, Vf, Vg, Vh, Xb, Xd. -/
import Derived.Test.YtlmoafgebiffaaaGreatDoorV14
import Derived.Test.YtlmoafgebiffaaaGreatDoorV15
import Derived.Test.YtlmoafgebiffaaaGreatDoorV17
set_option linter.all false
set_option maxRecDepth 10000
section
namespace Go.E
open Go Go.Sort Go.Proofs
abbrev SV:=Bytes × Bytes
def mD (st:List SV) (k:K):List SV :=
 if au k.tr=19 then [] else st.filter (fun x=>decide (x.1≠k.suf))++if au k.tr=21 then [(k.suf,k.val)] else []
def vm (a b:SV):Bool:=decide (a.1 < b.1)
def pq (st:List SV) (ks:List K):List SV:=lQ vm (ks.reverse.foldl mD st)
theorem zd (l:List K) (hd:l.Pairwise fun x y=>x.tr≤y.tr) (hc:l.Pairwise fun x y=>x.suf=y.suf→x.tr≠y.tr) (hk:∀ x ∈ l,au x.tr=19∨au x.tr=20∨au x.tr=21) :
    (l.foldl mD []).Pairwise (fun a b=>a.1≠b.1)∧∀ p,p ∈ l.foldl mD []↔∃ x ∈ l,au x.tr=21∧p=x.sv∧∀ y ∈ l,(au y.tr=19→y.tr < x.tr)∧(au y.tr≠19→y.suf=x.suf→y.tr≤x.tr):=by
 have aux:∀ (m l:List K),(m++l).Pairwise (fun x y=>x.tr≤y.tr)→(m++l).Pairwise (fun x y=>x.suf=y.suf→x.tr≠y.tr)→(∀ x ∈ m++l,au x.tr=19∨au x.tr=20∨au x.tr=21)→∀ st:List SV,
     st.Pairwise (fun a b=>a.1≠b.1)→(∀ p,p ∈ st↔∃ x ∈ m,au x.tr=21∧p=x.sv∧∀ y ∈ m,(au y.tr=19→y.tr < x.tr)∧(au y.tr≠19→y.suf=x.suf→y.tr≤x.tr)) →
     (l.foldl mD st).Pairwise (fun a b=>a.1≠b.1)∧∀ p,p ∈ l.foldl mD st↔∃ x ∈ m++l,au x.tr=21∧p=x.sv∧∀ y ∈ m++l,(au y.tr=19→y.tr < x.tr)∧(au y.tr≠19→y.suf=x.suf→y.tr≤x.tr):=by
  intro m l
  induction l generalizing m with
  | nil=>intro _ _ _ st h1 h2; rw [ao]; exact ⟨h1,h2⟩
  | cons k l ih =>
   intro hd hc hk st h1 h2
   rw [List.foldl_cons]
   have ih:=ih (m++[k]) (by simpa using hd) (by simpa using hc) (by simpa using hk) (mD st k)
   rw [ax,List.singleton_append] at ih
   have hkm:∀ y ∈ m,y.tr≤k.tr∧(y.suf=k.suf→y.tr≠k.tr):=fun y hy=>⟨(List.pairwise_append.1 hd).2.2 y hy k aK,(List.pairwise_append.1 hc).2.2 y hy k aK⟩
   have hkk:=hk k (by simp)
   refine ih ?_ fun p => ?_
   ·unfold mD
    split
    ·exact .nil
    ·refine List.pairwise_append.2 ⟨h1.filter _,by split <;> simp,fun a ha b hb => ?_⟩
     have:=(bH.1 ha).2
     simp only [decide_eq_true_eq] at this
     split at hb
     ·rw [aM.1 hb]; exact this
     ·simp at hb
   ·unfold mD
    split
    ·rename_i h19
     simp only [List.not_mem_nil,false_iff]
     rintro ⟨x,hx,hx1,hx2,hx3⟩
     have h4:=(hx3 k (by simp)).1 h19
     rcases aS.1 hx with hx | hx
     ·have:=(hkm x hx).1; omega
     ·rw [aM.1 hx] at h4; omega
    ·rename_i h19
     rw [aS,bH,h2]
     constructor
     ·rintro (⟨⟨x,hx,hx1,rfl,hx3⟩,hne⟩ | h)
      ·simp only [decide_eq_true_eq] at hne
       refine ⟨x,List.mem_append_left _ hx,hx1,rfl,fun y hy => ?_⟩
       rcases aS.1 hy with hy | hy
       ·exact hx3 y hy
       ·rw [aM.1 hy]
        exact ⟨fun h=>absurd h h19,fun _ h=>absurd h.symm hne⟩
      ·split at h
       ·rename_i h21
        rw [aM.1 h]
        refine ⟨k,by simp,h21,rfl,fun y hy => ?_⟩
        rcases aS.1 hy with hy | hy
        ·have:=hkm y hy
         refine ⟨fun h9 => ?_,fun _ _=>this.1⟩
         rcases aH y.tr k.tr with h5 | h5
         ·exact h5
         ·have:y.tr=k.tr:=by omega
          rw [this] at h9; omega
        ·rw [aM.1 hy]
         exact ⟨fun h=>absurd h h19,fun _ _=>aF _⟩
       ·simp at h
     ·rintro ⟨x,hx,hx1,rfl,hx3⟩
      rcases aS.1 hx with hx | hx
      ·refine .inl ⟨⟨x,hx,hx1,rfl,fun y hy=>hx3 y (List.mem_append_left _ hy)⟩,?_⟩
       simp only [decide_eq_true_eq]
       intro he
       have h5:=(hx3 k (by simp)).2 h19 he.symm
       have h6:=hkm x hx
       exact h6.2 he (by omega)
      ·rw [aM.1 hx] at hx1 ⊢
       rw [if_pos hx1]
       exact .inr (aM.2 rfl)
 have:=aux [] l (by simpa using hd) (by simpa using hc) (by simpa using hk) [] .nil (by simp)
 simpa using this
theorem ER {a b:List SV} (ha:a.Pairwise fun x y=>x.1 < y.1) (hb:b.Pairwise fun x y=>x.1 < y.1) (h:∀ x,x ∈ a↔x ∈ b):a=b:=by
 induction a generalizing b with
 | nil =>
  cases b with
  | nil=>rfl
  | cons y b=>exact absurd ((h y).2 aK) (by simp)
 | cons x a ih =>
  cases b with
  | nil=>exact absurd ((h x).1 aK) (by simp)
  | cons y b =>
   have ha':=fun {z}=>bI (a':=z) ha
   have hb':=fun {z}=>bI (a':=z) hb
   have hxy:x=y:=by
    rcases av.1 ((h x).1 aK) with e | h1
    ·exact e
    ·rcases av.1 ((h y).2 aK) with e | h2
     ·exact e.symm
     ·exact absurd (ha' h2) (iw (hb' h1))
   subst hxy
   congr 1
   refine ih ha.of_cons hb.of_cons fun z => ?_
   have:=h z
   rw [av,av] at this
   constructor
   ·intro hz
    rcases this.1 (.inr hz) with e | h1
    ·subst e; exact absurd (ha' hz) (bQ _)
    ·exact h1
   ·intro hz
    rcases this.2 (.inr hz) with e | h1
    ·subst e; exact absurd (hb' hz) (bQ _)
    ·exact h1
theorem ze:TotB vm where
 asym a b h:=by
  have h:a.1 < b.1:=of_decide_eq_true h
  exact aG (iw h)
 trans a b c h1 h2:=by
  have h1:¬ b.1 < a.1:=of_decide_eq_false h1
  have h2:¬ c.1 < b.1:=of_decide_eq_false h2
  exact aG fun h3=>h1 (fQ h2 h3)
theorem ES {l:List SV} (h:l.Pairwise fun a b=>a.1≠b.1):(lQ vm l).Pairwise fun a b=>a.1 < b.1:=by
 have h1:=jJ ze l
 have h2:(lQ vm l).Pairwise fun a b=>a.1≠b.1:=(List.Perm.pairwise_iff (fun h=>Ne.symm h) (kt l)).2 h
 refine (h1.and h2).imp fun {a b} h => ?_
 have h3:¬ b.1 < a.1:=of_decide_eq_false h.1
 rcases gV a.1 b.1 with h4 | h4 | h4
 ·exact h4
 ·exact absurd h4 h.2
 ·exact absurd h4 h3
def xz (snap:Nat) (ks:List K):List K:=ks.filter fun x=>ju snap x.tr
theorem sF {snap:Nat} {ks:List K} (h:Cd ks):pq [] (xz snap (dy ks))=(Tf snap ks).map K.sv:=by
 have hm:∀ x,x ∈ (xz snap (dy ks)).reverse↔x ∈ ks∧ju snap x.tr=true:=fun x=>by rw [List.mem_reverse]; unfold xz; rw [bH,(eh ks).mem_iff]
 have hp:(dy ks).Pairwise fun x y=>x.suf=y.suf→x.tr≠y.tr:=(List.Perm.pairwise_iff (fun {x y} h e e2=>h e.symm e2.symm) (eh ks)).2 h.dist
 have fs:=zd (xz snap (dy ks)).reverse (by rw [List.pairwise_reverse]; exact (xw ks).filter _) (by rw [List.pairwise_reverse]; exact (hp.filter _).imp fun {x y} h e e2=>h e.symm e2.symm) fun x hx=>h.kind x ((hm x).1 hx).1
 refine ER (ES fs.1) (by rw [List.pairwise_map]; exact uJ h) fun p => ?_
 unfold pq
 rw [(kt _).mem_iff,fs.2,bj]
 constructor
 ·rintro ⟨x,hx,h1,rfl,h2⟩
  refine ⟨x,nH.2 ⟨((hm x).1 hx).1,jx.2 ⟨((hm x).1 hx).2,h1,fun y hy hv=>h2 y ((hm y).2 ⟨hy,hv⟩)⟩⟩,rfl⟩
 ·rintro ⟨x,hx,rfl⟩
  obtain ⟨h1,h2⟩:=nH.1 hx
  obtain ⟨h2,h3,h4⟩:=jx.1 h2
  exact ⟨x,(hm x).2 ⟨h1,h2⟩,h3,rfl,fun y hy=>h4 y ((hm y).1 hy).1 ((hm y).1 hy).2⟩
def iD (p:SV):K:=⟨0,p.1,p.2⟩
theorem yA (l:List SV):(l.map iD).map K.sv=l:=by
 rw [cv]
 exact List.map_id'' (fun _=>rfl) l
theorem CA {l m:List SV} (h:l.map iD=m.map iD):l=m:=by rw [← yA l,h,yA]
def sG (x:Sp):Sp:=⟨x.s,x.e,(pq [] x.ks).map iD⟩
def sH (out:List Sp) (x:Sp):List Sp:=match out.getLast? with
 | some y=>if y.e=x.s∧x.ks≠[]∧y.ks=x.ks then out.dropLast++[⟨y.s,x.e,y.ks⟩] else out++[x]
 | none=>[x]
def FE (lo hi:Option Bytes) (x:Sp):Bool:=(match lo with | some l=>decide (l < x.e) | none=>true) && match hi with | some h=>decide (x.s < h) | none=>true
def jb (l:List Sp) (snap:Nat):List Sp:=(df l).map fun x=>⟨x.s,x.e,xz snap x.ks⟩
def ud (l:List Sp) (snap:Nat) (lo hi:Option Bytes):List Sp:=(((jb l snap).filter (FE lo hi)).map sG).foldl sH []
def cW (x:Sp):Sp:=⟨x.s,x.e,(x.ks.map K.sv).map iD⟩
def FF (G:List Sp) (m:Nat):List Sp:=(List.range ((List.range m).filter (l9 K.sv G)).length).map fun p =>
 ⟨G[((List.range m).filter (l9 K.sv G))[p]!]!.s,G[(if p+1 < ((List.range m).filter (l9 K.sv G)).length then ((List.range m).filter (l9 K.sv G))[p+1]! else m) - 1]!.e,G[((List.range m).filter (l9 K.sv G))[p]!]!.ks⟩
theorem ET (G:List Sp):FF G G.length=Vw K.sv G:=rfl
theorem EU {a b:Sp} (h1:a.s=b.s) (h2:a.e=b.e) (h3:a.ks.map K.sv=b.ks.map K.sv):cW a=cW b:=by unfold cW; rw [h1,h2,h3]
theorem CB (G:List Sp) {m:Nat} (hm:m≤G.length):((G.take m).map cW).foldl sH []=(FF G m).map cW∧(0 < m→∃ j,((List.range m).filter (l9 K.sv G)).getLast? = some j∧j < m∧G[j]!.ks.map K.sv=G[m - 1]!.ks.map K.sv):=by
 induction m with
 | zero=>exact ⟨rfl,fun h=>absurd h (iW 0)⟩
 | succ m ih =>
  obtain ⟨ih1,ih2⟩:=ih (by omega)
  have hG:G.take (m+1)=G.take m++[G[m]!]:=by rw [List.take_add_one,aD (by omega:m < G.length),aI G m (by omega)]; rfl
  rw [hG,az,List.foldl_append,ih1,List.map_singleton,List.foldl_cons,List.foldl_nil]
  obtain ⟨S,hS⟩:∃ S,S=(List.range m).filter (l9 K.sv G):=⟨_,rfl⟩
  have hS1:(List.range (m+1)).filter (l9 K.sv G)=if l9 K.sv G m then S++[m] else S:=by
   rw [List.range_succ,List.filter_append,← hS]
   cases h:l9 K.sv G m with
   | true=>rw [List.filter_cons_of_pos h]; rfl
   | false=>rw [List.filter_cons_of_neg (by rw [h]; simp)]; simp
  have hVm:FF G m=(List.range S.length).map fun p=>⟨G[S[p]!]!.s,G[(if p+1 < S.length then S[p+1]! else m) - 1]!.e,G[S[p]!]!.ks⟩:=by unfold FF; rw [← hS]
  rcases bt m with rfl | hm0
  ·have h0:l9 K.sv G 0=true:=aV (.inl rfl)
   rw [h0] at hS1
   have hS0:S=[]:=by rw [hS]; rfl
   rw [if_pos rfl,hS0,List.nil_append] at hS1
   refine ⟨?_,fun _=>⟨0,by rw [hS1]; rfl,by omega,rfl⟩⟩
   rw [hVm,hS0]
   show sH [] (cW G[0]!)=_
   unfold FF
   rw [hS1]
   rfl
  ·obtain ⟨j,hj,hjm,hje⟩:=ih2 hm0
   rw [← hS] at hj
   obtain ⟨S',rfl⟩:∃ S',S=S'++[j]:=List.getLast?_eq_some_iff.1 hj
   have hlast:FF G m=((List.range S'.length).map fun p=>(⟨G[(S'++[j])[p]!]!.s,G[(S'++[j])[p+1]! - 1]!.e,G[(S'++[j])[p]!]!.ks⟩:Sp))++[⟨G[j]!.s,G[m - 1]!.e,G[j]!.ks⟩]:=by
    rw [hVm,aE,ar,List.range_succ,az]
    congr 1
    ·refine List.map_congr_left fun p hp => ?_
     rw [List.mem_range] at hp
     rw [if_pos (by omega)]
    ·simp only [List.map_cons,List.map_nil]
     rw [if_neg (by omega)]
     have:(S'++[j])[S'.length]! = j:=by rw [aI (S'++[j]) S'.length (by simp)]; simp
     rw [this]
   have hjoin:l9 K.sv G m=decide (¬ (G[m - 1]!.e=G[m]!.s∧G[m]!.ks≠[]∧G[m - 1]!.ks.map K.sv=G[m]!.ks.map K.sv)):=by
    unfold l9
    refine decide_eq_decide.2 ?_
    have hh:iy K.sv G (m - 1)↔m - 1+1 < G.length∧G[m - 1]!.e=G[m - 1+1]!.s∧G[m - 1]!.ks≠[]∧G[m - 1]!.ks.map K.sv=G[m - 1+1]!.ks.map K.sv:=Iff.rfl
    rw [hh,show m - 1+1=m by omega]
    constructor
    ·rintro (h | h)
     ·omega
     ·rintro ⟨h1,h2,h3⟩
      exact h ⟨by omega,h1,fun h4=>h2 (by rw [h4] at h3; simpa using h3.symm),h3⟩
    ·intro h
     refine .inr fun ⟨_,h1,h2,h3⟩=>h ⟨h1,fun h4=>h2 (by rw [h4] at h3; simpa using h3),h3⟩
   rw [hlast,az,List.map_singleton]
   unfold sH
   rw [List.getLast?_append,List.getLast?_singleton]
   simp only [Option.or_some,Option.some_or]
   have hb1:((cW G[m]!).ks≠[])↔G[m]!.ks≠[]:=by unfold cW; simp
   have hb2:((cW (⟨G[j]!.s,G[m - 1]!.e,G[j]!.ks⟩:Sp)).ks=(cW G[m]!).ks)↔G[m - 1]!.ks.map K.sv=G[m]!.ks.map K.sv:=by
    rw [← hje]
    constructor
    ·intro h; exact CA h
    ·intro h; exact congrArg (List.map iD) h
   by_cases hc:G[m - 1]!.e=G[m]!.s∧G[m]!.ks≠[]∧G[m - 1]!.ks.map K.sv=G[m]!.ks.map K.sv
   ·rw [if_pos (by refine ⟨hc.1,hb1.2 hc.2.1,hb2.2 hc.2.2⟩)]
    have hst:l9 K.sv G m=false:=by rw [hjoin]; exact aG fun h=>h hc
    rw [hst,if_neg (by simp)] at hS1
    refine ⟨?_,fun _=>⟨j,by rw [hS1]; exact hj,by omega,by rw [show m+1 - 1=m by omega,hje,hc.2.2]⟩⟩
    rw [List.dropLast_concat]
    unfold FF
    rw [hS1,aE,ar,List.range_succ,az,az]
    congr 1
    ·rw [cv,cv]
     refine List.map_congr_left fun p hp => ?_
     rw [List.mem_range] at hp
     simp only [Function.comp]
     rw [if_pos (by omega)]
    ·simp only [List.map_cons,List.map_nil]
     rw [if_neg (by omega)]
     have:(S'++[j])[S'.length]! = j:=by rw [aI (S'++[j]) S'.length (by simp)]; simp
     rw [this,show m+1 - 1=m by omega]
     rfl
   ·rw [if_neg (by rintro ⟨h1,h2,h3⟩; exact hc ⟨h1,hb1.1 h2,hb2.1 h3⟩)]
    have hst:l9 K.sv G m=true:=by rw [hjoin]; exact aV hc
    rw [hst,if_pos rfl] at hS1
    refine ⟨?_,fun _=>⟨m,by rw [hS1]; simp,by omega,by rw [show m+1 - 1=m by omega]⟩⟩
    rw [show (List.map cW (List.map (fun p=>(⟨G[(S'++[j])[p]!]!.s,G[(S'++[j])[p+1]! - 1]!.e,G[(S'++[j])[p]!]!.ks⟩:Sp)) (List.range S'.length))++[cW ⟨G[j]!.s,G[m - 1]!.e,G[j]!.ks⟩])=(FF G m).map cW by rw [hlast,az]; rfl]
    have hV1:FF G (m+1)=(List.range (S'++[j]++[m]).length).map fun p=>(⟨G[(S'++[j]++[m])[p]!]!.s,G[(if p+1 < (S'++[j]++[m]).length then (S'++[j]++[m])[p+1]! else m+1) - 1]!.e,G[(S'++[j]++[m])[p]!]!.ks⟩:Sp):=by unfold FF; rw [hS1]
    have hl1:(S'++[j]++[m]).length=(S'++[j]).length+1:=by simp
    rw [hV1,hVm,hl1,List.range_succ,az,az]
    congr 1
    ·rw [cv,cv]
     refine List.map_congr_left fun p hp => ?_
     rw [List.mem_range] at hp
     simp only [Function.comp]
     have e1:(S'++[j]++[m])[p]! = (S'++[j])[p]! := by rw [aI (S'++[j]++[m]) p (by simp only [aE,ar] at hp ⊢; omega),aI (S'++[j]) p hp,List.getElem_append_left hp]
     rw [e1,if_pos (show p+1 < (S'++[j]).length+1 by omega)]
     by_cases hp1:p+1 < (S'++[j]).length
     ·have e2:(S'++[j]++[m])[p+1]! = (S'++[j])[p+1]! := by rw [aI (S'++[j]++[m]) (p+1) (by simp only [aE,ar] at hp1 ⊢; omega),aI (S'++[j]) (p+1) hp1,List.getElem_append_left hp1]
      rw [if_pos hp1,e2]
     ·have hpe:p+1=(S'++[j]).length:=by omega
      have e2:(S'++[j]++[m])[p+1]! = m:=by rw [hpe,aI (S'++[j]++[m]) _ (by simp only [aE,ar]; omega)]; simp
      rw [if_neg hp1,e2]
    ·simp only [List.map_cons,List.map_nil]
     rw [if_neg (by omega)]
     have:(S'++[j]++[m])[(S'++[j]).length]! = m:=by rw [aI (S'++[j]++[m]) _ (by simp only [aE,ar]; omega)]; simp
     rw [this,show m+1 - 1=m by omega]
theorem F4 (G:List Sp):(G.map cW).foldl sH []=(Vw K.sv G).map cW:=by
 have:=(CB G (aF G.length)).1
 rwa [ag,ET] at this
end Go.E
end
section
namespace Go.E
open Go Go.Sort Go.Proofs
theorem zf {α:Type} (P:α→Bool) (G:List α) (a e:Nat) (h:∀ j (hj:j < G.length),P G[j]=true↔a≤j∧j < e):G.filter P=(G.take e).drop a:=by
 induction G generalizing a e with
 | nil=>simp
 | cons x G ih =>
  have h0:=h 0 (by simp)
  have hs:=fun j (hj:j < G.length)=>h (j+1) (by simp only [aZ]; omega)
  simp only [List.getElem_cons_zero] at h0
  simp only [List.getElem_cons_succ] at hs
  cases e with
  | zero =>
   rw [List.filter_cons_of_neg (by rw [h0]; omega),ih 0 0 fun j hj=>by rw [hs j hj]; omega]
   simp
  | succ e =>
   cases a with
   | zero=>rw [List.filter_cons_of_pos (by rw [h0]; omega),ih 0 e fun j hj=>by rw [hs j hj]; omega]; simp
   | succ a=>rw [List.filter_cons_of_neg (by rw [h0]; omega),ih a e fun j hj=>by rw [hs j hj]; omega]; simp
theorem F5 {lo hi:Option Bytes} {x:Sp}:FE lo hi x=true↔(∀ l,lo=some l→l < x.e)∧∀ h,hi=some h→x.s < h:=by
 unfold FE
 rw [bq]
 cases lo <;> cases hi <;> simp
theorem CC {G:List Sp} (hw:Wf G) (lo hi:Option Bytes):G.filter (FE lo hi)=GB G lo hi:=by
 unfold GB
 refine zf _ _ _ _ fun j hj => ?_
 rw [F5,Gp hw hj,uU hw hj,aI G j hj]
theorem yB {Lv:List (List Sp)} {snap:Nat} (h:∀ L ∈ Lv,Wf L) (hf:∀ L ∈ Lv,∀ s ∈ L,s.ks≠[]) (hc:∀ u,Cd (cy Lv.length (fR Lv) (cN Lv.flatten) u)) :
    (jb Lv.flatten snap).map sG=(GL (Tf snap) Lv.length (fR Lv) (cN Lv.flatten)).map cW:=by
 unfold jb GL
 rw [sE h hf,cv,cv,cv]
 refine List.map_congr_left fun u _ => ?_
 simp only [Function.comp,sG,cW,lz]
 rw [sF (hc u)]
theorem AZ {Lv:List (List Sp)} {snap:Nat} (h:∀ L ∈ Lv,Wf L) (hf:∀ L ∈ Lv,∀ s ∈ L,s.ks≠[]) (hc:∀ u,Cd (cy Lv.length (fR Lv) (cN Lv.flatten) u)) (lo hi:Option Bytes) :
    ud Lv.flatten snap lo hi=(Vw K.sv (GB (GL (Tf snap) Lv.length (fR Lv) (cN Lv.flatten)) lo hi)).map cW:=by
 have e1:((jb Lv.flatten snap).filter (FE lo hi)).map sG=((jb Lv.flatten snap).map sG).filter (FE lo hi):=by
  rw [List.filter_map]
  rfl
 have e2:((GL (Tf snap) Lv.length (fR Lv) (cN Lv.flatten)).map cW).filter (FE lo hi)=((GL (Tf snap) Lv.length (fR Lv) (cN Lv.flatten)).filter (FE lo hi)).map cW:=by
  rw [List.filter_map]
  rfl
 unfold ud
 rw [e1,yB h hf hc,e2,CC (xN (kz h)),F4]
theorem Ab {β:Type} [DecidableEq β] {π:K→β} {G:List Sp} (hw:Wf G):Wf (Vw π G):=by
 refine ⟨fun i hi => ?_,fun i j hij hj => ?_⟩
 ·rw [fL] at hi
  rw [mj hi]
  have h1:=fw hi
  have a:=hw.1 _ (iS hi).1
  have b:=hw.ends (i:=(dJ π G)[i]!) (j:=kO π G i - 1) (by omega) (by omega)
  simp only
  exact cY a (by grind)
 ·rw [fL] at hj
  rw [mj hj,mj (by omega:i < (dJ π G).length)]
  have h1:=fw (show i < (dJ π G).length by omega)
  have h2:=Ho hij hj
  exact hw.2 _ _ (by omega) (iS hj).1
end Go.E
end
section
set_option linter.unusedSectionVars false
namespace Go.E
open Go Go.Sort Go.Proofs
def et (x:Bytes) (s:Sp):Bool:=decide (¬ x < s.s∧x < s.e)
def db {β:Type} (π:K→β) (V:List Sp) (x:Bytes):List β:=match V.find? (et x) with
 | some s=>s.ks.map π
 | none=>[]
structure Mx {β:Type} (π:K→β) (V:List Sp):Prop where
 ne:∀ s ∈ V,s.s < s.e∧s.ks≠[]
 pw:V.Pairwise fun a b=>¬ b.s < a.e
 mx:∀ l a b m,V=l++a :: b :: m→a.e=b.s→a.ks.map π≠b.ks.map π
section
variable {β:Type} [DecidableEq β] {π:K→β}
theorem Mx.tail {a:Sp} {V:List Sp} (h:Mx π (a :: V)):Mx π V:=⟨fun s hs=>h.ne s (aW _ hs),h.pw.of_cons,fun l x b m e=>h.mx (a :: l) x b m (by rw [e]; rfl)⟩
theorem ue (x:Bytes):db π [] x=[]:=rfl
theorem ij {a:Sp} {V:List Sp} {x:Bytes} (h1:¬ x < a.s) (h2:x < a.e):db π (a :: V) x=a.ks.map π:=by
 unfold db
 rw [List.find?_cons_of_pos (show et x a=true from aV ⟨h1,h2⟩)]
theorem px {a:Sp} {V:List Sp} {x:Bytes} (h:¬ (¬ x < a.s∧x < a.e)):db π (a :: V) x=db π V x:=by
 unfold db
 rw [List.find?_cons_of_neg (by unfold et; simpa using h)]
theorem yC {V:List Sp} {x:Bytes} (h:∀ s ∈ V,x < s.s):db π V x=[]:=by
 unfold db
 have:V.find? (et x)=none:=List.find?_eq_none.2 fun s hs=>by
  unfold et
  rw [decide_eq_true_eq]
  exact fun hh=>hh.1 (h s hs)
 rw [this]
theorem sI {V:List Sp} {x:Bytes} (h:db π V x≠[]):∃ s ∈ V,¬ x < s.s∧x < s.e∧db π V x=s.ks.map π:=by
 unfold db at h ⊢
 cases hf:V.find? (et x) with
 | none=>rw [hf] at h; exact absurd rfl h
 | some s =>
  have:=List.find?_some hf
  unfold et at this
  rw [decide_eq_true_eq] at this
  exact ⟨s,List.mem_of_find?_eq_some hf,this.1,this.2,rfl⟩
theorem Mx.after {a:Sp} {V:List Sp} (h:Mx π (a :: V)) {x:Bytes} (hx:x < a.e):db π V x=[] :=
 yC fun _ hs=>cY hx (bI h.pw hs)
theorem kG {l:List K} (h:l≠[]):l.map π≠[]:=by simpa using h
theorem EV {a b:Sp} {V W:List Sp} (hV:Mx π (a :: V)) (hW:Mx π (b :: W)) (hf:∀ x,db π (a :: V) x=db π (b :: W) x) (hs:a.s=b.s) (hk:a.ks.map π=b.ks.map π):¬ a.e < b.e:=fun hlt=>by
 have ha:=hV.ne a aK
 have e:=hf a.e
 rw [ij (by rw [← hs]; exact iw ha.1) hlt,px (fun h=>bQ _ h.2)] at e
 obtain ⟨c,hc,h1,h2,h3⟩:=sI (V:=V) (x:=a.e) (by rw [e]; exact kG (hW.ne b aK).2)
 cases V with
 | nil=>simp at hc
 | cons d V =>
  have hd:=hV.ne d (by simp)
  have hda:¬ d.s < a.e:=bI hV.pw aK
  have hdc:¬ c.s < d.s:=by
   rcases av.1 hc with rfl | hc
   ·exact bQ _
   ·have:=bI hV.tail.pw hc
    exact fun h=>this (List.lt_trans h hd.1)
  have hae:a.e=d.s:=by
   refine eY (fun h=>h1 (cY h hdc)) hda
  have:db π (d :: V) a.e=d.ks.map π:=ij (by rw [hae]; exact bQ _) (by rw [hae]; exact hd.1)
  exact hV.mx [] a d V rfl hae (by rw [hk,← e,this])
def FG (π:K→β) (s:Sp):Bytes × Bytes × List β:=(s.s,s.e,s.ks.map π)
theorem Ht {a b:Sp} (h1:a.s=b.s) (h2:a.e=b.e) (h3:a.ks.map π=b.ks.map π):FG π a=FG π b:=by unfold FG; rw [h1,h2,h3]
theorem CD (V W:List Sp) (hV:Mx π V) (hW:Mx π W) (hf:∀ x,db π V x=db π W x):V.map (FG π)=W.map (FG π):=by
 induction V generalizing W with
 | nil =>
  cases W with
  | nil=>rfl
  | cons b W =>
   have hb:=hW.ne b aK
   have:=hf b.s
   rw [ij (bQ _) hb.1,ue] at this
   exact absurd this.symm (kG hb.2)
 | cons a V ih =>
  cases W with
  | nil =>
   have hb:=hV.ne a aK
   have:=hf a.s
   rw [ij (bQ _) hb.1,ue] at this
   exact absurd this (kG hb.2)
  | cons b W =>
   have ha:=hV.ne a aK
   have hb:=hW.ne b aK
   have first:∀ {c:Sp} {U:List Sp},Mx π (c :: U)→∀ {x},db π (c :: U) x≠[]→¬ x < c.s:=by
    intro c U hU x hx
    obtain ⟨s,hs,h1,h2,_⟩:=sI hx
    rcases av.1 hs with rfl | hs
    ·exact h1
    ·have h3:=bI hU.pw hs
     have h4:=(hU.ne c aK).1
     intro h5
     exact h1 (cY (List.lt_trans h5 h4) h3)
   have hs:a.s=b.s:=by
    refine eY (first hW ?_) (first hV ?_)
    ·rw [← hf,ij (bQ _) ha.1]; exact kG ha.2
    ·rw [hf,ij (bQ _) hb.1]; exact kG hb.2
   have hk:a.ks.map π=b.ks.map π:=by
    have:=hf a.s
    rwa [ij (bQ _) ha.1,hs,ij (bQ _) hb.1] at this
   have he:a.e=b.e:=eY (EV hV hW hf hs hk) (EV hW hV (fun x=>(hf x).symm) hs.symm hk.symm)
   rw [List.map_cons,List.map_cons,Ht hs he hk]
   congr 1
   refine ih W hV.tail hW.tail fun x => ?_
   by_cases hx:x < a.e
   ·rw [hV.after hx,hW.after (he ▸ hx)]
   ·have:=hf x
    rwa [px (fun h=>hx h.2),px (fun h=>hx (he ▸ h.2))] at this
def gU (V:List Sp):List Sp:=V.filter fun s=>decide (s.ks≠[])
theorem Ad {G:List Sp} (hw:Wf G):Mx π (gU (Vw π G)):=by
 have hv:=Ab (π:=π) hw
 have hp:(Vw π G).Pairwise fun a b=>¬ b.s < a.e:=by
  rw [bJ]
  intro i j hi hj hij
  have:=hv.2 i j hij hj
  rw [aI (Vw π G) i hi,aI (Vw π G) j hj] at this
  grind
 have hne:∀ s ∈ Vw π G,s.s < s.e:=fun s hs=>by
  obtain ⟨i,hi,rfl⟩:=bB hs
  have:=hv.1 i hi
  rwa [aI (Vw π G) i hi] at this
 refine ⟨fun s hs => ?_,hp.filter _,fun l a b m e hab hk => ?_⟩
 ·have:=bH.1 hs
  exact ⟨hne s this.1,of_decide_eq_true this.2⟩
 ·
  have hsub:∃ p,p+1 < (Vw π G).length∧(Vw π G)[p]! = a∧(Vw π G)[p+1]! = b:=by
   have hma:a ∈ gU (Vw π G):=by rw [e]; simp
   have hmb:b ∈ gU (Vw π G):=by rw [e]; simp
   obtain ⟨i,hi,ei⟩:=bB (bH.1 hma).1
   obtain ⟨j,hj,ej⟩:=bB (bH.1 hmb).1
   have ha:=hne a (bH.1 hma).1
   have hb:=hne b (bH.1 hmb).1
   have hpi:=bJ.1 hp
   have hij:i < j:=by
    rcases dE i j with h | h | h
    ·exact h
    ·subst h
     rw [ei] at ej
     subst ej
     rw [hab] at ha
     exact absurd ha (bQ _)
    ·have:=hpi j i hj hi h
     rw [ei,ej] at this
     exfalso
     exact this (List.lt_trans ha (hab ▸ hb))
   refine ⟨i,by omega,by rw [aI (Vw π G) i hi]; exact ei,?_⟩
   rcases aH (i+1) j with h | h
   ·exfalso
    have h1:=hpi i (i+1) hi (by omega) (by omega)
    have h2:=hpi (i+1) j (by omega) hj h
    have h3:=hne _ (an (by omega:i+1 < (Vw π G).length))
    rw [ei] at h1
    rw [ej,← hab] at h2
    exact h1 (cY h3 h2)
   ·obtain rfl:j=i+1:=by omega
    rw [aI (Vw π G) (i+1) hj]; exact ej
  obtain ⟨p,hp1,hpa,hpb⟩:=hsub
  rw [fL] at hp1
  have hn:=AQ (G:=G) (show p < (dJ π G).length by omega)
  have h1:=fw (G:=G) (show p < (dJ π G).length by omega)
  rw [mj (by omega:p < (dJ π G).length)] at hpa
  rw [mj hp1] at hpb
  have hs:=jz hp1
  refine hn ⟨?_,?_,?_,?_⟩
  ·have:=(iS hp1).1; omega
  ·rw [show kO π G p - 1+1=(dJ π G)[p+1]! by omega]
   rw [← hpa,← hpb] at hab
   exact hab
  ·have hka:a.ks≠[]:=of_decide_eq_true (bH.1 (show a ∈ gU (Vw π G) by rw [e]; simp)).2
   have:=rp (π:=π) (G:=G) (p:=p) (j:=kO π G p - 1) (by omega) (by omega) (by omega)
   intro h0
   rw [h0] at this
   rw [← hpa] at hka
   exact hka (by simpa using this.symm)
  ·have:=rp (π:=π) (G:=G) (p:=p) (j:=kO π G p - 1) (by omega) (by omega) (by omega)
   rw [this,show kO π G p - 1+1=(dJ π G)[p+1]! by omega]
   rw [← hpa,← hpb] at hk
   exact hk
theorem kH {V:List Sp} (hw:Wf V) {j:Nat} {x:Bytes} (hj:j < V.length) (h1:¬ x < V[j]!.s) (h2:x < V[j]!.e):db π V x=V[j]!.ks.map π:=by
 unfold db
 cases hf:V.find? (et x) with
 | none =>
  have:=List.find?_eq_none.1 hf V[j]! (by rw [aI V j hj]; exact an hj)
  unfold et at this
  rw [decide_eq_true_eq] at this
  exact absurd ⟨h1,h2⟩ this
 | some s =>
  have h3:=List.find?_some hf
  unfold et at h3
  rw [decide_eq_true_eq] at h3
  obtain ⟨i,hi,e⟩:=bB (List.mem_of_find?_eq_some hf)
  have hij:i=j:=by
   rcases dE i j with h | h | h
   ·have:=hw.2 i j h hj
    rw [aI V i hi,e] at this
    exact absurd (cY h3.2 (by grind)) h1
   ·exact h
   ·have:=hw.2 j i h hi
    rw [aI V i hi,e] at this
    exact absurd (cY h2 (by grind)) h3.1
  subst hij
  rw [aI V i hi,e]
theorem lC {V:List Sp} {x:Bytes} (h:∀ j,j < V.length→¬ (¬ x < V[j]!.s∧x < V[j]!.e)):db π V x=[]:=by
 unfold db
 have:V.find? (et x)=none:=List.find?_eq_none.2 fun s hs=>by
  obtain ⟨j,hj,e⟩:=bB hs
  have:=h j hj
  rw [aI V j hj,e] at this
  unfold et
  rw [decide_eq_true_eq]
  exact this
 rw [this]
theorem Hu {G:List Sp} (hw:Wf G) {p:Nat} (hp:p < (dJ π G).length) {x:Bytes} (h1:¬ x < G[(dJ π G)[p]!]!.s) (h2:x < G[kO π G p - 1]!.e):∃ j,(dJ π G)[p]! ≤ j∧j < kO π G p∧¬ x < G[j]!.s∧x < G[j]!.e:=by
 have hg:=fw hp
 have aux:∀ m,(dJ π G)[p]! + m < kO π G p→(x < G[(dJ π G)[p]! + m]!.e)→∃ j,(dJ π G)[p]! ≤ j∧j < kO π G p∧¬ x < G[j]!.s∧x < G[j]!.e:=by
  intro m
  induction m with
  | zero=>intro h3 h4; exact ⟨(dJ π G)[p]!,aF _,by omega,h1,h4⟩
  | succ m ih =>
   intro h3 h4
   by_cases h5:x < G[(dJ π G)[p]! + m]!.e
   ·exact ih (by omega) h5
   ·have hj:=AP hp (j:=(dJ π G)[p]! + m) (by omega) (by omega)
    refine ⟨(dJ π G)[p]! + (m+1),by omega,h3,?_,h4⟩
    rw [show (dJ π G)[p]! + (m+1)=(dJ π G)[p]! + m+1 by omega,← hj.2.1]
    exact h5
 refine aux (kO π G p - 1 - (dJ π G)[p]!) (by omega) ?_
 rw [show (dJ π G)[p]! + (kO π G p - 1 - (dJ π G)[p]!)=kO π G p - 1 by omega]
 exact h2
theorem yD {G:List Sp} (hw:Wf G) (x:Bytes):db π (Vw π G) x=db π G x:=by
 by_cases h:∃ p,p < (dJ π G).length∧¬ x < G[(dJ π G)[p]!]!.s∧x < G[kO π G p - 1]!.e
 ·obtain ⟨p,hp,h1,h2⟩:=h
  obtain ⟨j,h3,h4,h5,h6⟩:=Hu hw hp h1 h2
  have hv:=mj hp
  have hg:=fw hp
  rw [kH (Ab hw) (j:=p) (by rw [fL]; exact hp) (by rw [hv]; exact h1) (by rw [hv]; exact h2),kH hw (j:=j) (by omega) h5 h6,hv,rp hp h3 h4]
 ·rw [lC,lC]
  ·intro j hj hh
   obtain ⟨p,hp,h3,h4⟩:=Hf (π:=π) hj
   have hg:=fw hp
   refine h ⟨p,hp,fun h5 => ?_,?_⟩
   ·refine hh.1 (cY h5 ?_)
    rcases aH (dJ π G)[p]! j with h6 | h6
    ·have a:=hw.2 _ _ h6 hj
     have b:=hw.1 _ (iS hp).1
     exact fun h7=>by exact absurd (List.lt_trans h7 b) (by grind)
    ·rw [show (dJ π G)[p]! = j by omega]; exact bQ _
   ·have:=hw.ends (i:=j) (j:=kO π G p - 1) (by omega) (by omega)
    exact cY hh.2 (by grind)
  ·intro j hj hh
   rw [fL] at hj
   rw [mj hj] at hh
   exact h ⟨j,hj,hh⟩
theorem sJ {V:List Sp} (hw:Wf V) (x:Bytes):db π (gU V) x=db π V x:=by
 by_cases h:∃ j,j < V.length∧¬ x < V[j]!.s∧x < V[j]!.e
 ·obtain ⟨j,hj,h1,h2⟩:=h
  rw [kH hw hj h1 h2]
  unfold db
  cases hf:(gU V).find? (et x) with
  | none =>
   simp only
   have hk:V[j]!.ks=[]:=Classical.byContradiction fun hk=>by
    have:=List.find?_eq_none.1 hf V[j]! (bH.2 ⟨by rw [aI V j hj]; exact an hj,aV hk⟩)
    unfold et at this
    rw [decide_eq_true_eq] at this
    exact this ⟨h1,h2⟩
   rw [hk]
   rfl
  | some s =>
   have h3:=List.find?_some hf
   unfold et at h3
   rw [decide_eq_true_eq] at h3
   have hm:=(bH.1 (List.mem_of_find?_eq_some hf)).1
   obtain ⟨i,hi,e⟩:=bB hm
   have h4:=kH (π:=π) hw hi (x:=x) (by rw [aI V i hi,e]; exact h3.1) (by rw [aI V i hi,e]; exact h3.2)
   rw [kH hw hj h1 h2,aI V i hi,e] at h4
   exact h4.symm
 ·rw [lC (V:=V) fun j hj hh=>h ⟨j,hj,hh⟩]
  unfold db
  have:(gU V).find? (et x)=none:=List.find?_eq_none.2 fun s hs=>by
   obtain ⟨j,hj,e⟩:=bB (bH.1 hs).1
   unfold et
   rw [decide_eq_true_eq]
   intro hh
   exact h ⟨j,hj,by rw [aI V j hj,e]; exact hh⟩
  rw [this]
theorem vq {G H:List Sp} (hG:Wf G) (hH:Wf H) (h:∀ x,db π G x=db π H x):(gU (Vw π G)).map (FG π)=(gU (Vw π H)).map (FG π) :=
 CD _ _ (Ad hG) (Ad hH) fun x=>by rw [sJ (Ab hG),sJ (Ab hH),yD hG,yD hH,h]
end
theorem F6 {V W:List Sp} (h:V.map (FG K.sv)=W.map (FG K.sv)):V.map cW=W.map cW:=by
 have e:∀ V:List Sp,V.map cW=(V.map (FG K.sv)).map fun x=>(⟨x.1,x.2.1,x.2.2.map iD⟩:Sp):=fun V=>by
  rw [cv]; rfl
 rw [e,e,h]
theorem yE {G H:List Sp} (hG:Wf G) (hH:Wf H) (h:∀ x,db K.sv G x=db K.sv H x):(gU (Vw K.sv G)).map cW=(gU (Vw K.sv H)).map cW:=F6 (vq hG hH h)
end Go.E
end
section
namespace Go.E
open Go Go.Sort Go.Proofs
def fh (l:List Sp) (x:Bytes):List K:=l.flatMap fun s=>if et x s then s.ks else []
theorem eu {x:Bytes} {s:Sp}:et x s=true↔¬ x < s.s∧x < s.e:=by unfold et; rw [decide_eq_true_eq]
theorem Hv {L:List Sp} (h:Wf L) {x:Bytes} {j:Nat} (hj:j < L.length):et x L[j]! = true↔cE L x=2 * j+1:=by
 have b0:iA L (2 * j)=L[j]!.s:=by unfold iA; rw [if_pos (by omega),show 2 * j / 2=j by omega]
 have b1:iA L (2 * j+1)=L[j]!.e:=by unfold iA; rw [if_neg (by omega),show (2 * j+1) / 2=j by omega]
 have c0:=AM h (x:=x) (by omega:2 * j < 2 * L.length)
 have c1:=AM h (x:=x) (by omega:2 * j+1 < 2 * L.length)
 rw [b0] at c0
 rw [b1] at c1
 rw [eu,← c0]
 constructor
 ·rintro ⟨h1,h2⟩
  have:¬ 2 * j+1 < cE L x:=fun h3=>c1.1 h3 h2
  omega
 ·intro h1
  refine ⟨by omega,Classical.byContradiction fun h2 => ?_⟩
  have:=c1.2 h2
  omega
theorem EW {L:List Sp} (h:Wf L) (x:Bytes):fh L x=if cE L x % 2=1 then L[cE L x / 2]!.ks else []:=by
 obtain ⟨c,hc⟩:∃ c,c=cE L x:=⟨_,rfl⟩
 have hle:=Dm L x
 rw [← hc] at hle ⊢
 have key:∀ (A:List Sp) (o:Nat),(∀ j,j < A.length→o+j < L.length∧A[j]! = L[o+j]!)→fh A x=if c % 2=1∧o≤c / 2∧c / 2 < o+A.length then L[c / 2]!.ks else []:=by
  intro A
  induction A with
  | nil =>
   intro o _
   rw [if_neg (by simp only [List.length_nil]; omega)]
   rfl
  | cons a A ih =>
   intro o hA
   have h0:=hA 0 (by simp)
   have hx:a=L[o]! := by simpa using h0.2
   have ih:=ih (o+1) fun j hj=>by
    have:=hA (j+1) (by simp only [aZ]; omega)
    rw [show o+(j+1)=o+1+j by omega] at this
    refine ⟨this.1,?_⟩
    rw [← this.2,aI A j hj,aI (a :: A) (j+1) (by simp only [aZ]; omega)]
    rfl
   show (if et x a then a.ks else [])++fh A x=_
   rw [ih,hx]
   have hc1:=Hv h (x:=x) (j:=o) (by omega)
   rw [← hc] at hc1
   by_cases hco:c=2 * o+1
   ·rw [if_pos (hc1.2 hco),if_neg (by omega),if_pos (by simp only [aZ]; omega),ao,show c / 2=o by omega]
   ·rw [if_neg (fun h=>hco (hc1.1 h)),List.nil_append]
    by_cases h5:c % 2=1∧o+1≤c / 2∧c / 2 < o+1+A.length
    ·rw [if_pos h5,if_pos (by simp only [aZ]; omega)]
    ·rw [if_neg h5,if_neg (by simp only [aZ]; omega)]
 have:=key L 0 fun j hj=>⟨by omega,by rw [Nat.zero_add]⟩
 rw [this]
 by_cases h5:c % 2=1
 ·rw [if_pos (by omega),if_pos h5]
 ·rw [if_neg (by omega),if_neg h5]
theorem dz (a b:List Sp) (x:Bytes):fh (a++b) x=fh a x++fh b x:=by unfold fh; rw [ay]
theorem yF (Lv:List (List Sp)) (x:Bytes):fh Lv.flatten x=Lv.flatMap fun L=>fh L x:=by
 induction Lv with
 | nil=>rfl
 | cons L Lv ih=>rw [List.flatten_cons,dz,ih,ae]
theorem tY {α β:Type} [Inhabited α] (l:List α) (f:α→List β):(List.range l.length).flatMap (fun i=>f l[i]!)=l.flatMap f:=by
 induction l with
 | nil=>rfl
 | cons a l ih =>
  rw [aZ,List.range_succ_eq_map,ae,List.flatMap_map,ae,← ih]
  rfl
section
variable {Lv:List (List Sp)} {snap:Nat}
theorem o0 (h:∀ L ∈ Lv,Wf L) (x:Bytes) (u:Nat) (hu:∀ i,i < Lv.length→cp (fR Lv) (cN Lv.flatten) u i=cE (fR Lv i) x):cy Lv.length (fR Lv) (cN Lv.flatten) u=fh Lv.flatten x:=by
 rw [yF,← tY]
 unfold cy
 refine kF fun i hi => ?_
 rw [List.mem_range] at hi
 rw [hu i hi]
 have:Wf Lv[i]! := by rw [aI Lv i hi]; exact h _ (an hi)
 rw [EW this]
 rfl
theorem EX (h:∀ L ∈ Lv,Wf L) {u:Nat} (h0:0 < u):cy Lv.length (fR Lv) (cN Lv.flatten) u=fh Lv.flatten (cN Lv.flatten)[u - 1]! :=
 o0 h _ u fun i _=>by unfold cp; rw [if_neg (by omega)]
theorem zg (h:∀ L ∈ Lv,Wf L):cy Lv.length (fR Lv) (cN Lv.flatten) 0=[]:=by
 unfold cy
 refine List.flatMap_eq_nil_iff.2 fun i hi => ?_
 rw [if_neg (by unfold cp; simp)]
theorem Jm (h:∀ L ∈ Lv,Wf L) (hc:∀ x,Cd (fh Lv.flatten x)) (u:Nat):Cd (cy Lv.length (fR Lv) (cN Lv.flatten) u):=by
 rcases bt u with rfl | h0
 ·rw [zg h]; exact ⟨.nil,by simp⟩
 ·rw [EX h h0]; exact hc _
theorem Hw:Tf snap []=[]:=by unfold Tf; simp
theorem CE {β:Type} [DecidableEq β] {π:K→β} {F:List K→List K} (hF0:F []=[]) (h:∀ L ∈ Lv,Wf L) (x:Bytes):db π (GL F Lv.length (fR Lv) (cN Lv.flatten)) x=(F (fh Lv.flatten x)).map π:=by
 have hB:=kz h
 obtain ⟨B,hBe⟩:∃ B,B=cN Lv.flatten:=⟨_,rfl⟩
 have hf:=o0 h x (uE B x) (by rw [← hBe]; rw [← hBe] at hB; exact fun i hi=>Gj hB hi x)
 rw [← hBe] at hB hf ⊢
 have hu:=Do B x
 cases hcv:tE Lv.length (fR Lv) B (uE B x) with
 | true =>
  have hc:=rh hB hu hcv
  obtain ⟨j,hj,ej⟩:=bB (gO.2 ⟨hu,hcv⟩)
  have e':(eK Lv.length (fR Lv) B)[j]? = some (uE B x):=by rw [aD hj,ej]
  have hg:=rq (F:=F) e'
  have h1:=(xO hB (key:=x) (j:=uE B x - 1) (by omega)).1 (by omega)
  have h2:x < B[uE B x]! := Classical.byContradiction fun h3=>by
   have:=(xO hB (key:=x) (j:=uE B x) hc.2).2 h3
   omega
  rw [kH (xN hB) (j:=j) (by rw [dX]; exact hj) (by rw [hg]; exact h1) (by rw [hg]; exact h2),hg,← hf]
  rfl
 | false =>
  have h0:cy Lv.length (fR Lv) B (uE B x)=[]:=by
   unfold cy
   refine List.flatMap_eq_nil_iff.2 fun i hi => ?_
   rw [if_neg fun h1 => ?_]
   rw [oR.2 ⟨i,List.mem_range.1 hi,h1⟩] at hcv
   cases hcv
  rw [← hf,h0,hF0,lC fun j hj hh => ?_]
  ·rfl
  ·rw [dX] at hj
   have e:(eK Lv.length (fR Lv) B)[j]? = some (eK Lv.length (fR Lv) B)[j]:=aD hj
   obtain ⟨u,hue⟩:∃ u,u=(eK Lv.length (fR Lv) B)[j]:=⟨_,rfl⟩
   rw [← hue] at e
   have hm:=gO.1 (aO e)
   have hc:=rh hB hm.1 hm.2
   rw [rq e] at hh
   have h1:=(xO hB (key:=x) (j:=u - 1) (by omega)).2 hh.1
   have h2:¬ u < uE B x:=fun h3=>(xO hB (key:=x) (j:=u) hc.2).1 h3 hh.2
   have:uE B x=u:=by omega
   rw [this,hm.2] at hcv
   cases hcv
theorem yG (h:∀ L ∈ Lv,Wf L) (x:Bytes):db K.sv (GL (Tf snap) Lv.length (fR Lv) (cN Lv.flatten)) x=(Tf snap (fh Lv.flatten x)).map K.sv:=CE Hw h x
end
end Go.E
end
section
namespace Go.E
open Go Go.Sort Go.Proofs
def Ch (V:List Sp):Prop:=(∀ s ∈ V,s.s < s.e)∧V.Pairwise fun a b=>¬ b.s < a.e
theorem uf {V:List Sp}:Wf V↔Ch V:=by
 unfold Wf Ch
 rw [bJ]
 constructor
 ·rintro ⟨h1,h2⟩
  refine ⟨fun s hs => ?_,fun i j hi hj hij => ?_⟩
  ·obtain ⟨j,hj,rfl⟩:=bB hs
   have:=h1 j hj
   rwa [aI V j hj] at this
  ·have:=h2 i j hij hj
   rw [aI V i hi,aI V j hj] at this
   grind
 ·rintro ⟨h1,h2⟩
  refine ⟨fun i hi => ?_,fun i j hij hj => ?_⟩
  ·rw [aI V i hi]; exact h1 _ (an hi)
  ·have:=h2 i j (by omega) hj hij
   rw [aI V i (by omega),aI V j hj]
   grind
end Go.E
end
section
namespace Go.E
open Go Go.Sort Go.Proofs
def Im (V:List Sp) (o:Option Int):Option Nat:=match o with
 | some p=>if 0≤p∧p < V.length then some p.toNat else none
 | none=>none
theorem zh {V:List Sp} {p:Nat} (h:p < V.length):Im V (some (p:Int))=some p:=(if_pos ⟨by omega,by omega⟩).trans (by simp)
theorem vr {V:List Sp} {p:Int} (h:¬ (0≤p∧p < V.length)):Im V (some p)=none:=if_neg h
theorem sK (V:List Sp) (p:Int) {last:Nat} (hl:last≠5∧last≠3) (m:Nat):(pX V p false last (List.replicate m (2,[]))).filterMap (Im V)=[]:=by
 induction m with
 | zero=>rfl
 | succ m ih =>
  rw [List.replicate_succ]
  unfold pX
  have:uY 2 false last=false:=by simp [uY,hl]
  rw [this,if_neg (by simp)]
  exact ih
theorem zi (V:List Sp) {last:Nat} (m p:Nat) (hp:p < V.length) (hm:V.length≤p+m+1):(pX V p true last (List.replicate m (2,[]))).filterMap (Im V)=List.range' (p+1) (V.length - (p+1)):=by
 induction m generalizing p last with
 | zero =>
  rw [show V.length - (p+1)=0 by omega]
  rfl
 | succ m ih =>
  rw [List.replicate_succ]
  unfold pX
  have:uY 2 true last=true:=by simp [uY]
  rw [this,if_pos rfl]
  have hmv:mv V p 2 []=((p+1:Nat):Int):=by simp [mv]
  rw [hmv]
  rcases aH (p+1) V.length with h | h
  ·have hi:Bk V ((p+1:Nat):Int)=true:=aV (by omega)
   rw [hi,List.filterMap_cons,zh h,ih (p+1) h (by omega)]
   simp only
   rw [show V.length - (p+1)=V.length - (p+1+1)+1 by omega,List.range'_succ]
  ·have hi:Bk V ((p+1:Nat):Int)=false:=aG (by omega)
   rw [hi,List.filterMap_cons,vr (by omega),sK V _ (by decide)]
   rw [show V.length - (p+1)=0 by omega]
   rfl
theorem CF (V:List Sp) (m:Nat) (hm:V.length≤m+1):(pX V (-2) false 0 ((0,[]) :: List.replicate m (2,[]))).filterMap (Im V)=List.range V.length:=by
 unfold pX
 have:uY 0 false 0=true:=rfl
 rw [this,if_pos rfl]
 have hmv:mv V (-2) 0 []=((0:Nat):Int):=rfl
 rw [hmv]
 rcases bt V.length with h | h
 ·have hi:Bk V ((0:Nat):Int)=false:=aG (by omega)
  rw [hi,List.filterMap_cons,vr (by omega),sK V _ (by decide),h]
  rfl
 ·have hi:Bk V ((0:Nat):Int)=true:=aV (by omega)
  rw [hi,List.filterMap_cons,zh h,zi V m 0 h (by omega)]
  simp only
  rw [List.range_eq_range',← List.range'_succ,show V.length - (0+1)+1=V.length by omega]
def mE (l:List An):List Sp:=(l.filter fun a=>a.ok).map An.sp
theorem EY {V:List Sp} {KS:List K→Prop} {outs:List (Option Int)} {l:List An} (h:Pw (mm V (FB KS)) outs l):(mE l).map cW=((outs.filterMap (Im V)).map fun p=>cW V[p]!)∧∀ s ∈ mE l,KS s.ks:=by
 induction outs generalizing l with
 | nil =>
  obtain rfl:l=[]:=ak.1 h.1.symm
  exact ⟨rfl,by simp [mE]⟩
 | cons o outs ih =>
  cases l with
  | nil=>simp [Pw] at h
  | cons a l =>
   have hp:Pw (mm V (FB KS)) outs l:=⟨by simpa using h.1,fun i x y hx hy=>h.2 (i+1) x y (by simpa using hx) (by simpa using hy)⟩
   obtain ⟨i1,i2⟩:=ih hp
   have ha:mm V (FB KS) o a:=h.2 0 o a rfl rfl
   unfold mE at i1 i2 ⊢
   cases o with
   | none =>
    have ha:a=⟨false,false,⟨[],[],[]⟩⟩:=ha
    rw [ha,List.filter_cons_of_neg (by simp),List.filterMap_cons]
    exact ⟨i1,i2⟩
   | some p =>
    obtain ⟨h1,h2,h3,h4⟩:=ha
    by_cases hin:0≤p∧p < V.length
    ·have hv:Bk V p=true:=aV hin
     rw [hv] at h2
     obtain ⟨q,rfl⟩:∃ q:Nat,p=q:=⟨p.toNat,by omega⟩
     obtain ⟨e1,e2,e3,e4⟩:=h3 q rfl (by omega)
     rw [List.filter_cons_of_pos h2,List.filterMap_cons,zh (by omega)]
     simp only [List.map_cons]
     refine ⟨by rw [i1,EU e1 e2 e3],fun s hs => ?_⟩
     rcases av.1 hs with rfl | hs
     ·exact e4
     ·exact i2 s hs
    ·have hv:Bk V p=false:=aG hin
     rw [hv] at h2
     rw [List.filter_cons_of_neg (by simp [h2]),List.filterMap_cons,vr hin]
     exact ⟨i1,i2⟩
theorem vt (V:List Sp):(List.range V.length).map (fun p=>cW V[p]!)=V.map cW:=by
 refine List.ext_getElem (by simp) fun i h1 h2 => ?_
 rw [iN,iN,List.getElem_range,aI V i (by simpa using h2)]
end Go.E
end
section
namespace Go.E
open Go Go.Sort Go.Proofs
def mn (ks:List K):Prop:=(∀ x ∈ ks,(au x.tr=19∨au x.tr=20∨au x.tr=21)∧(au x.tr=19→x.suf=[])∧(au x.tr≠21→x.val=[])) ∧
 ks.Pairwise fun x k=>¬ x.tr < k.tr∧¬ (x.tr / 256=k.tr / 256∧x.suf=k.suf∧(au k.tr=19↔au x.tr=19))
theorem mn.cd {ks:List K} (h:mn ks):Cd ks:=by
 refine ⟨h.2.imp fun {x y} hxy e e2=>hxy.2 ⟨by rw [e2],e,by rw [e2]⟩,fun x hx=>(h.1 x hx).1⟩
theorem Cd.perm {a b:List K} (h:Cd a) (p:a.Perm b):Cd b:=⟨(List.Perm.pairwise_iff (fun {x y} h e e2=>h e.symm e2.symm) p).1 h.dist,fun x hx=>h.kind x (p.mem_iff.2 hx)⟩
structure LvOk (Lv:List (List Sp)) (n:Nat):Prop where
 n6:Lv.length≤6
 sz:∀ L ∈ Lv,L.length≤n
 wf:∀ L ∈ Lv,Wf L
 ks:∀ L ∈ Lv,∀ s ∈ L,s.ks≠[]∧s.ks.length≤40
 rk:∀ f ∈ df Lv.flatten,mn f.ks
theorem mF (b:List Bytes) (x:Bytes):(jW b x).length≤b.length+1:=by
 unfold jW
 split
 ·omega
 ·rw [xr]; exact aF _
theorem gE (l:List Sp):(cN l).length≤2 * l.length:=by
 have aux:∀ (l:List Sp) (b:List Bytes),(l.foldl (fun b s=>jW (jW b s.s) s.e) b).length≤b.length+2 * l.length:=by
  intro l
  induction l with
  | nil=>exact fun b=>aF _
  | cons s l ih =>
   intro b
   rw [List.foldl_cons,aZ]
   have h1:=ih (jW (jW b s.s) s.e)
   have h2:=mF b s.s
   have h3:=mF (jW b s.s) s.e
   omega
 have:=aux l []
 simpa [cN] using this
theorem fZ {α:Type} {Lv:List (List α)} {n:Nat} (h:∀ L ∈ Lv,L.length≤n):Lv.flatten.length≤Lv.length * n:=by
 induction Lv with
 | nil=>simp
 | cons L Lv ih =>
  have h1:=h L aK
  have h2:=ih fun L hL=>h L (aW _ hL)
  rw [List.flatten_cons,aE,aZ,Nat.add_mul]
  omega
section
variable {Lv:List (List Sp)} {n:Nat}
theorem LvOk.cd (h:LvOk Lv n) (x:Bytes):Cd (fh Lv.flatten x):=by
 have hB:=kz h.wf
 have hf:=o0 h.wf x (uE (cN Lv.flatten) x) fun i hi=>Gj hB hi x
 rw [← hf]
 cases hcv:tE Lv.length (fR Lv) (cN Lv.flatten) (uE (cN Lv.flatten) x) with
 | true =>
  have hm:(⟨(cN Lv.flatten)[uE (cN Lv.flatten) x - 1]!,(cN Lv.flatten)[uE (cN Lv.flatten) x]!,dy (cy Lv.length (fR Lv) (cN Lv.flatten) (uE (cN Lv.flatten) x))⟩:Sp) ∈ df Lv.flatten:=by
   rw [sE h.wf fun L hL s hs=>(h.ks L hL s hs).1,bj]
   exact ⟨_,gO.2 ⟨Do _ _,hcv⟩,rfl⟩
  exact (h.rk _ hm).cd.perm (eh _)
 | false =>
  have h0:cy Lv.length (fR Lv) (cN Lv.flatten) (uE (cN Lv.flatten) x)=[]:=by
   unfold cy
   refine List.flatMap_eq_nil_iff.2 fun i hi => ?_
   rw [if_neg fun h1 => ?_]
   rw [oR.2 ⟨i,List.mem_range.1 hi,h1⟩] at hcv
   cases hcv
  rw [h0]
  exact ⟨.nil,by simp⟩
theorem EZ {Lv:List (List Sp)} {m:Nat} (h:∀ L ∈ Lv,∀ s ∈ L,s.ks.length≤m) (B:List Bytes) (u:Nat):(cy Lv.length (fR Lv) B u).length≤Lv.length * m:=by
 unfold cy
 have:∀ l:List Nat,(∀ i ∈ l,i < Lv.length)→(l.flatMap fun i=>if cp (fR Lv) B u i % 2=1 then (fR Lv i)[cp (fR Lv) B u i / 2]!.ks else []).length≤l.length * m:=by
  intro l
  induction l with
  | nil=>intro _; simp
  | cons i l ih =>
   intro hl
   have hi:=hl i aK
   have:=ih fun j hj=>hl j (aW _ hj)
   rw [ae,aE,aZ,Nat.add_mul]
   have hh:(if cp (fR Lv) B u i % 2=1 then (fR Lv i)[cp (fR Lv) B u i / 2]!.ks else []).length≤m:=by
    split
    ·have hL:fR Lv i ∈ Lv:=by unfold fR; rw [aI Lv i hi]; exact an hi
     have hlt:cp (fR Lv) B u i / 2 < (fR Lv i).length:=by have:=jw (L:=fR Lv) (B:=B) u i; omega
     rw [aI (fR Lv i) _ hlt]
     exact h _ hL _ (an hlt)
    ·exact aT _
   omega
 simpa using this (List.range Lv.length) fun i hi=>List.mem_range.1 hi
theorem vu (G:List Sp):(Vw K.sv G).length≤G.length:=by
 rw [fL]
 unfold dJ
 exact ah (bN _ _) (by simp)
theorem yH (Lv:List (List Sp)) (snap:Nat):(Vw K.sv (GL (Tf snap) Lv.length (fR Lv) (cN Lv.flatten))).length≤2 * Lv.flatten.length+1:=by
 refine ah (vu _) ?_
 rw [dX]
 unfold eK
 refine ah (bN _ _) ?_
 rw [List.length_range]
 have:=gE Lv.flatten
 omega
end
end Go.E
end
section
namespace Go.E
open Go Go.Sort Go.Proofs Go.Proofs.Tryz
theorem Ae (x y:Bytes):Op.bytesLess x y=decide (x < y):=by
 induction x generalizing y with
 | nil=>cases y <;> simp [Op.bytesLess]
 | cons a x ih =>
  cases y with
  | nil=>simp [Op.bytesLess]
  | cons b y =>
   rw [bG]
   simp [Op.bytesLess,ih,List.cons_lt_cons_iff]
section
variable {a b:Bytes} {q:Value→Prop}
@[go_sem high] theorem KN:jr .eql ⟨a.toArray⟩ ⟨b.toArray⟩ q=q (.bool (decide (a=b))):=by
 rw [DJ,ByteArray.toList_mk,ByteArray.toList_mk]
 congr 2
 rw [bG]; simp
@[go_sem high] theorem KO:jr .neq ⟨a.toArray⟩ ⟨b.toArray⟩ q=q (.bool (decide (a≠b))):=by
 rw [DL,ByteArray.toList_mk,ByteArray.toList_mk]
 congr 2
 rw [bG]; simp
@[go_sem high] theorem KP:jr .lss ⟨a.toArray⟩ ⟨b.toArray⟩ q=q (.bool (decide (a < b))):=by
 rw [DM,ByteArray.toList_mk,ByteArray.toList_mk,Ae]
theorem LS (a b:Bytes):(decide (a < b) || a == b)=decide (¬ b < a):=by
 rw [bG]
 simp only [Bool.or_eq_true,decide_eq_true_eq,beq_iff_eq]
 constructor
 ·rintro (h | rfl)
  ·exact iw h
  ·exact bQ _
 ·intro h
  rcases gV a b with h1 | h1 | h1
  ·exact .inl h1
  ·exact .inr h1
  ·exact absurd h1 h
@[go_sem high] theorem KQ:jr .leq ⟨a.toArray⟩ ⟨b.toArray⟩ q=q (.bool (decide (¬ b < a))):=by
 rw [DN,ByteArray.toList_mk,ByteArray.toList_mk,Ae,LS]
@[go_sem high] theorem KT:jr .gtr ⟨a.toArray⟩ ⟨b.toArray⟩ q=q (.bool (decide (b < a))):=by
 rw [DO,ByteArray.toList_mk,ByteArray.toList_mk,Ae,LS]
 by_cases h:b < a
 ·rw [aV h,aG fun hn=>hn h]; rfl
 ·rw [aG h,aV h]; rfl
@[go_sem high] theorem KU:jr .geq ⟨a.toArray⟩ ⟨b.toArray⟩ q=q (.bool (decide (¬ a < b))):=by
 rw [DQ,ByteArray.toList_mk,ByteArray.toList_mk,Ae]
 by_cases h:a < b
 ·rw [aV h,aG fun hn=>hn h]; rfl
 ·rw [aG h,aV h]; rfl
end
theorem Hx {l:List Sp} (h1:∀ i (h:i < l.length),l[i].s < l[i].e) (h2:∀ i (h:i+1 < l.length),¬ l[i+1].s < l[i].e):Wf l:=by
 refine ⟨fun i hi=>by rw [aI l i hi]; exact h1 i hi,fun i j hij hj => ?_⟩
 have aux:∀ m,∀ (hm:i+1+m < l.length),¬ l[i+1+m].s < (l[i]'(by omega)).e:=by
  intro m
  induction m with
  | zero=>intro hm; exact h2 i (by omega)
  | succ m ih =>
   intro hm h3
   have a:=h1 (i+1+m) (by omega)
   have b:=h2 (i+1+m) (by omega)
   exact ih (by omega) (List.lt_trans (cY a b) h3)
 rw [aI l i (by omega),aI l j hj]
 have:=aux (j - (i+1)) (by omega)
 simp only [show i+1+(j - (i+1))=j by omega] at this
 grind
end Go.E
namespace Go.Proofs
open Go Go.E Go.Sort Go.Proofs.Tryz
section
variable {k:aq} {d w:World}
theorem sL {t:Nat} (hk:k (.int .u8 (au t)) w):ai prog 21 #[.int .u64 t] k w:=by
 refine al [.tmp 2] func21 ?_
 refine bA ?_
 have e8:IntKind.u8.wrap (t:Int)=(au t:Nat):=by
  unfold au
  simp [IntKind.wrap,IntKind.bits,IntKind.signed]
 rw [e8]
 exact hk
theorem Af {t:Nat} (hk:k (.int .u64 (t / 256:Nat)) w):ai prog 46 #[.int .u64 t] k w:=by
 have h8:(0:Int)≤8:=by decide
 have e:=DZ (a:=t) (s:=8) (n:=8) (m:=256) rfl rfl
 refine al [.tmp 2] func46 ?_
 simp (disch:=first | exact dZ | fail) only [go_sem,gK h8,e]
 exact hk
theorem yI {x y:K} (hk:∀ w',bp w w'→k (.bool (gT x y)) w'):ai prog 74 #[.agg #[.int .u64 x.tr,.string ⟨x.suf.toArray⟩,.string ⟨x.val.toArray⟩],.agg #[.int .u64 y.tr,.string ⟨y.suf.toArray⟩,.string ⟨y.val.toArray⟩]] k w:=by
 have x2:∀ a b,bp w ((w.alloc a).alloc b):=fun a b=>(aJ _).trans (aJ _)
 refine al [.tmp 4] func74 ?_
 by_cases h1:x.tr=y.tr
 ·have h1':((x.tr:Int) != y.tr)=false:=by rw [h1]; simp
  by_cases h2:x.suf=y.suf
  ·have e:gT x y=decide (x.val < y.val):=by unfold gT; rw [if_neg (by simpa using h1),if_neg (by simpa using h2)]
   rw [e] at hk
   simp (disch:=first | exact dZ | fail) only [go_sem,aA,h1',h2,ne_eq,not_true_eq_false]
   exact hk _ (x2 _ _)
  ·have e:gT x y=decide (x.suf < y.suf):=by unfold gT; rw [if_neg (by simpa using h1),if_pos h2]
   rw [e] at hk
   simp (disch:=first | exact dZ | fail) only [go_sem,aA,h1',h2,ne_eq,not_false_eq_true]
   exact hk _ (x2 _ _)
 ·have h1':((x.tr:Int) != y.tr)=true:=by simp; omega
  have e:gT x y=decide ((y.tr:Int) < x.tr):=by unfold gT; rw [if_pos h1]; exact decide_eq_decide.2 (by omega)
  rw [e] at hk
  refine dO @aA @h1' ?_
  exact hk _ (x2 _ _)
end
end Go.Proofs
end
section
namespace Go.E
open Go Go.Sort Go.Proofs
structure OwnC {α:Type} (ce:α→List Value) (sz:Nat) (el:TypeId) (w:World) (v:Value) (l:List α):Prop where
 own:w.ownsRow 0 el sz v l.length (l.flatMap ce)
 sz:∀ x,(ce x).length=sz
section
variable {α:Type} {ce:α→List Value} {sz:Nat} {el:TypeId} {w w2:World} {v:Value} {l:List α}
theorem iV {a:Addr} (h:a.spot=none) (m:Nat):a.add m=⟨a.block,a.off+m,none⟩:=by
 obtain ⟨b,o,s⟩:=a
 simp only at h
 subst h
 cases m <;> rfl
theorem OwnC.nil (h:∀ x,(ce x).length=sz):OwnC ce sz el w (.slice none 0 0) []:=⟨cw,h⟩
theorem OwnC.keep {M:Nat→Nat→Prop} (h:OwnC ce sz el w v l) (hk:Keep M w w2) (hm:∀ g,v.ownBlock=some g→∀ o,¬ M g o):OwnC ce sz el w2 v l:=⟨aX h.own hk hm,h.sz⟩
theorem OwnC.ext (h:OwnC ce sz el w v l) (x:bp w w2):OwnC ce sz el w2 v l:=h.keep x fun _ _ _ h=>h
theorem OwnC.form (h:OwnC ce sz el w v l):∃ a c,v = .slice a l.length c∧l.length≤c∧c≤9223372036854775807:=by
 obtain ⟨a,c,h1,h2,h3⟩:=bP h.own
 exact ⟨a,c,h1,h2,h3⟩
theorem zj (h:∀ x,(ce x).length=sz) (l:List α):(l.flatMap ce).length=l.length * sz:=by
 induction l with
 | nil=>simp
 | cons x l ih=>rw [ae,aE,h,ih,aZ,Nat.add_mul]; omega
theorem vx (h:∀ x,(ce x).length=sz) {l:List α} {i j:Nat} {x:α} {u:Value} (hi:l[i]? = some x) (hj:(ce x)[j]? = some u):(l.flatMap ce)[i * sz+j]? = some u:=by
 induction l generalizing i with
 | nil=>simp at hi
 | cons y l ih =>
  rw [ae]
  cases i with
  | zero =>
   simp only [List.getElem?_cons_zero,aP] at hi
   subst hi
   rw [Nat.zero_mul,Nat.zero_add,bR (aQ.1 hj).1]
   exact hj
  | succ i =>
   rw [List.getElem?_cons_succ] at hi
   rw [bC (by rw [h,Nat.add_mul]; omega),h,show (i+1) * sz+j - sz=i * sz+j by rw [Nat.add_mul]; omega]
   exact ih hi
theorem OwnC.block (h:OwnC ce sz el w v l) {i:Nat} (hi:i < l.length):∃ g c,v = .slice (some ⟨g,0,none⟩) l.length c∧g < w.heap.size:=by
 rcases cg h.own with ⟨rfl,h0,_⟩ | ⟨g,cap,rfl,_,hg⟩
 ·omega
 ·exact ⟨g,cap,rfl,hg⟩
theorem OwnC.cell {g c:Nat} (h:OwnC ce sz el w (.slice (some ⟨g,0,none⟩) l.length c) l) {i j:Nat} {x:α} {u:Value} (hi:l[i]? = some x) (hj:(ce x)[j]? = some u):w.cell? ⟨g,i * sz+j,none⟩=some u:=bW h.own (vx h.sz hi hj)
theorem OwnC.sl {R:gR α} (h:OwnC ce sz el w v l) (hR:∀ x ∈ l,R w (ce x) x):Sl R sz w v l:=by
 rcases cg h.own with ⟨rfl,h0,_⟩ | ⟨g,cap,rfl,hc,_⟩
 ·exact ⟨rfl,ak.1 h0⟩
 ·refine ⟨fun _=>rfl,rfl,hc,fun i x hx=>⟨ce x,h.sz x,fun j u hu => ?_,hR x (aO hx)⟩⟩
  have:=h.cell hx hu
  rwa [show 0+i * sz+j=i * sz+j by omega]
theorem Hy (h:∀ x,(ce x).length=sz) {l:List α} {i:Nat} (hi:i < l.length) (y:α) (m:List Value) (hm:m.length=l.length * sz) (hs:∀ j,j < i * sz∨(i+1) * sz≤j→m[j]? = (l.flatMap ce)[j]?) (hy:∀ j u,(ce y)[j]? = some u→m[i * sz+j]? = some u):m=(l.set i y).flatMap ce:=by
 refine List.ext_getElem? fun p => ?_
 rcases aH p (l.length * sz) with hp | hp
 ·have hsz:0 < sz:=by rcases bt sz with h0 | h0; (rw [h0,Nat.mul_zero] at hp; omega); exact h0
  obtain ⟨q,r,hr,rfl⟩:∃ q r,r < sz∧p=q * sz+r:=⟨p / sz,p % sz,Nat.mod_lt _ hsz,by rw [Nat.mul_comm]; exact (Nat.div_add_mod p sz).symm⟩
  have hq:q < l.length:=by
   rcases aH q l.length with h1 | h1
   ·exact h1
   ·have:=bO sz h1; omega
  by_cases hqi:q=i
  ·subst hqi
   have hl:(ce y)[r]? = some ((ce y)[r]'(by rw [h]; exact hr)):=aD _
   rw [hy r _ hl,vx h (l:=l.set q y) (i:=q) (by rw [List.getElem?_set_self hq]) hl]
  ·have hx:l[q]? = some l[q]:=aD hq
   have hl:(ce l[q])[r]? = some ((ce l[q])[r]'(by rw [h]; exact hr)):=aD _
   rw [hs _ ?_,vx h hx hl,vx h (l:=l.set i y) (i:=q) (by rw [List.getElem?_set_ne (Ne.symm hqi)]; exact hx) hl]
   rcases aH q i with h1 | h1
   ·left
    have:=bO sz (show q+1≤i by omega)
    rw [Nat.add_mul] at this; omega
   ·right
    have:=bO sz (show i+1≤q by omega)
    omega
 ·rw [List.getElem?_eq_none (by rw [hm]; exact hp),List.getElem?_eq_none (by rw [zj h,cq]; exact hp)]
theorem OwnC.set3 {g c:Nat} (h:OwnC ce 3 el w (.slice (some ⟨g,0,none⟩) l.length c) l) {i:Nat} (hi:i < l.length) (y:α) {a b e:Value} (hy:ce y=[a,b,e]):OwnC ce 3 el (((w.setCell ⟨g,i * 3,none⟩ a).setCell ⟨g,i * 3+1,none⟩ b).setCell ⟨g,i * 3+2,none⟩ e) (.slice (some ⟨g,0,none⟩) l.length c) (l.set i y):=by
 have o:=cR (cR (cR h.own (i * 3) a) (i * 3+1) b) (i * 3+2) e
 refine ⟨?_,h.sz⟩
 rw [cq]
 have hl:=zj h.sz l
 rw [← Hy (sz:=3) h.sz hi y (((l.flatMap ce).set (i * 3) a).set (i * 3+1) b |>.set (i * 3+2) e) (by simp [hl]) (fun j hj=>by rw [List.getElem?_set_ne (by omega),List.getElem?_set_ne (by omega),List.getElem?_set_ne (by omega)]) fun j u hj => ?_]
 ·exact o
 ·rw [hy] at hj
  match j,hj with
  | 0,hj=>rw [List.getElem?_set_ne (by omega),List.getElem?_set_ne (by omega),Nat.add_zero,List.getElem?_set_self (by rw [hl]; omega)]; exact hj
  | 1,hj=>rw [List.getElem?_set_ne (by omega),List.getElem?_set_self (by rw [cq,hl]; omega)]; exact hj
  | 2,hj=>rw [List.getElem?_set_self (by rw [cq,cq,hl]; omega)]; exact hj
theorem Jn {P:Program} {q:aq} {t ty:TypeId} {by_:Nat} {m:List α} {u:Value} (Ap:gM P t=some (el,sz,by_)) (h:OwnC ce sz el w v l) (hu:rW w u m.length (m.flatMap ce)) (h1:∀ x ∈ m,∀ y ∈ ce x,y.oneCell'=true) (hb:(l.length+m.length) * (by_+1)≤140737488355328)
    (hk:∀ v2 w2,OwnC ce sz el w2 v2 (l++m)→Keep (fun b _=>v.ownBlock=some b) w w2→cZ w v v2→q v2 w2):me P #[t,t] ty #[v,u] q w:=by
 refine pO Ap h.own (zj h.sz m) hu (fun y hy=>by obtain ⟨x,hx,h2⟩:=cu.1 hy; exact h1 x hx y h2) hb fun v2 w2 o2 k2 n2 _=>hk v2 w2 ⟨?_,h.sz⟩ (k2 _ fun b _ hb _=>hb) fun g hg => ?_
 ·rw [aE,ay]; exact o2
 ·rcases n2 with h | ⟨g',h,h',_⟩
  ·left; rw [← h]; exact hg
  ·right; rw [h] at hg; cases hg; exact h'
theorem Ag {P:Program} {q:aq} {t ty:TypeId} {by_ n:Nat} {W:World} {C:Array Value} (x:α) (Ap:gM P t=some (el,sz,by_)) (h:OwnC ce sz el w v l) (hC:C=(ce x).toArray) (hW:W=w.alloc (.cells C el)∨W=(w.alloc (.cells C el)).drew) (hn:n=w.heap.size) (h1:∀ y ∈ ce x,y.oneCell'=true) (hb:(l.length+1) * (by_+1)≤140737488355328)
    (hk:∀ v2 w2,OwnC ce sz el w2 v2 (l++[x])→Keep (fun b _=>v.ownBlock=some b) w w2→cZ w v v2→q v2 w2):me P #[t,t] ty #[v,.slice (some ⟨n,0,none⟩) 1 1] q W:=by
 subst hC hn
 have k4:bp w W:=by
  rcases hW with rfl | rfl
  ·exact aJ _
  ·exact Keep.drew (aJ _)
 have hc:∀ j u,(ce x)[j]? = some u→W.cell? ⟨w.heap.size,j,none⟩=some u:=fun j u hu=>by
  have:(w.alloc (.cells (ce x).toArray el)).cell? ⟨w.heap.size,j,none⟩=some u:=by rw [aA (aF _) (by omega)]; simpa using hu
  rcases hW with rfl | rfl
  ·exact this
  ·exact this
 refine Jn (m:=[x]) Ap (h.ext k4) ⟨rfl,fun j u hu => ?_⟩ (fun y hy=>by rw [aM.1 hy]; exact h1) hb fun v2 w2 o2 k2 n2=>hk v2 w2 o2 (k4.keep.trans k2) fun g hg => ?_
 ·rw [iV rfl]
  have:=hc j u (by simpa using hu)
  simpa using this
 ·rcases n2 g hg with h | h
  ·exact .inl h
  ·exact .inr (ah k4.size h)
end
end Go.E
end
