/- FnRangeInternal answers true at every input, and the input reads as it did. No conditions. -/
import Derived.Test.YtjcbeinpkafjiaaGreatRows
import Derived.WalkKit
import Derived.ProofKit
import Derived.OpenShut
import Derived.ShutString
import Derived.ChangeOld
import Derived.Below
import Derived.Test.YtjcbeinpkafjiaaGreatQ26
set_option linter.all false
set_option maxRecDepth 10000
namespace Go.Proofs.YtjcbeinpkafjiaaGreat.fnRangeInternalDone
open Go.ChangeShapes Go.WideShapes Go.ChangeAt Go.RowKit
open Go.E Go.Sort
theorem own:ownKnob Tryz.prog.godebug=none:=by kernel_rfl
theorem laidOut:laidOutB Tryz.prog=true:=by kernel_rfl
theorem walk {v0:Value} {l0:List (List Sp)} {n1:Nat} {s2:Bytes} {v3:Value} {l3:List SV} (w:World) (h0:Sl kO 1 w v0 l0) (h1:n1 < 18446744073709551616) (h3:Sl oH 2 w v3 l3) :
    Calls Tryz.prog 8 #[v0,.int .u64 n1,.string ⟨s2.toArray⟩,v3] w fun e w'=>e = .returned (.bool true)∧Below w.heap.size w w':=by
 have h:aU Tryz.prog 8 #[v0,.int .u64 n1,.string ⟨s2.toArray⟩,v3] (fun v w'=>v = .bool true∧Below w.heap.size w w') w:=qm h0 h3 h1 (cH.refl w) fun w2 x=>⟨rfl,Bn x⟩
 exact Calls.mono h fun e w' ⟨v,h1,h2,h3⟩=>⟨by rw [h1,h2],h3⟩
set_option maxRecDepth 100000 in
theorem lifted (os:Os) (started:os.Started) (H:Type) (enc:TypeId × Value→H) :
    ReturnsInHanded {} Tryz.checked os 8 .any (Rows.fnRangeInternalSpec.pre6 enc Tryz.prog Tryz.f8 Rows.fnRangeInternalRow.domain false) (Rows.fnRangeInternalSpec.post enc Tryz.prog Tryz.f8 false true false false):=by
 refine returnsInHanded_of_change (C:=Tryz.checked) own started (by kernel_rfl) Tryz.func8
  (ChangeSpec.witness6 (enc:=enc) (C:=Tryz.checked) false ⟨#[],#[.slice none 0 0,.int .u64 0,.string ByteArray.empty,.slice none 0 0],[]⟩ 8 (by kernel_rfl) (by kernel_rfl) (by kernel_rfl) (by kernel_rfl)) ?_
 intro W base args ds gs before hval0 hW hcnd _
 have hval:∀ (j:Nat) t v,Tryz.f8.params[j]? = some t→args[j]? = some v→Value.okWide Tryz.prog W .any base t v:=hval0
 have hW':=hW
 obtain ⟨p,q,hA0,hV,rfl,hfz,hnd⟩:=hW
 have hA:DataW.TrodAll enc Tryz.prog W 0 (fun _=>true) true [22,23,9,50] args.toList ds p:=hA0
 obtain ⟨v0,vs0,d0,ds0,p0,q0,hargs,rfl,rfl,h0,r0⟩:=trodAll_cons hA
 obtain ⟨v1,vs1,d1,ds1,p1,q1,rfl,rfl,rfl,h1,r1⟩:=trodAll_cons r0
 obtain ⟨v2,vs2,d2,ds2,p2,q2,rfl,rfl,rfl,h2,r2⟩:=trodAll_cons r1
 obtain ⟨v3,vs3,d3,ds3,p3,q3,rfl,rfl,rfl,h3,r3⟩:=trodAll_cons r2
 obtain ⟨rfl,rfl,rfl⟩:=trodAll_nil r3
 obtain rfl:args = #[v0,v1,v2,v3]:=by cases args; simp_all
 obtain ⟨rfl,rfl⟩:=trodVars_none hV
 have lt0:∀ x ∈ p0,x.block < W.heap.size:=by obtain ⟨m,hm⟩:=h0; exact DataW.trod_lt m _ _ _ hm
 have lt1:∀ x ∈ p1,x.block < W.heap.size:=by obtain ⟨m,hm⟩:=h1; exact DataW.trod_lt m _ _ _ hm
 have lt2:∀ x ∈ p2,x.block < W.heap.size:=by obtain ⟨m,hm⟩:=h2; exact DataW.trod_lt m _ _ _ hm
 have lt3:∀ x ∈ p3,x.block < W.heap.size:=by obtain ⟨m,hm⟩:=h3; exact DataW.trod_lt m _ _ _ hm
 have k0:=h0
 have k1:=h1
 have k2:=h2
 have k3:=h3
 obtain ⟨a0,len0,cap0,rfl⟩:=okWide_slice Tryz.underlying22 (hval 0 22 v0 rfl rfl)
 obtain ⟨l0,s0⟩:∃ l,Sl kO 1 W (.slice a0 len0 cap0) l:=by
  obtain ⟨m,hm⟩:=h0
  obtain ⟨v,l,h3,h4⟩:=qn hm
  obtain rfl : .slice a0 len0 cap0=v:=by simpa [Value.cells] using h3
  exact ⟨l,h4⟩
 obtain ⟨n1,rfl,s1⟩:∃ n:Nat,v1 = .int .u64 n∧n < 18446744073709551616:=by
  obtain ⟨a1,rfl,_,_,_⟩:=open_int Tryz.underlying23 (hval 1 23 v1 rfl rfl) h1
  obtain ⟨m,hm⟩:=k1
  obtain ⟨n,h3,h4⟩:=pC hm
  exact ⟨n,by simpa [Value.cells] using h3,h4⟩
 obtain ⟨s2,rfl⟩:∃ l:Bytes,v2 = .string ⟨l.toArray⟩:=by
  obtain ⟨s,rfl⟩:=okWide_string Tryz.underlying9 (hval 2 9 v2 rfl rfl)
  exact ⟨s.data.toList,EW s⟩
 obtain ⟨a3,len3,cap3,rfl⟩:=okWide_slice Tryz.underlying50 (hval 3 50 v3 rfl rfl)
 obtain ⟨l3,s3⟩:∃ l,Sl oH 2 W (.slice a3 len3 cap3) l:=by
  obtain ⟨m,hm⟩:=h3
  obtain ⟨v,l,h3,h4⟩:=rS hm
  obtain rfl : .slice a3 len3 cap3=v:=by simpa [Value.cells] using h3
  exact ⟨l,h4⟩
 clear hA0 hval0
 refine (walk W s0 s1 s3).mono fun e W' ⟨he,bel⟩ => ?_
 subst he
 exact ⟨_,rfl,_,_,_,[],_,[],hW',trodAll_mk1 (shut_bool Tryz.underlying4 _),(trodAll_cons_mk (Below.trod laidOut (by kernel_rfl) (of_decide_eq_true (by kernel_rfl)) k0 bel lt0) (trodAll_cons_mk (Below.trod laidOut (by kernel_rfl) (of_decide_eq_true (by kernel_rfl)) k1 bel lt1) (trodAll_cons_mk (Below.trod laidOut (by kernel_rfl) (of_decide_eq_true (by kernel_rfl)) k2 bel lt2) (trodAll_cons_mk (Below.trod laidOut (by kernel_rfl) (of_decide_eq_true (by kernel_rfl)) k3 bel lt3) trodAll_mk0)))),rfl,bel.frame _,fun h=>by cases h⟩
theorem over:Rows.fnRangeInternalRow.holds Tryz.pinned (OpenSpec.ofChange Rows.fnRangeInternalSpec) :=
 OpenClaim.holds_of_wide 8 Tryz.f8 rfl rfl rfl rfl rfl rfl rfl ⟨rfl,rfl,rfl,rfl,rfl⟩ rfl rfl rfl rfl rfl (by kernel_rfl) Tryz.func8 (by kernel_rfl)
  (of_decide_eq_true (by kernel_rfl)) (by unfold Func.isWrapper; first | (rw [if_pos (by decide +kernel)]; kernel_rfl) | (rw [if_neg (by decide +kernel)]; exact ⟨rfl,rfl⟩))
  (fun os started H enc _=>lifted os started H enc)
theorem proved:Rows.FnRangeInternalSaid:=over
#print axioms proved
end Go.Proofs.YtjcbeinpkafjiaaGreat.fnRangeInternalDone
