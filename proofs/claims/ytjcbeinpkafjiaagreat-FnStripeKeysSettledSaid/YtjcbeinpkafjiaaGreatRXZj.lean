/- FnStripeKeysSettled answers true at every input, and the input reads as it did. No conditions. -/
import Derived.Test.YtjcbeinpkafjiaaGreatRows
import Derived.WalkKit
import Derived.ProofKit
import Derived.OpenShut
import Derived.ShutString
import Derived.ChangeOld
import Derived.Below
import Derived.Test.YtjcbeinpkafjiaaGreatR29
set_option linter.all false
set_option maxRecDepth 10000
namespace Go.Proofs.YtjcbeinpkafjiaaGreat.fnStripeKeysSettledDone
open Go.ChangeShapes Go.WideShapes Go.ChangeAt Go.RowKit
open Go.E Go.Sort
theorem own:ownKnob Tryz.prog.godebug=none:=by kernel_rfl
theorem laidOut:laidOutB Tryz.prog=true:=by kernel_rfl
theorem walk {v0:Value} {l0:List (List Sp)} (w:World) (h0:Sl jx 1 w v0 l0) :
    Calls Tryz.prog 9 #[v0] w fun e w'=>e = .returned (.bool true)∧Below w.heap.size w w':=by
 have h:aX Tryz.prog 9 #[v0] (fun v w'=>v = .bool true∧Below w.heap.size w w') w:=tu h0 (bz.refl w) fun w2 x=>⟨rfl,Ep x⟩
 exact Calls.mono h fun e w' ⟨v,h1,h2,h3⟩=>⟨by rw [h1,h2],h3⟩
set_option maxRecDepth 100000 in
theorem lifted (os:Os) (started:os.Started) (H:Type) (enc:TypeId × Value→H) :
    ReturnsInHanded {} Tryz.checked os 9 .any (Rows.fnStripeKeysSettledSpec.pre6 enc Tryz.prog Tryz.f9 Rows.fnStripeKeysSettledRow.domain false) (Rows.fnStripeKeysSettledSpec.post enc Tryz.prog Tryz.f9 false true false false):=by
 refine returnsInHanded_of_change (C:=Tryz.checked) own started (by kernel_rfl) Tryz.func9
  (ChangeSpec.witness6 (enc:=enc) (C:=Tryz.checked) false ⟨#[],#[.slice none 0 0],[]⟩ 8 (by kernel_rfl) (by kernel_rfl) (by kernel_rfl) (by kernel_rfl)) ?_
 intro W base args ds gs before hval0 hW hcnd _
 have hval:∀ (j:Nat) t v,Tryz.f9.params[j]? = some t→args[j]? = some v→Value.okWide Tryz.prog W .any base t v:=hval0
 have hW':=hW
 obtain ⟨p,q,hA0,hV,rfl,hfz,hnd⟩:=hW
 have hA:DataW.TrodAll enc Tryz.prog W 0 (fun _=>true) true [22] args.toList ds p:=hA0
 obtain ⟨v0,vs0,d0,ds0,p0,q0,hargs,rfl,rfl,h0,r0⟩:=trodAll_cons hA
 obtain ⟨rfl,rfl,rfl⟩:=trodAll_nil r0
 obtain rfl:args = #[v0]:=by cases args; simp_all
 obtain ⟨rfl,rfl⟩:=trodVars_none hV
 have lt0:∀ x ∈ p0,x.block < W.heap.size:=by obtain ⟨m,hm⟩:=h0; exact DataW.trod_lt m _ _ _ hm
 have k0:=h0
 obtain ⟨a0,len0,cap0,rfl⟩:=okWide_slice Tryz.underlying22 (hval 0 22 v0 rfl rfl)
 obtain ⟨l0,s0⟩:∃ l,Sl jx 1 W (.slice a0 len0 cap0) l:=by
  obtain ⟨m,hm⟩:=h0
  obtain ⟨v,l,h3,h4⟩:=tD hm
  obtain rfl : .slice a0 len0 cap0=v:=by simpa [Value.cells] using h3
  exact ⟨l,h4⟩
 clear hA0 hval0
 refine (walk W s0).mono fun e W' ⟨he,bel⟩ => ?_
 subst he
 exact ⟨_,rfl,_,_,_,[],_,[],hW',trodAll_mk1 (shut_bool Tryz.underlying4 _),(trodAll_cons_mk (Below.trod laidOut (by kernel_rfl) (of_decide_eq_true (by kernel_rfl)) k0 bel lt0) trodAll_mk0),rfl,bel.frame _,fun h=>by cases h⟩
theorem over:Rows.fnStripeKeysSettledRow.holds Tryz.pinned (OpenSpec.ofChange Rows.fnStripeKeysSettledSpec) :=
 OpenClaim.holds_of_wide 9 Tryz.f9 rfl rfl rfl rfl rfl rfl rfl ⟨rfl,rfl,rfl,rfl,rfl⟩ rfl rfl rfl rfl rfl (by kernel_rfl) Tryz.func9 (by kernel_rfl)
  (of_decide_eq_true (by kernel_rfl)) (by unfold Func.isWrapper; first | (rw [if_pos (by decide +kernel)]; kernel_rfl) | (rw [if_neg (by decide +kernel)]; exact ⟨rfl,rfl⟩))
  (fun os started H enc _=>lifted os started H enc)
theorem proved:Rows.FnStripeKeysSettledSaid:=over
#print axioms proved
end Go.Proofs.YtjcbeinpkafjiaaGreat.fnStripeKeysSettledDone
