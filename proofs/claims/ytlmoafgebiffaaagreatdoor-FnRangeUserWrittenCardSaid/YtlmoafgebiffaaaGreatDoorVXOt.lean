/- FnRangeUserWritten answers true at every input, and the input reads as it did: the row, and its tied card. No conditions of ours: the card ties the listed variable to the program's text. -/
import Derived.Test.YtlmoafgebiffaaaGreatDoorRows
import Derived.Test.YtlmoafgebiffaaaGreatDoorTie
import Derived.Test.YtlmoafgebiffaaaGreatDoorCards
import Derived.WalkKit
import Derived.ProofKit
import Derived.OpenShut
import Derived.ShutString
import Derived.ChangeOld
import Derived.Below
import Derived.LaidMore
import Derived.LaidLaws
import Derived.LaidHandle
import Derived.Stop.Joined
import Derived.SevenTiedAt
import Derived.Test.YtlmoafgebiffaaaGreatDoorV27
set_option linter.all false
set_option maxRecDepth 10000
namespace Go.Proofs.YtlmoafgebiffaaaGreatDoor.fnRangeUserWrittenDone
open Go.ChangeShapes Go.WideShapes Go.ChangeAt Go.RowKit
open Go.E Go.Sort
theorem own:ownKnob Tryz.prog.godebug=none:=by kernel_rfl
theorem laidOut:laidOutB Tryz.prog=true:=by kernel_rfl
theorem walk {v:Value} {l:List Sp} {n:Nat} (w:World) (hv:Sl dh 3 w v l) (hn:n < 18446744073709551616) :
    Calls Tryz.prog 3 #[v,.int .u64 n] w fun e w'=>e = .returned (.bool true)∧Below w.heap.size w w':=by
 have h:ai Tryz.prog 3 #[v,.int .u64 n] (fun v w'=>v = .bool true∧Below w.heap.size w w') w:=tm hv hn (cM.refl w) fun w2 x=>⟨rfl,E3 x⟩
 exact Calls.mono h fun e w' ⟨v,h1,h2,h3⟩=>⟨by rw [h1,h2],h3⟩
theorem E4 (os:Os) (args:Array Value):laidMetH Tryz.prog Rows.fnRangeUserWrittenRow.laid ((World.doorLaid Tryz.prog 400 os).forCall (fun _ _=>0) ⟨#[],args,[]⟩).memory :=
 laidMetH_of_parts3 (fuel:=8) (laidMet_of_run' 8 (by kernel_rfl) (by kernel_rfl)) (by kernel_rfl) (by kernel_rfl)
set_option maxRecDepth 100000 in
theorem lifted (os:Os) (started:os.Started) (H:Type) (enc:TypeId × Value→H) :
    ReturnsInHanded {} Tryz.checked os 3 .any (fun w args=>(Rows.fnRangeUserWrittenSpec.pre enc Tryz.prog Tryz.f3 [] false w args∧laidMetH Tryz.prog Rows.fnRangeUserWrittenRow.laid w)∧sizedMet enc Tryz.prog Tryz.f3 (OpenSpec.ofChange Rows.fnRangeUserWrittenSpec) false w args)
     (Rows.fnRangeUserWrittenSpec.post enc Tryz.prog Tryz.f3 false true false false):=by
 refine returnsInHanded_of_change_and (C:=Tryz.checked) (X:=fun w _=>laidMetH Tryz.prog Rows.fnRangeUserWrittenRow.laid w) (fun _ _ _ hh h=>h.of_heap hh) own started (by kernel_rfl) Tryz.func3
  (ChangeSpec.witness_shaped (enc:=enc) (C:=Tryz.checked) (os:=os) (X:=fun w _=>laidMetH Tryz.prog Rows.fnRangeUserWrittenRow.laid w) false (World.doorLaid Tryz.prog 400 os) #[.slice none 0 0,.int .u64 0] 8 rfl (World.shaped_of_RefB (by kernel_rfl) (by kernel_rfl)) (by kernel_rfl) (by kernel_rfl) (by kernel_rfl) (E4 os _)) ?_
 intro W base args ds gs before hval0 hW _ _ _ _
 have hval:∀ (j:Nat) t v,Tryz.f3.params[j]? = some t→args[j]? = some v→Value.okWide Tryz.prog W .any base t v:=hval0
 have hW':=hW
 obtain ⟨p,q,hA0,hV,rfl,hfz,hnd⟩:=hW
 have hA:DataW.TrodAll enc Tryz.prog W 0 (fun _=>true) true [22,23] args.toList ds p:=hA0
 obtain ⟨v0,vs0,d0,ds0,p0,q0,hargs,rfl,rfl,h0,r0⟩:=trodAll_cons hA
 obtain ⟨v1,vs1,d1,ds1,p1,q1,rfl,rfl,rfl,h1,r1⟩:=trodAll_cons r0
 obtain ⟨rfl,rfl,rfl⟩:=trodAll_nil r1
 obtain rfl:args = #[v0,v1]:=by cases args; simp_all
 obtain ⟨rfl,rfl⟩:=trodVars_none hV
 have lt0:∀ x ∈ p0,x.block < W.heap.size:=by obtain ⟨m,hm⟩:=h0; exact DataW.trod_lt m _ _ _ hm
 have lt1:∀ x ∈ p1,x.block < W.heap.size:=by obtain ⟨m,hm⟩:=h1; exact DataW.trod_lt m _ _ _ hm
 have k0:=h0
 have k1:=h1
 obtain ⟨a0,len0,cap0,rfl⟩:=okWide_slice Tryz.underlying22 (hval 0 22 v0 rfl rfl)
 obtain ⟨l0,s0⟩:∃ l,Sl dh 3 W (.slice a0 len0 cap0) l:=by
  obtain ⟨m,hm⟩:=h0
  obtain ⟨v,l,h3,h4⟩:=tq hm
  obtain rfl : .slice a0 len0 cap0=v:=by simpa [Value.cells] using h3
  exact ⟨l,h4⟩
 obtain ⟨n1,rfl,s1⟩:∃ n:Nat,v1 = .int .u64 n∧n < 18446744073709551616:=by
  obtain ⟨a1,rfl,_,_,_⟩:=open_int Tryz.underlying23 (hval 1 23 v1 rfl rfl) h1
  obtain ⟨m,hm⟩:=k1
  obtain ⟨n,h3,h4⟩:=qT hm
  exact ⟨n,by simpa [Value.cells] using h3,h4⟩
 clear hA0 hval0
 refine (walk W s0 s1).mono fun e W' ⟨he,bel⟩ => ?_
 subst he
 exact ⟨_,rfl,_,_,_,[],_,[],hW',trodAll_mk1 (shut_bool Tryz.underlying4 _),(trodAll_cons_mk (Below.trod laidOut (by kernel_rfl) (of_decide_eq_true (by kernel_rfl)) k0 bel lt0) (trodAll_cons_mk (Below.trod laidOut (by kernel_rfl) (of_decide_eq_true (by kernel_rfl)) k1 bel lt1) trodAll_mk0)),rfl,bel.frame _,fun h=>by cases h⟩
theorem Ap:Rows.FnRangeUserWrittenSaid :=
 OpenClaim.holds_of_wide 3 Tryz.f3 rfl rfl rfl rfl rfl rfl rfl ⟨rfl,rfl,rfl,rfl,rfl⟩ rfl rfl rfl rfl rfl (by kernel_rfl) Tryz.func3 (by kernel_rfl)
  (of_decide_eq_true (by kernel_rfl)) (by unfold Func.isWrapper; first | (rw [if_pos (by decide +kernel)]; kernel_rfl) | (rw [if_neg (by decide +kernel)]; exact ⟨rfl,rfl⟩))
  (fun os started H enc _=>lifted os started H enc)
theorem proved:Rows.FnRangeUserWrittenCardSaid :=
 Claim7.holds_tied_plain_at .later [] [.sentinel] true (true, "ad1a30d0dafe449d9aaade1ce07ade46841d19fb4af516d2d2ac0cd3d3b45bf6") false
  Ap (fun _ h=>by cases h) (by kernel_rfl) (fun _ h=>by cases h) fnRangeUserWritten_row_tie rfl ⟨rfl,rfl⟩ (by kernel_rfl) rfl
  (fun f fn hf hfn=>by
   obtain rfl : f = 3 := bk ((show Tryz.prog.funcNamed "pub-tessella/laws.FnRangeUserWritten" = some 3 by kernel_rfl).symm.trans hf) |>.symm
   obtain rfl:fn=Tryz.f3:=(bk (Tryz.func3.symm.trans hfn)).symm
   exact ⟨by kernel_rfl,fun j t ht=>by
    have hp:Tryz.f3.params = #[22,23]:=by kernel_rfl
    rw [hp] at ht
    have hm:t ∈ [22,23]:=by simpa using Array.mem_of_getElem? ht
    have hall:([22,23].all fun u => !Tryz.prog.wantsStandIn u)=true:=by kernel_rfl
    exact (show Tryz.prog.wantsStandIn t=false by simpa using List.all_eq_true.1 hall t hm)⟩)
  (by kernel_rfl)
#print axioms proved
end Go.Proofs.YtlmoafgebiffaaaGreatDoor.fnRangeUserWrittenDone
