/- Parts of the proof: Xw. -/
import Derived.Test.YtjcbeinpkafjiaaGreatU27
import Derived.Test.YtjcbeinpkafjiaaGreatUXVl
import Derived.Test.YtjcbeinpkafjiaaGreatUXXm
import Derived.Test.YtjcbeinpkafjiaaGreatUXXu
set_option linter.all false
set_option maxRecDepth 10000
namespace Go.E
open Go Go.Sort Go.Proofs
theorem Wf.bare {V:List Sp} (h:Wf V):Wf (V.map bareS):=by
 refine ⟨fun i hi => ?_,fun i j hij hj => ?_⟩
 ·have hi':i < V.length:=by simpa using hi
  have:=h.1 i hi'
  rw [getElem!_pos V i hi'] at this
  rw [getElem!_pos (V.map bareS) i hi,List.getElem_map]
  exact this
 ·have hj':j < V.length:=by simpa using hj
  have hi':i < V.length:=by omega
  have:=h.2 i j hij hj'
  rw [getElem!_pos V i hi',getElem!_pos V j hj'] at this
  rw [getElem!_pos (V.map bareS) i (by simpa using hi'),getElem!_pos (V.map bareS) j hj,List.getElem_map,List.getElem_map]
  exact this
theorem wlk_bare (V:List Sp) (p:Int) (got:Bool) (last:Nat) (steps:List (Nat × Bytes)):wlk (V.map bareS) p got last steps=wlk V p got last steps:=by
 induction steps generalizing p got last with
 | nil=>rfl
 | cons x r ih =>
  obtain ⟨op,key⟩:=x
  have hm:mv (V.map bareS) p op key=mv V p op key:=by
   unfold mv
   rw [List.length_map,skGE_bare,skLT_bare]
  have hi:∀ q,inV (V.map bareS) q=inV V q:=fun q=>by unfold inV; rw [List.length_map]
  show (if tkn op got last then _ else _)=(if tkn op got last then _ else _)
  rw [hm,hi,ih,ih]
end Go.E
namespace Go.Proofs
open Go Go.E Go.Sort
section
variable {k:Kont} {d w:World}
theorem fnRangeUser_run {lv sv:Value} {Lv:List (List Sp)} {snap:Nat} {steps:List (Nat × Bytes)} (hv:Sl LvE 1 d lv Lv) (hs:Sl StE 2 d sv steps) (hsn:snap < 18446744073709551616) (hinc:Inc d w) (hk:∀ w2,Ext w w2→k (.bool true) w2) :
    callK Tryz.prog 3 #[lv,.int .u64 snap,sv] k w:=by
 obtain ⟨la,lc,rfl⟩:=hv.form
 obtain ⟨sa,sc,rfl⟩:=hs.form
 refine callZ [.tmp 6] Tryz.func3 ?_
 refine goZ ?_
 refine fits3_run (hv.inc LvE.mono hinc) fun b1 w1 x1 hb1 => ?_
 cases b1 with
 | false =>
  refine gY1 @Bool.not_false ?_
  exact hk _ x1
 | true =>
 obtain ⟨f1,f2⟩:=hb1 rfl
 refine gY1 @Bool.not_true ?_
 refine fits8_run (hs.inc StE.mono (hinc.trans x1.inc)) fun b2 w2 x2 hb2 => ?_
 cases b2 with
 | false =>
  refine gY1 @Bool.not_false ?_
  exact hk _ (x1.trans x2)
 | true =>
 obtain ⟨f3,f4⟩:=hb2 rfl
 have x12:=x1.trans x2
 refine gY1 @Bool.not_true ?_
 refine rangeLevels_run (n:=8) hv f1 (fun x hx=>⟨(f2 x hx).1,fun y hy=>((f2 x hx).2 y hy).2.2.1⟩) (by decide) (hinc.trans x12.inc) fun b3 w3 x3 hb3 => ?_
 have x13:=x12.trans x3
 cases b3 with
 | false =>
  refine gY1 @Bool.not_false ?_
  exact hk _ x13
 | true =>
 have lo:=hb3 rfl
 by_cases h60:(60:Int) < steps.length
 ·refine gY2 @Bool.not_true @h60 ?_
  exact hk _ x13
 refine gY2 @Bool.not_true @h60 ?_
 have eS:ByteArray.empty=⟨([]:Bytes).toArray⟩:=rfl
 have hLs:∀ L ∈ Lv,L.length≤100:=fun L h=>by have:=lo.sz L h; omega
 have hLk:∀ L ∈ Lv,∀ y ∈ L,y.ks.length≤40:=fun L h y hy=>(lo.ks L h y hy).2
 have hfl:=flatten_length_le (Lv:=Lv) (n:=8) lo.sz
 have hf6:Lv.length * 8≤6 * 8:=Nat.mul_le_mul_right _ lo.n6
 have hfk:∀ y ∈ Lv.flatten,y.ks.length≤40:=fun y hy=>by
  obtain ⟨L,hL,hy⟩:=List.mem_flatten.1 hy
  exact hLk L hL y hy
 rw [eS]
 refine rangeView_run (lb:=false) (hb:=false) hv lo.n6 hLs hLk (hinc.trans x13.inc) fun d4 w4 v4 g4 s4 => ?_
 have hve:viewP Lv.flatten snap none none=(rV Lv snap none none).map bareS:=view_eq lo.wf (fun L h s hs=>(lo.ks L h s hs).1) lo.cdF none none
 have hvl:=viewP_length Lv.flatten snap none none
 have hvk:=viewP_ks (l:=Lv.flatten) (snap:=snap) (m:=40) (lo:=none) (hi:=none) hfk
 obtain ⟨V,hV⟩:∃ V,V=rV Lv snap none none:=⟨_,rfl⟩
 have hwf:Wf V:=by rw [hV]; exact Vw_wf (GB_wf (GL_wf (bds_of lo.wf)))
 have s4:Sl SpE 3 d4 v4 (V.map bareS):=by rw [hV,← hve]; exact s4
 have hVl:V.length≤96:=by
  rw [hve,← hV,List.length_map] at hvl
  omega
 have hVk:∀ x ∈ V,x.ks.length≤1920:=fun x hx=>by
  have:=hvk (bareS x) (by rw [hve,← hV]; exact List.mem_map_of_mem hx)
  rw [bareS_eqn,List.length_map] at this
  omega
 obtain ⟨va,vc,rfl⟩:=s4.form
 refine goZ ?_
 have i4:=(Gr.ext hinc x13).trans g4
 refine toLevels_run (hv.inc LvE.mono i4.i) (by have:=lo.n6; omega) (fun x hx=>⟨by have:=lo.sz x hx; omega,fun y hy=>by have:=hLk x hx y hy; omega⟩) i4.j fun d5 w5 v5 g5 s5 => ?_
 have i5:=i4.trans g5
 refine goZ ?_
 refine toSteps_run (hs.inc StE.mono i5.i) (by omega) i5.j fun d6 w6 v6 g6 s6 => ?_
 have i6:=i5.trans g6
 refine goZ ?_
 rw [eS]
 have rin:RIn Lv snap none none:=⟨by have:=lo.n6; omega,hsn,lo.wf,fun L h=>⟨by have:=lo.sz L h; omega,fun s hs=>by
  obtain ⟨q1,q2,q3,q4⟩:=(f2 L h).2 s hs
  refine ⟨by omega,by omega,by have:=hLk L h s hs; omega,(lo.ks L h s hs).1,fun x hx => ?_⟩
  obtain ⟨q5,q6⟩:=q4 x hx
  exact ⟨by omega,by omega⟩⟩,lo.cdF,fun l h hl=>by cases hl⟩
 have stok:StOk (bdO [] false) (bdO [] false) steps:=fun x hx=>⟨fun _=>rfl,fun _=>rfl,fun _=>by constructor <;> (intro l h; cases h),by have:=f4 x hx; omega⟩
 refine RangeUser_run (kl:=[]) (kh:=[]) (bl:=false) (bh:=false) (s5.inc LvE.mono g6.i) s6 i6.j rin (by decide) (by decide) stok (by omega) fun d7 w7 v7 l7 g7 s7 hp => ?_
 have i7:=i6.trans g7
 have hp:Pw (AnsOk V AllSet) (wlk V (-2) false 0 steps) l7:=by rw [hV]; exact hp
 obtain ⟨ga,gc,rfl⟩:=s7.form
 refine goZ ?_
 refine walk_run ((s4.inc SpE.mono (g5.trans (g6.trans g7)).i)) (hs.inc StE.mono i7.i) (by rw [List.length_map]; omega) (by omega) (Wf.bare hwf) i7.j fun d8 w8 v8 g8 s8 => ?_
 have i8:=i7.trans g8
 have hwb:wlk (V.map bareS) (-2) false 0 steps=wlk V (-2) false 0 steps:=wlk_bare V _ _ _ _
 rw [hwb] at s8
 refine goZ ?_
 refine rangeAnswers_run (s7.inc AnE.mono g8.i) s8 (by rw [List.length_map]; exact hp.1.symm) (by rw [← hp.1,wlk_length]; omega) (fun i a b ha hb => ?_) i8.j fun w9 x9 => ?_
 ·obtain ⟨r1,r2,r3⟩:=ans_rel (m:=100000) hp (fun x hx=>by have:=hVk x hx; omega) i a b ha hb
  exact ⟨r1,r2,r3⟩
 have i9:=i8.trans (Gr.ext i8.j x9)
 refine goZ ?_
 refine rangeFound_run i9.j fun w10 x10 => ?_
 refine goZ ?_
 exact hk _ (i9.x.trans x10)
end
end Go.Proofs
