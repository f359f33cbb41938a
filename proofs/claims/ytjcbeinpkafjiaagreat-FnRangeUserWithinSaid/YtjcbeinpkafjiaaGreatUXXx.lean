/- Parts of the proof: Xx. -/
import Derived.Test.YtjcbeinpkafjiaaGreatUXVj
import Derived.Test.YtjcbeinpkafjiaaGreatUXXw
set_option linter.all false
set_option maxRecDepth 10000
namespace Go.E
open Go Go.Sort Go.Proofs Go.Proofs.Tryz
def StOne (lo hi:Option Bytes) (x:Nat × Bytes):Prop:=(x.1=0→lo=none)∧(x.1=1→hi=none)∧(x.1=4∨x.1=5→okKy lo hi x.2)
theorem okKy_of {kl kh key:Bytes} {bl bh:Bool} (h1:bl=true→¬ key < kl) (h2:bh=true→¬ kh < key):okKy (bdO kl bl) (bdO kh bh) key:=by
 refine ⟨fun l h => ?_,fun l h => ?_⟩
 ·cases bl with
  | false=>cases h
  | true=>obtain rfl:=Option.some.inj h; exact h1 rfl
 ·cases bh with
  | false=>cases h
  | true=>obtain rfl:=Option.some.inj h; exact h2 rfl
theorem okBd_of {kl kh:Bytes} {bl bh:Bool} (h:¬ (bl=true∧bh=true∧kh < kl)):okBd (bdO kl bl) (bdO kh bh):=fun l u h1 h2 h3=>by
 cases bl with
 | false=>cases h1
 | true =>
  cases bh with
  | false=>cases h2
  | true =>
   obtain rfl:=Option.some.inj h1
   obtain rfl:=Option.some.inj h2
   exact h ⟨rfl,rfl,h3⟩
theorem cells_ste {w:World} {g o:Nat} {x:Nat × Bytes} (h:AtC StE 2 w g o x):w.cell? ⟨g,o,none⟩=some (.int .u8 x.1)∧w.cell? ⟨g,o+1,none⟩=some (.string ⟨x.2.toArray⟩):=by
 obtain ⟨cs,_,hcs,rfl,_⟩:=h
 exact ⟨hcs 0 _ rfl,hcs 1 _ rfl⟩
end Go.E
namespace Go.Proofs
open Go Go.E Go.Sort Go.Proofs.Tryz
section
variable {k:Kont} {d w:World}
theorem spanBound_run {key:Bytes} {has:Bool} (hk:∀ w2,Ext w w2→k (.agg #[.string ⟨key.toArray⟩,.bool has]) w2):callK prog 41 #[.agg #[.string ⟨key.toArray⟩,.bool has]] k w:=by
 refine callZ [.cell 2 37] func41 ?_
 refine gY2 @cell_newN @frozen_newN ?_
 exact hk _ (ext_set (ext_set ((ext_alloc _).trans (ext_alloc _)) (by omega)) (by omega))
theorem spanObeys_run {sv:Value} {steps:List (Nat × Bytes)} {kl kh:Bytes} {bl bh:Bool} (hs:Sl StE 2 w sv steps) (hl:steps.length≤100000) (hk:Chk (okBd (bdO kl bl) (bdO kh bh)∧∀ x ∈ steps,StOne (bdO kl bl) (bdO kh bh) x) k w) :
    callK prog 40 #[sv,.agg #[.string ⟨kl.toArray⟩,.bool bl],.agg #[.string ⟨kh.toArray⟩,.bool bh]] k w:=by
 obtain ⟨ka,kc,rfl⟩:=hs.form
 refine callZ [.tmp 6] func40 ?_
 obtain ⟨A,hA⟩:∃ A,A=w.heap.size:=⟨_,rfl⟩
 obtain ⟨W,hW⟩:∃ W,W=(w.alloc (.cells #[.string ⟨kl.toArray⟩,.bool bl] 31)).alloc (.cells #[.string ⟨kh.toArray⟩,.bool bh] 31):=⟨_,rfl⟩
 have xW:Ext w W:=by rw [hW]; exact (ext_alloc _).trans (ext_alloc _)
 have a0:W.cell? ⟨A,0,none⟩=some (.string ⟨kl.toArray⟩):=by rw [hW,hA]; exact eY1 @cell_newN
 have a1:W.cell? ⟨A,1,none⟩=some (.bool bl):=by rw [hW,hA]; exact eY1 @cell_newN
 have b0:W.cell? ⟨A+1,0,none⟩=some (.string ⟨kh.toArray⟩):=by rw [hW,hA]; exact eY1 @cell_newN
 have b1:W.cell? ⟨A+1,1,none⟩=some (.bool bh):=by rw [hW,hA]; exact eY1 @cell_newN
 refine goZ ?_
 rw [← hW,← hA]
 by_cases p1:bl=true∧bh=true∧kh < kl
 ·obtain ⟨rfl,rfl,p1⟩:=p1
  refine gY6 @a0 @a1 @b0 @b1 @p1 @decide_true ?_
  exact hk.no xW
 by_cases p2:bh=true∧kh=[]
 ·obtain ⟨rfl,p2⟩:=p2
  have e2:decide (kh=[])=true:=decide_eq_true p2
  cases bl with
  | false =>
   refine gY5 @a0 @a1 @b0 @b1 @e2 ?_
   exact hk.no xW
  | true =>
   have e1:decide (kh < kl)=false:=decide_eq_false fun h=>p1 ⟨rfl,rfl,h⟩
   refine gY6 @a0 @a1 @b0 @b1 @e1 @e2 ?_
   exact hk.no xW
 have hbd:okBd (bdO kl bl) (bdO kh bh):=okBd_of p1
 have e1:bl=true→bh=true→decide (kh < kl)=false:=fun h1 h2=>decide_eq_false fun h=>p1 ⟨h1,h2,h⟩
 have e2:bh=true→decide (kh=[])=false:=fun h1=>decide_eq_false fun h=>p2 ⟨h1,h⟩
 clear p1 p2
 obtain ⟨P,hP⟩:∃ P:Nat × Bytes→Prop,P=StOne (bdO kl bl) (bdO kh bh):=⟨_,rfl⟩
 cases bl <;> cases bh
 refine gY4 @a0 @a1 @b0 @b1 ?_
 rotate_left
 refine gY5 @a0 @a1 @b0 @b1 (e2 rfl) ?_
 rotate_left
 refine gY4 @a0 @a1 @b0 @b1 ?_
 rotate_left
 simp (disch:=first | exact dZ | fail) only [go_sem,↓reduceIte,Nat.reduceEqDiff,Nat.reduceAdd,a0,a1,b0,b1,e1 rfl rfl,e2 rfl]
 rotate_left
 all_goals
  refine loopC (fun i:Nat=>[(4,.pointer (some ⟨A,0,none⟩)),(5,.pointer (some ⟨A+1,0,none⟩)),(31,.slice ka steps.length kc),(32,.int .i64 steps.length),(33,.int .i64 i)])
   (fun i w'=>i≤steps.length∧Ext W w'∧∀ x ∈ steps.take i,P x) (fun i _=>steps.length - i) 0 (by kernel_rfl) ?_ ⟨Nat.zero_le _,Ext.refl _,by simp⟩ ?_
  ·exact agZ
  rintro K2 e i w1 ⟨i2,i3,i4⟩ hK2
  rcases Nat.lt_or_ge i steps.length with hi | hi
  rotate_left
  ·have hi':¬ (i:Int) < steps.length:=by omega
   refine gY1 @hi' ?_
   obtain rfl:i=steps.length:=by omega
   rw [List.take_length] at i4
   rw [hP] at i4
   exact hk.yes (xW.trans i3) ⟨hbd,i4⟩
  have hi':(i:Int) < steps.length:=by omega
  obtain ⟨g,f,c,hv',hc,hat⟩:=(hs.inc StE.mono (xW.trans i3).inc).at (by omega)
  obtain ⟨rfl,rfl⟩:ka=some ⟨g,f,none⟩∧kc=c:=by simpa using hv'
  obtain ⟨x,hx⟩:∃ x,steps[i]? = some x:=⟨_,List.getElem?_eq_getElem hi⟩
  obtain ⟨h0,h1⟩:=cells_ste (hat i x hx)
  obtain ⟨T,hT⟩:∃ T,T=w1.heap.size:=⟨_,rfl⟩
  obtain ⟨w2,hw2⟩:∃ w2,w2=w1.alloc (.cells #[.int .u8 x.1,.string ⟨x.2.toArray⟩] 97):=⟨_,rfl⟩
  have x2:Ext w1 w2:=by rw [hw2]; exact ext_alloc _
  have c0:w2.cell? ⟨T,0,none⟩=some (.int .u8 x.1):=by rw [hw2,hT]; exact eY1 @cell_newN
  have c1:w2.cell? ⟨T,1,none⟩=some (.string ⟨x.2.toArray⟩):=by rw [hw2,hT]; exact eY1 @cell_newN
  have a0:=(i3.trans x2).cell a0
  have a1:=(i3.trans x2).cell a1
  have b0:=(i3.trans x2).cell b0
  have b1:=(i3.trans x2).cell b1
  refine gY4 @hi' @h0 @h1 @cell_newN ?_
  rw [← hw2,← hT]
  rcases (by omega:x.1=0∨x.1=1∨x.1=4∨x.1=5∨x.1≠0∧x.1≠1∧x.1≠4∧x.1≠5) with q | q | q | q | q
  ·have q0:((x.1:Int) == 0)=true:=by rw [q]; rfl
   refine gY4 @c0 @q0 @a1 @b1 ?_
   first
    | exact hk.no (xW.trans (i3.trans x2))
    | (refine hK2 _ _ (i+1) ?_ ⟨hi,i3.trans x2,all_more i4 hx (by rw [hP]; exact ⟨fun _=>rfl,fun h=>by omega,fun h=>by omega⟩)⟩ (by omega)
       exact agZ)
  ·have q0:((x.1:Int) == 0)=false:=by rw [q]; rfl
   have q1:((x.1:Int) == 1)=true:=by rw [q]; rfl
   refine gY5 @c0 @q0 @q1 @a1 @b1 ?_
   first
    | exact hk.no (xW.trans (i3.trans x2))
    | (refine hK2 _ _ (i+1) ?_ ⟨hi,i3.trans x2,all_more i4 hx (by rw [hP]; exact ⟨fun h=>by omega,fun _=>rfl,fun h=>by omega⟩)⟩ (by omega)
       exact agZ)
  ·have q0:((x.1:Int) == 0)=false:=by rw [q]; rfl
   have q1:((x.1:Int) == 1)=false:=by rw [q]; rfl
   have q2:((x.1:Int) == 4)=true:=by rw [q]; rfl
   by_cases m1:x.2 < kl <;> by_cases m2:kh < x.2
   all_goals
    refine gY11 @c0 @c1 @q0 @q1 @q2 @a0 @a1 @b0 @b1 @m1 @m2 ?_
    first
     | exact hk.no (xW.trans (i3.trans x2))
     | (refine hK2 _ _ (i+1) ?_ ⟨hi,i3.trans x2,all_more i4 hx (by rw [hP]; exact ⟨fun h=>by omega,fun h=>by omega,fun _=>okKy_of (by intro h; first | exact m1 | cases h) (by intro h; first | exact m2 | cases h)⟩)⟩ (by omega)
        exact agZ)
  ·have q0:((x.1:Int) == 0)=false:=by rw [q]; rfl
   have q1:((x.1:Int) == 1)=false:=by rw [q]; rfl
   have q2:((x.1:Int) == 4)=false:=by rw [q]; rfl
   have q3:((x.1:Int) == 5)=true:=by rw [q]; rfl
   by_cases m1:x.2 < kl <;> by_cases m2:kh < x.2
   all_goals
    refine gY12 @c0 @c1 @q0 @q1 @q2 @q3 @a0 @a1 @b0 @b1 @m1 @m2 ?_
    first
     | exact hk.no (xW.trans (i3.trans x2))
     | (refine hK2 _ _ (i+1) ?_ ⟨hi,i3.trans x2,all_more i4 hx (by rw [hP]; exact ⟨fun h=>by omega,fun h=>by omega,fun _=>okKy_of (by intro h; first | exact m1 | cases h) (by intro h; first | exact m2 | cases h)⟩)⟩ (by omega)
        exact agZ)
  ·have q0:((x.1:Int) == 0)=false:=by simp; omega
   have q1:((x.1:Int) == 1)=false:=by simp; omega
   have q2:((x.1:Int) == 4)=false:=by simp; omega
   have q3:((x.1:Int) == 5)=false:=by simp; omega
   refine gY5 @c0 @q0 @q1 @q2 @q3 ?_
   first
    | exact hk.no (xW.trans (i3.trans x2))
    | (refine hK2 _ _ (i+1) ?_ ⟨hi,i3.trans x2,all_more i4 hx (by rw [hP]; exact ⟨fun h=>by omega,fun h=>by omega,fun h=>by omega⟩)⟩ (by omega)
       exact agZ)
theorem fnWithin_run {lv sv:Value} {Lv:List (List Sp)} {snap:Nat} {kl kh:Bytes} {bl bh:Bool} {steps:List (Nat × Bytes)} (hv:Sl LvE 1 d lv Lv) (hs:Sl StE 2 d sv steps) (hsn:snap < 18446744073709551616) (hinc:Inc d w) (hk:∀ w2,Ext w w2→k (.bool true) w2) :
    callK prog 7 #[lv,.int .u64 snap,.agg #[.string ⟨kl.toArray⟩,.bool bl],.agg #[.string ⟨kh.toArray⟩,.bool bh],sv] k w:=by
 obtain ⟨la,lc,rfl⟩:=hv.form
 obtain ⟨sa,sc,rfl⟩:=hs.form
 refine callZ [.tmp 10] func7 ?_
 obtain ⟨A,hA⟩:∃ A,A=w.heap.size:=⟨_,rfl⟩
 obtain ⟨W,hW⟩:∃ W,W=(w.alloc (.cells #[.string ⟨kl.toArray⟩,.bool bl] 31)).alloc (.cells #[.string ⟨kh.toArray⟩,.bool bh] 31):=⟨_,rfl⟩
 have x0:Ext w W:=by rw [hW]; exact (ext_alloc _).trans (ext_alloc _)
 have a0:W.cell? ⟨A,0,none⟩=some (.string ⟨kl.toArray⟩):=by rw [hW,hA]; exact eY1 @cell_newN
 have a1:W.cell? ⟨A,1,none⟩=some (.bool bl):=by rw [hW,hA]; exact eY1 @cell_newN
 have b0:W.cell? ⟨A+1,0,none⟩=some (.string ⟨kh.toArray⟩):=by rw [hW,hA]; exact eY1 @cell_newN
 have b1:W.cell? ⟨A+1,1,none⟩=some (.bool bh):=by rw [hW,hA]; exact eY1 @cell_newN
 refine goZ ?_
 rw [← hW,← hA]
 refine fits3_run (hv.inc LvE.mono (hinc.trans x0.inc)) fun b1' w1 y1 hb1 => ?_
 have x1:=x0.trans y1
 have a0:=(y1).cell a0
 have a1:=(y1).cell a1
 have b0:=(y1).cell b0
 have b1:=(y1).cell b1
 cases b1' with
 | false =>
  refine gY1 @Bool.not_false ?_
  exact hk _ x1
 | true =>
 obtain ⟨f1,f2⟩:=hb1 rfl
 refine gY3 @Bool.not_true @a0 @a1 ?_
 refine fits10_run fun b2 w2 y2 hb2 => ?_
 have x2:=x1.trans y2
 have a0:=(y2).cell a0
 have a1:=(y2).cell a1
 have b0:=(y2).cell b0
 have b1:=(y2).cell b1
 cases b2 with
 | false =>
  refine gY1 @Bool.not_false ?_
  exact hk _ x2
 | true =>
 have f3:=hb2 rfl
 refine gY3 @Bool.not_true @b0 @b1 ?_
 refine fits10_run fun b3 w3 y3 hb3 => ?_
 have x3:=x2.trans y3
 have a0:=(y3).cell a0
 have a1:=(y3).cell a1
 have b0:=(y3).cell b0
 have b1:=(y3).cell b1
 cases b3 with
 | false =>
  refine gY1 @Bool.not_false ?_
  exact hk _ x3
 | true =>
 have f4:=hb3 rfl
 refine gY1 @Bool.not_true ?_
 refine fits8_run (hs.inc StE.mono (hinc.trans x3.inc)) fun b4 w4 y4 hb4 => ?_
 have x4:=x3.trans y4
 have a0:=(y4).cell a0
 have a1:=(y4).cell a1
 have b0:=(y4).cell b0
 have b1:=(y4).cell b1
 cases b4 with
 | false =>
  refine gY1 @Bool.not_false ?_
  exact hk _ x4
 | true =>
 obtain ⟨f5,f6⟩:=hb4 rfl
 refine gY1 @Bool.not_true ?_
 refine rangeLevels_run (n:=8) hv f1 (fun x hx=>⟨(f2 x hx).1,fun y hy=>((f2 x hx).2 y hy).2.2.1⟩) (by decide) (hinc.trans x4.inc) fun b5 w5 y5 hb5 => ?_
 have x5:=x4.trans y5
 have a0:=(y5).cell a0
 have a1:=(y5).cell a1
 have b0:=(y5).cell b0
 have b1:=(y5).cell b1
 cases b5 with
 | false =>
  refine gY1 @Bool.not_false ?_
  exact hk _ x5
 | true =>
 have lo:=hb5 rfl
 by_cases h60:(60:Int) < steps.length
 ·refine gY2 @Bool.not_true @h60 ?_
  exact hk _ x5
 refine gY6 @Bool.not_true @h60 @a0 @a1 @b0 @b1 ?_
 refine spanObeys_run (hs.inc StE.mono (hinc.trans x5.inc)) (by omega) fun b6 w6 y6 hb6 => ?_
 have x6:=x5.trans y6
 have a0:=(y6).cell a0
 have a1:=(y6).cell a1
 have b0:=(y6).cell b0
 have b1:=(y6).cell b1
 cases b6 with
 | false =>
  refine gY1 @Bool.not_false ?_
  exact hk _ x6
 | true =>
 obtain ⟨hbd,hob⟩:=hb6 rfl
 refine gY5 @Bool.not_true @a0 @a1 @b0 @b1 ?_
 have hLs:∀ L ∈ Lv,L.length≤100:=fun L h=>by have:=lo.sz L h; omega
 have hLk:∀ L ∈ Lv,∀ y ∈ L,y.ks.length≤40:=fun L h y hy=>(lo.ks L h y hy).2
 have hfl:=flatten_length_le (Lv:=Lv) (n:=8) lo.sz
 have hf6:Lv.length * 8≤6 * 8:=Nat.mul_le_mul_right _ lo.n6
 have hfk:∀ y ∈ Lv.flatten,y.ks.length≤40:=fun y hy=>by
  obtain ⟨L,hL,hy⟩:=List.mem_flatten.1 hy
  exact hLk L hL y hy
 refine rangeView_run (lb:=bl) (hb:=bh) (ls:=kl) (hs:=kh) hv lo.n6 hLs hLk (hinc.trans x6.inc) fun d7 w7 v7 g7 s7 => ?_
 have a0:=(g7.x).cell a0
 have a1:=(g7.x).cell a1
 have b0:=(g7.x).cell b0
 have b1:=(g7.x).cell b1
 have hve:viewP Lv.flatten snap (bdO2 bl kl) (bdO2 bh kh)=(rV Lv snap (bdO kl bl) (bdO kh bh)).map bareS:=view_eq lo.wf (fun L h s hs=>(lo.ks L h s hs).1) lo.cdF (bdO kl bl) (bdO kh bh)
 have hvl:=viewP_length Lv.flatten snap (bdO2 bl kl) (bdO2 bh kh)
 have hvk:=viewP_ks (l:=Lv.flatten) (snap:=snap) (m:=40) (lo:=bdO2 bl kl) (hi:=bdO2 bh kh) hfk
 obtain ⟨V,hV⟩:∃ V,V=rV Lv snap (bdO kl bl) (bdO kh bh):=⟨_,rfl⟩
 have hwf:Wf V:=by rw [hV]; exact Vw_wf (GB_wf (GL_wf (bds_of lo.wf)))
 have s7:Sl SpE 3 d7 v7 (V.map bareS):=by rw [hV,← hve]; exact s7
 have hVl:V.length≤96:=by
  rw [hve,← hV,List.length_map] at hvl
  omega
 have hVk:∀ x ∈ V,x.ks.length≤1920:=fun x hx=>by
  have:=hvk (bareS x) (by rw [hve,← hV]; exact List.mem_map_of_mem hx)
  rw [bareS_eqn,List.length_map] at this
  omega
 obtain ⟨va,vc,rfl⟩:=s7.form
 refine goZ ?_
 have i7:=(Gr.ext hinc x6).trans g7
 refine drawZ (sq [0,2] (.read 3 (.read 5 (sq [7,10,11] (.eff 1 [3,5] (.eff 4 [5] (.eff 6 [] (.eff 8 [] (.eff 9 [] (.eff 12 [] (.eff 13 [] (sq [14] (.eff 15 [] (sq [16,17] .done)))))))))))))) ?_
 have i7:=i7.drew
 have a0:w7.drew.cell? ⟨A,0,none⟩=some (.string ⟨kl.toArray⟩):=a0
 have a1:w7.drew.cell? ⟨A,1,none⟩=some (.bool bl):=a1
 have b0:w7.drew.cell? ⟨A+1,0,none⟩=some (.string ⟨kh.toArray⟩):=b0
 have b1:w7.drew.cell? ⟨A+1,1,none⟩=some (.bool bh):=b1
 refine gY4 @a0 @a1 @b0 @b1 ?_
 refine toLevels_run (hv.inc LvE.mono i7.i) (by have:=lo.n6; omega) (fun x hx=>⟨by have:=lo.sz x hx; omega,fun y hy=>by have:=hLk x hx y hy; omega⟩) i7.j fun d8 w8 v8 g8 s8 => ?_
 have a0:=(g8.x).cell a0
 have a1:=(g8.x).cell a1
 have b0:=(g8.x).cell b0
 have b1:=(g8.x).cell b1
 have i8:=i7.trans g8
 refine gY4 @a0 @a1 @b0 @b1 ?_
 refine spanBound_run fun w9 y9 => ?_
 have g9:=Gr.ext i8.j y9
 have a0:=(y9).cell a0
 have a1:=(y9).cell a1
 have b0:=(y9).cell b0
 have b1:=(y9).cell b1
 refine gY4 @a0 @a1 @b0 @b1 ?_
 refine spanBound_run fun w10 y10 => ?_
 have g10:=g9.trans (Gr.ext g9.j y10)
 have a0:=(y10).cell a0
 have a1:=(y10).cell a1
 have b0:=(y10).cell b0
 have b1:=(y10).cell b1
 have i10:=i8.trans g10
 refine goZ ?_
 refine toSteps_run (hs.inc StE.mono i10.i) (by omega) i10.j fun d11 w11 v11 g11 s11 => ?_
 have i11:=i10.trans g11
 refine goZ ?_
 have rin:=rin_ok lo (by decide) hsn f2 hbd
 have stok:StOk (bdO kl bl) (bdO kh bh) steps:=fun x hx=>by
  obtain ⟨q1,q2,q3⟩:=hob x hx
  exact ⟨q1,q2,q3,by have:=f6 x hx; omega⟩
 refine RangeUser_run (s8.inc LvE.mono (g10.trans g11).i) s11 i11.j rin (by omega) (by omega) stok (by omega) fun d12 w12 v12 l12 g12 s12 hp => ?_
 have i12:=i11.trans g12
 have hp:Pw (AnsOk V AllSet) (wlk V (-2) false 0 steps) l12:=by rw [hV]; exact hp
 obtain ⟨ga,gc,rfl⟩:=s12.form
 refine goZ ?_
 refine walk_run (s7.inc SpE.mono (g8.trans (g10.trans (g11.trans g12))).i) (hs.inc StE.mono i12.i) (by rw [List.length_map]; omega) (by omega) (Wf.bare hwf) i12.j fun d13 w13 v13 g13 s13 => ?_
 have i13:=i12.trans g13
 have hwb:wlk (V.map bareS) (-2) false 0 steps=wlk V (-2) false 0 steps:=wlk_bare V _ _ _ _
 rw [hwb] at s13
 refine goZ ?_
 refine rangeAnswers_run (s12.inc AnE.mono g13.i) s13 (by rw [List.length_map]; exact hp.1.symm) (by rw [← hp.1,wlk_length]; omega) (fun i a b ha hb => ?_) i13.j fun w14 y14 => ?_
 ·obtain ⟨r1,r2,r3⟩:=ans_rel (m:=100000) hp (fun x hx=>by have:=hVk x hx; omega) i a b ha hb
  exact ⟨r1,r2,r3⟩
 have i14:=i13.trans (Gr.ext i13.j y14)
 refine goZ ?_
 refine rangeFound_run i14.j fun w15 y15 => ?_
 refine goZ ?_
 exact hk _ (i14.x.trans y15)
end
end Go.Proofs
