/- Parts of the proof: Yb. -/
import Derived.Test.YtjcbeinpkafjiaaGreatUXXt
set_option linter.all false
set_option maxRecDepth 10000
namespace Go.Proofs
open Go Go.E Go.Sort
section
variable {k:Kont} {d w:World}
set_option maxHeartbeats 1000000 in
theorem fnAt_run {lv:Value} {Lv:List (List Sp)} {snap:Nat} {key:Bytes} (hv:Sl LvE 1 d lv Lv) (hsn:snap < 18446744073709551616) (hinc:Inc d w) (hk:∀ w2,Ext w w2→k (.bool true) w2) :
    callK Tryz.prog 4 #[lv,.int .u64 snap,.string ⟨key.toArray⟩] k w:=by
 obtain ⟨la,lc,rfl⟩:=hv.form
 refine callZ [.tmp 6] Tryz.func4 ?_
 refine goZ ?_
 refine fits3_run (hv.inc LvE.mono hinc) fun b1 w1 x1 hb1 => ?_
 cases b1 with
 | false =>
  refine gY1 @Bool.not_false ?_
  exact hk _ x1
 | true =>
 obtain ⟨f1,f2⟩:=hb1 rfl
 by_cases hkl:2147483647 < (key.length:Int)
 ·refine gY2 @Bool.not_true @hkl ?_
  exact hk _ x1
 refine gY2 @Bool.not_true @hkl ?_
 refine rangeLevels_run (n:=8) hv f1 (fun x hx=>⟨(f2 x hx).1,fun y hy=>((f2 x hx).2 y hy).2.2.1⟩) (by decide) (hinc.trans x1.inc) fun b3 w3 x3 hb3 => ?_
 have x13:=x1.trans x3
 cases b3 with
 | false =>
  refine gY1 @Bool.not_false ?_
  exact hk _ x13
 | true =>
 have lo:=hb3 rfl
 refine gY1 @Bool.not_true ?_
 have eS:ByteArray.empty=⟨([]:Bytes).toArray⟩:=rfl
 have hLk:∀ L ∈ Lv,∀ y ∈ L,y.ks.length≤40:=fun L h y hy=>(lo.ks L h y hy).2
 have hfl:=flatten_length_le (Lv:=Lv) (n:=8) lo.sz
 have hf6:Lv.length * 8≤6 * 8:=Nat.mul_le_mul_right _ lo.n6
 have hfk:∀ y ∈ Lv.flatten,y.ks.length≤40:=fun y hy=>by
  obtain ⟨L,hL,hy⟩:=List.mem_flatten.1 hy
  exact hLk L hL y hy
 have rin:RIn Lv snap none none:=rin_ok lo (by decide) hsn f2 okBd_none
 have hVk:=rV_ks rin hLk
 have hfm:Lv.flatten.length * 40≤48 * 40:=Nat.mul_le_mul_right _ (by omega)
 have hlv:∀ x ∈ Lv,x.length≤100000∧∀ y ∈ x,y.ks.length≤100000:=fun x hx=>⟨by have:=lo.sz x hx; omega,fun y hy=>by have:=hLk x hx y hy; omega⟩
 have hat:=at_state (snap:=snap) (x:=key) lo
 have hwf:Wf (rV Lv snap none none):=Vw_wf (GB_wf (GL_wf (bds_of lo.wf)))
 obtain ⟨V,hV⟩:∃ V,V=rV Lv snap none none:=⟨_,rfl⟩
 rw [← hV] at hVk hat hwf
 have i0:=Gr.ext hinc x13
 refine spanAll_run (hv.inc LvE.mono i0.i) (by have:=lo.n6; omega) (fun x hx=>by have:=lo.sz x hx; omega) i0.j fun d4 w4 v4 g4 s4 => ?_
 have i4:=i0.trans g4
 obtain ⟨a4,c4,rfl⟩:=s4.form
 have hFt:=sl_sktr s4
 have hpl:=ptK_len (key:=key) hfk
 have hcl:=(canonP_perm (ptK Lv.flatten key)).length_eq
 have hct:KTr (canonP (ptK Lv.flatten key)):=fun y hy=>by
  have hy:=(canonP_perm _).mem_iff.1 hy
  unfold ptK at hy
  obtain ⟨x,hx,hy⟩:=List.mem_flatMap.1 hy
  split at hy
  ·exact hFt x hx y hy
  ·simp at hy
 obtain ⟨C,hC⟩:∃ C,C=canonP (ptK Lv.flatten key):=⟨_,rfl⟩
 rw [← hC] at hcl hct hat
 refine goZ ?_
 refine spanAt_run (s4.inc SpE.mono i4.j) (by omega) hfk fun v5 w5 x5 o5 n5 => ?_
 rw [← hC] at o5
 have i5:=i4.trans (Gr.ext i4.j x5)
 obtain ⟨a5,c5,rfl,_⟩:=o5.form
 refine goZ ?_
 rw [eS]
 refine visible_run (x:=⟨[],[],C⟩) (o5.ke hct) (show C.length≤100000 by omega) fun v6 w6 x6 o6 n6 => ?_
 have i6:=i5.trans (Gr.ext i5.j x6)
 have hvl:(visP snap C).length≤C.length:=List.length_filter_le _ _
 have hvt:KTr (visP snap C):=fun y hy=>hct y (List.mem_filter.1 hy).1
 obtain ⟨a6,c6,rfl,_⟩:=o6.form
 have o6:OwnC kce 3 88 w6 (.slice a6 (visP snap C).length c6) (visP snap C):=o6
 refine goZ ?_
 refine rangeState_run (l:=visP snap C) (o6.ke hvt) (by omega) fun v7 w7 x7 o7 n7 => ?_
 have i7:=i6.trans (Gr.ext i6.j x7)
 obtain ⟨S,hS⟩:∃ S,S=stateP [] (visP snap C):=⟨_,rfl⟩
 rw [← hS] at o7 hat
 obtain ⟨a7,c7,rfl,_⟩:=o7.form
 refine goZ ?_
 refine toLevels_run (hv.inc LvE.mono i7.i) (by have:=lo.n6; omega) hlv i7.j fun d8 w8 v8 g8 s8 => ?_
 have i8:=i7.trans g8
 have o8:=o7.ext g8.x
 refine goZ ?_
 obtain ⟨W,hW⟩:∃ W,W=w8.alloc (.cells #[.int .u8 4,.string ⟨key.toArray⟩] 53):=⟨_,rfl⟩
 have xW:Ext w8 W:=by rw [hW]; exact ext_alloc _
 have q0:W.cell? ⟨w8.heap.size,0,none⟩=some (.int .u8 4):=by rw [hW]; exact eY1 @cell_newN
 have q1:W.cell? ⟨w8.heap.size,1,none⟩=some (.string ⟨key.toArray⟩):=by rw [hW]; exact eY1 @cell_newN
 obtain ⟨d9,g9,e9⟩:=grAll i8.j xW
 have st:Sl StE 2 d9 (.slice (some ⟨w8.heap.size,0,none⟩) 1 1) [(4,key)]:=slOne (cs:=[.int .u8 4,str key]) rfl (fun j u hu=>by
  match j,hu with
  | 0,hu=>obtain rfl:=Option.some.inj hu; exact e9 _ _ _ (Nat.le_refl _) q0
  | 1,hu=>obtain rfl:=Option.some.inj hu; exact e9 _ _ _ (Nat.le_refl _) q1) ⟨rfl,show (4:Nat) < 256 by decide⟩
 have stok:StOk (bdO [] false) (bdO [] false) [(4,key)]:=fun x hx=>by
  rw [List.mem_singleton.1 hx]
  exact ⟨fun _=>rfl,fun _=>rfl,fun _=>⟨fun l h=>(by cases h),fun l h=>(by cases h)⟩,by simp only; omega⟩
 rw [← hW]
 have i9:=i8.trans g9
 have o9:=o8.ext g9.x
 refine RangeUser_run (kl:=[]) (kh:=[]) (bl:=false) (bh:=false) (s8.inc LvE.mono g9.i) st i9.j rin (by decide) (by decide) stok (show 1 < 1000000 by decide) fun d10 w10 v10 l10 g10 s10 hp => ?_
 have i10:=i9.trans g10
 have o10:=o9.ext g10.x
 have hp:Pw (AnsOk V AllSet) [some ((skGE V key:Nat):Int)] l10:=by rw [hV]; exact hp
 obtain ⟨p,hpE⟩:∃ p,p=skGE V key:=⟨_,rfl⟩
 obtain ⟨t1,t2⟩:=valAt_skGE hwf hpE.symm
 rw [← hpE] at hp
 obtain ⟨a,rfl⟩:∃ a,l10=[a]:=by
  have:=hp.1
  match l10,this with
  | [a],_=>exact ⟨a,rfl⟩
 obtain ⟨h1,h2,h3,h4⟩:=hp.2 0 _ _ rfl rfl
 obtain ⟨va,vc,rfl⟩:=s10.form
 refine goZ ?_
 have n1:(((1:Nat):Int) != 1)=false:=rfl
 simp (disch:=first | exact dZ | fail) only [go_sem,↓reduceIte,Nat.reduceEqDiff,Nat.reduceAdd,List.length_singleton,n1]
 refine rangeFound_run i10.j fun w11 x11 => ?_
 have i11:=i10.trans (Gr.ext i10.j x11)
 have o11:=o10.ext x11
 have s11:=(s10.inc AnE.mono i10.j).inc AnE.mono x11.inc
 obtain ⟨g,f,c,hv',hc,hat11⟩:=s11.at (by simp)
 obtain ⟨rfl,rfl⟩:va=some ⟨g,f,none⟩∧vc=c:=by simpa using hv'
 obtain ⟨y0,y1,y2,y3,xa,xc,y4,hxk⟩:=cells_ane (hat11 0 a rfl)
 simp only [Nat.zero_mul,Nat.add_zero] at y0 y1 y2 y3 y4
 have e2:(0:Int) < ((1:Nat):Int):=by decide
 have hok:a.ok=decide (p < V.length):=by
  rw [h2]; unfold inV
  rw [decide_eq_decide]; omega
 by_cases hS0:S=[]
 ·have hl0:((S.length:Int) == 0)=true:=by rw [hS0]; rfl
  simp (disch:=first | exact dZ | fail) only [go_sem,↓reduceIte,Nat.reduceEqDiff,Nat.reduceAdd,Bool.not_true,hl0,y1,List.length_singleton,e2,Int.toNat_zero,Nat.zero_mul,Nat.add_zero]
  cases hb:a.ok with
  | false =>
   refine gY1 @Bool.not_false ?_
   exact hk _ i11.x
  | true =>
   have hpl:p < V.length:=of_decide_eq_true (hok.symm.trans hb)
   obtain ⟨r1,r2,r3,_⟩:=h3 p rfl hpl
   by_cases hks:key < a.sp.s
   ·refine gY8 @Bool.not_true @y2 @hks @e2 @Int.toNat_zero @Nat.zero_mul @Nat.add_zero @decide_true ?_
    exact hk _ i11.x
   ·have t3:=(t1 hpl (by rw [← r1]; exact hks)).1
    have hz:a.sp.ks.length=0:=by
     have:=congrArg List.length r3
     rw [List.length_map,← t3,hat,hS0] at this
     exact this
    have hz':((a.sp.ks.length:Int) == 0)=true:=by rw [hz]; rfl
    refine gY10 @Bool.not_true @y2 @y4 @hks @e2 @Int.toNat_zero @Nat.zero_mul @Nat.add_zero @hz' @decide_false ?_
    exact hk _ i11.x
 have hl0:((S.length:Int) == 0)=false:=by
  have:S.length≠0:=fun h=>hS0 (List.length_eq_zero_iff.1 h)
  simp; omega
 have hpl:p < V.length:=by
  refine Classical.byContradiction fun h=>hS0 ?_
  rw [← hat]
  exact t2 fun h2=>absurd h2 h
 obtain ⟨r1,r2,r3,_⟩:=h3 p rfl hpl
 have hks:¬ key < V[p]!.s:=fun h=>hS0 (by rw [← hat]; exact t2 fun _=>h)
 obtain ⟨t3,t4⟩:=t1 hpl hks
 have hcon:hasK key a.sp=true:=decide_eq_true ⟨by rw [r1]; exact hks,by rw [r2]; exact t4⟩
 have hsv:a.sp.ks.map K.sv=S:=by rw [r3,← t3,hat]
 have hln:a.sp.ks.length=S.length:=by rw [← hsv,List.length_map]
 have hb:a.ok=true:=hok.trans (decide_eq_true hpl)
 have hal:a.sp.ks.length≤1920:=by
  have:=congrArg List.length r3
  rw [List.length_map,List.length_map] at this
  have:=hVk V[p]! (by rw [getElem!_pos V p hpl]; exact List.getElem_mem hpl)
  omega
 rw [hb] at y1
 simp (disch:=first | exact dZ | fail) only [go_sem,↓reduceIte,Nat.reduceEqDiff,Nat.reduceAdd,Bool.not_true,hl0,y1,y2,y3,y4,List.length_singleton,e2,Int.toNat_zero,Nat.zero_mul,Nat.add_zero]
 obtain ⟨d12,g12,e12⟩:=grAll i11.j (Ext.refl w11)
 refine ofSpan_run (x:=a.sp) hxk (by omega) (Inc.refl w11) fun d13 w13 v13 g13 s13 => ?_
 have x13':=g13.x
 obtain ⟨a13,c13,rfl⟩:=s13.form
 have y1:=x13'.cell y1
 have y2:=x13'.cell y2
 have y3:=x13'.cell y3
 have y4:=x13'.cell y4
 have o13:=o11.ext x13'
 refine goZ ?_
 refine contains_run ⟨_,_,_,rfl⟩ fun w14 x14 => ?_
 rw [hcon]
 have xe:=x13'.trans x14
 have y1:=x14.cell y1
 have y2:=x14.cell y2
 have y3:=x14.cell y3
 have y4:=x14.cell y4
 have o14:=o13.ext x14
 have hxk:=hxk.inc KE.mono xe.inc
 have hne:((a.sp.ks.length:Int) != S.length)=false:=by rw [hln]; simp
 refine gY7 @Bool.not_true @y4 @e2 @Int.toNat_zero @Nat.zero_mul @Nat.add_zero @hne ?_
 refine loopC (fun i:Nat=>[(8,.slice a7 S.length c7),(105,.slice xa a.sp.ks.length xc),(106,.int .i64 a.sp.ks.length),(107,.int .i64 i)])
  (fun i w'=>i≤a.sp.ks.length∧Ext w14 w') (fun i _=>a.sp.ks.length - i) 0 (by kernel_rfl) ?_ ⟨Nat.zero_le _,Ext.refl _⟩ ?_
 ·exact agZ
 rintro K2 e i w15 ⟨j1,j2⟩ hK2
 rcases Nat.lt_or_ge i a.sp.ks.length with hi | hi
 rotate_left
 ·have hi':¬ (i:Int) < a.sp.ks.length:=by omega
  refine gY1 @hi' ?_
  exact hk _ (i11.x.trans (xe.trans j2))
 have hi':(i:Int) < a.sp.ks.length:=by omega
 have hi2:(i:Int) < S.length:=by omega
 obtain ⟨kg,kf,kc,hkv',hkc,hkat⟩:=(hxk.inc KE.mono j2.inc).at (by omega)
 obtain ⟨rfl,rfl⟩:xa=some ⟨kg,kf,none⟩∧xc=kc:=by simpa using hkv'
 obtain ⟨x,hx⟩:∃ x,a.sp.ks[i]? = some x:=⟨_,List.getElem?_eq_getElem hi⟩
 obtain ⟨z0,z1,z2,z3⟩:=cells_ke (hkat i x hx)
 obtain ⟨sg,sc,hsv',hsg⟩:=o14.block (show 0 < S.length by omega)
 obtain ⟨rfl,rfl⟩:a7=some ⟨sg,0,none⟩∧c7=sc:=by simpa using hsv'
 have o15:=o14.ext j2
 have hSx:S[i]? = some x.sv:=by rw [← hsv,List.getElem?_map,hx]; rfl
 have u0:=o15.cell hSx (j:=0) rfl
 have u1:=o15.cell hSx (j:=1) rfl
 simp only [str,Nat.add_zero] at u0 u1
 have u0:w15.cell? ⟨sg,i * 2,none⟩=some (.string ⟨x.suf.toArray⟩):=u0
 have u1:w15.cell? ⟨sg,i * 2+1,none⟩=some (.string ⟨x.val.toArray⟩):=u1
 obtain ⟨W2,hW2⟩:∃ W2,W2=(w15.alloc (.cells #[.int .u64 x.tr,.string ⟨x.suf.toArray⟩,.string ⟨x.val.toArray⟩] 62)).drew:=⟨_,rfl⟩
 have xW2:Ext w15 W2:=by rw [hW2]; exact Ext.drew' (ext_alloc _)
 have p1:W2.cell? ⟨w15.heap.size,1,none⟩=some (.string ⟨x.suf.toArray⟩):=by rw [hW2]; exact eY1 @cell_newN
 have p2:W2.cell? ⟨w15.heap.size,2,none⟩=some (.string ⟨x.val.toArray⟩):=by rw [hW2]; exact eY1 @cell_newN
 have u0:=xW2.cell u0
 have u1:=xW2.cell u1
 have m1:decide (x.suf≠x.suf)=false:=by simp
 have m2:decide (x.val≠x.val)=false:=by simp
 refine gY5 @hi' @z0 @z1 @z2 @cell_newN ?_
 refine drawZ (sq [0] (.read 1 (sq [2,3,4,5] (.read 6 (sq [7,8,9] (.read 10 (sq [11,12,13,14] (.read 15 (sq [16,17] .done))))))))) ?_
 rw [← hW2]
 refine gY8 @p1 @p2 @u0 @u1 @hi2 @m1 @m2 @Nat.zero_add ?_
 refine hK2 _ _ (i+1) ?_ ⟨hi,j2.trans xW2⟩ (by omega)
 exact agZ
end
end Go.Proofs
