/- Parts of the proof: Yc. -/
import Derived.Test.YtjcbeinpkafjiaaGreatUXXz
import Derived.Test.YtjcbeinpkafjiaaGreatUXYd
set_option linter.all false
set_option maxRecDepth 10000
namespace Go.E
open Go Go.Sort Go.Proofs Go.Proofs.Tryz
section
variable {Lv:List (List Sp)} {n snap:Nat}
theorem LvOk.flat (lo:LvOk Lv n):Lv.flatten.length≤6 * n:=by
 have h1:=flatten_length_le (Lv:=Lv) (n:=n) lo.sz
 have h2:Lv.length * n≤6 * n:=Nat.mul_le_mul_right _ lo.n6
 omega
theorem LvOk.v (lo:LvOk Lv n) (hn:n≤8) (hsn:snap < 18446744073709551616) (f2:∀ x ∈ Lv,x.length≤2147483647∧∀ y ∈ x,SFit y):VOk Lv snap :=
 ⟨rin_ok lo (by omega) hsn f2 okBd_none,lo.n6,fun x hx=>⟨by have:=lo.sz x hx; omega,fun y hy=>by have:=(lo.ks x hx y hy).2; omega⟩,by have:=lo.flat; omega⟩
theorem LvOk.cutV (lo:LvOk Lv n) (hn:n≤5) (h4:Lv.length≤4) {keys:List Bytes} (hk:keys.length≤10) (hks:∀ k ∈ keys,k.length≤2147483647) (hsn:snap < 18446744073709551616) (f2:∀ x ∈ Lv,x.length≤2147483647∧∀ y ∈ x,SFit y):VOk (Lv.map (cutP keys)) snap:=by
 have hL:∀ L ∈ Lv.map (cutP keys),L.length≤55:=fun L hL=>by
  obtain ⟨M,hM,rfl⟩:=List.mem_map.1 hL
  have h1:=cutP_length keys M
  have h2:=lo.sz M hM
  have:M.length * (keys.length+1)≤5 * 11:=Nat.mul_le_mul (by omega) (by omega)
  omega
 refine ⟨rin_cut lo hn hk hks hsn f2,by rw [List.length_map]; omega,fun L h=>⟨by have:=hL L h; omega,fun t ht => ?_⟩,?_⟩
 ·obtain ⟨M,hM,rfl⟩:=List.mem_map.1 h
  obtain ⟨s,hs,e⟩:=(cutP_spec keys (lo.wf M hM)).2.2 t ht
  have:=(lo.ks M hM s hs).2
  rw [e]; omega
 ·have h1:=flatten_length_le (Lv:=Lv.map (cutP keys)) (n:=55) hL
  rw [List.length_map] at h1
  have h2:Lv.length * 55≤4 * 55:=Nat.mul_le_mul_right _ h4
  omega
end
end Go.E
namespace Go.Proofs
open Go Go.E Go.Sort Go.Proofs.Tryz
section
variable {k:Kont} {d w:World}
theorem fnCut_run {lv kv:Value} {Lv:List (List Sp)} {keys:List Bytes} {snap:Nat} (hv:Sl LvE 1 d lv Lv) (hkv:Sl TxE 1 d kv keys) (hsn:snap < 18446744073709551616) (hinc:Inc d w) (hk:∀ w2,Ext w w2→k (.bool true) w2) :
    callK prog 5 #[lv,kv,.int .u64 snap] k w:=by
 obtain ⟨la,lc,rfl⟩:=hv.form
 obtain ⟨ya,yc,rfl⟩:=hkv.form
 refine callZ [.tmp 6] func5 ?_
 refine goZ ?_
 refine fits3_run (hv.inc LvE.mono hinc) fun b1 w1 x1 hb1 => ?_
 cases b1 with
 | false =>
  refine gY1 @Bool.not_false ?_
  exact hk _ x1
 | true =>
 obtain ⟨f1,f2⟩:=hb1 rfl
 refine gY1 @Bool.not_true ?_
 refine fits11_run (hkv.inc TxE.mono (hinc.trans x1.inc)) fun b2 w2 x2 hb2 => ?_
 have x12:=x1.trans x2
 cases b2 with
 | false =>
  refine gY1 @Bool.not_false ?_
  exact hk _ x12
 | true =>
 obtain ⟨f3,f4⟩:=hb2 rfl
 by_cases h4:(4:Int) < Lv.length
 ·refine gY2 @Bool.not_true @h4 ?_
  exact hk _ x12
 refine gY2 @Bool.not_true @h4 ?_
 refine rangeLevels_run (n:=5) hv f1 (fun x hx=>⟨(f2 x hx).1,fun y hy=>((f2 x hx).2 y hy).2.2.1⟩) (by decide) (hinc.trans x12.inc) fun b3 w3 x3 hb3 => ?_
 have x13:=x12.trans x3
 cases b3 with
 | false =>
  refine gY1 @Bool.not_false ?_
  exact hk _ x13
 | true =>
 have lo:=hb3 rfl
 by_cases h10:(10:Int) < keys.length
 ·refine gY2 @Bool.not_true @h10 ?_
  exact hk _ x13
 refine gY2 @Bool.not_true @h10 ?_
 have eS:ByteArray.empty=⟨([]:Bytes).toArray⟩:=rfl
 have u1:VOk Lv snap:=lo.v (by decide) hsn f2
 have u2:VOk (Lv.map (cutP keys)) snap:=lo.cutV (by decide) (by omega) (by omega) f4 hsn f2
 have hseen:=seen_cut (snap:=snap) lo keys
 obtain ⟨Cv,hCv⟩:∃ Cv,Cv=Lv.map (cutP keys):=⟨_,rfl⟩
 rw [← hCv] at u2 hseen
 have hVl1:=u1.vl
 have hVk1:=u1.vk
 have hVl2:=u2.vl
 have hVk2:=u2.vk
 obtain ⟨V1,hV1⟩:∃ V,V=rV Lv snap none none:=⟨_,rfl⟩
 obtain ⟨V2,hV2⟩:∃ V,V=rV Cv snap none none:=⟨_,rfl⟩
 rw [← hV1] at hVl1 hVk1 hseen
 rw [← hV2] at hVl2 hVk2 hseen
 have i0:=Gr.ext hinc x13
 have lo5:=lo.sz
 refine loopC (fun b:Nat × Value=>[(0,.slice la Lv.length lc),(1,.slice ya keys.length yc),(2,.int .u64 snap),(7,b.2),(33,.slice la Lv.length lc),(34,.int .i64 Lv.length),(35,.int .i64 b.1)])
  (fun b w'=>b.1≤Lv.length∧∃ d1,LoopL LvE 1 28 d w3 d1 w' b.2 ((Lv.take b.1).map (cutP keys))) (fun b _=>Lv.length - b.1) (0,.slice none 0 0) (by kernel_rfl) ?_ ⟨Nat.zero_le _,d,LoopL.nil i0.j⟩ ?_
 ·exact agZ
 rintro K2 e ⟨i,vo⟩ w4 ⟨i2,d4,i3⟩ hK2
 simp only at i2 i3
 rcases Nat.lt_or_ge i Lv.length with hi | hi
 ·have hi':(i:Int) < Lv.length:=by omega
  obtain ⟨g,f,c,hv',hc,hat⟩:=(hv.inc LvE.mono i3.g.i).at (by omega)
  obtain ⟨rfl,rfl⟩:la=some ⟨g,f,none⟩∧lc=c:=by simpa using hv'
  obtain ⟨x,hx⟩:∃ x,Lv[i]? = some x:=⟨_,List.getElem?_eq_getElem hi⟩
  have hxm:=List.mem_of_getElem? hx
  obtain ⟨cs,_,hcs,hR⟩:=hat i x hx
  obtain ⟨xv,rfl,hxv⟩:=hR
  obtain ⟨xa,xc,rfl⟩:=hxv.form
  have h0:w4.cell? ⟨g,f+i * 1,none⟩=some (.slice xa x.length xc):=i3.g.j _ _ _ (hcs 0 _ rfl)
  refine gY2 @hi' @h0 ?_
  refine spanSplit_run hxv (hkv.inc TxE.mono i3.g.i) (by have:=lo5 x hxm; omega) (by omega) i3.g.j fun d5 w5 v5 g5 s5 => ?_
  have i5:=i3.call LvE.mono g5
  obtain ⟨css,o5⟩:=i5.o
  obtain ⟨va,vcap,rfl,_⟩:=i5.form
  obtain ⟨a5,c5,rfl⟩:=s5.form
  refine goZ ?_
  refine appN (cutP keys x) [.slice a5 (cutP keys x).length c5] rw22 o5 ⟨_,rfl,s5⟩ rfl (.inl rfl) rfl rfl (by simp [Value.oneCell']) (by rw [List.length_map,take_len i2]; omega) i5.g.j fun v6 w6 o6 k6 n6 j6 _ => ?_
  refine goZ ?_
  refine hK2 _ _ (i+1,v6) ?_ ⟨hi,d5,?_⟩ (by simp only; omega)
  ·exact agZ
  ·simp only
   rw [take_more hx,List.map_append]
   exact i5.more o6 k6 n6 j6
 have hi':¬ (i:Int) < Lv.length:=by omega
 obtain rfl:i=Lv.length:=by omega
 rw [List.take_length,← hCv] at i3
 obtain ⟨d5,g5,_,_,s5⟩:=i3.done LvE.mono
 have i0:=i0.trans g5
 obtain ⟨ca,cc,rfl⟩:=s5.form
 have hvc:Sl LvE 1 d5 (.slice ca Cv.length cc) Cv:=s5
 clear s5 i3
 refine gY1 @hi' ?_
 refine toLevels_run (hv.inc LvE.mono i0.i) (by have:=(u1).n6; omega) (fun x hx=>⟨by have:=((u1).sz x hx).1; omega,fun y hy=>by have:=((u1).sz x hx).2 y hy; omega⟩) i0.j fun d5 w5 v5 g5 s5 => ?_
 have i5:=i0.trans g5
 refine goZ ?_
 refine spanBack_run (n:=600) (by decide) i5.j fun d6 w6 v6 g6 s6 => ?_
 have i6:=i5.trans g6
 refine goZ ?_
 rw [eS]
 refine RangeUser_run (kl:=[]) (kh:=[]) (bl:=false) (bh:=false) (s5.inc LvE.mono g6.i) s6 i6.j (u1).rin (by decide) (by decide) (st_ok 600).2 (by rw [(st_length 600).2]; decide) fun d7 w7 v7 l7 g7 s7 hp => ?_
 have i7:=i6.trans g7
 have hp:Pw (AnsOk V1 AllSet) (wlk V1 (-2) false 0 (stB 600)) l7:=by rw [hV1]; exact hp
 have hl7:l7.length=601:=by rw [← hp.1,wlk_length,(st_length 600).2]
 have hb7:=fnd_back (by omega) hp
 have hk7:∀ x ∈ fndP l7,x.ks.length≤30000:=fun x hx=>by
  have hb:(fndP l7).reverse.map bareS=(V1).map bareS:=by rw [List.map_reverse,hb7,List.reverse_reverse]
  exact bare_ks_le hb hVk1 x (List.mem_reverse.2 hx)
 have hs7:((fndP l7).map bareS).filter keyed=((seenP V1).map bareS).reverse:=by
  rw [hb7,List.filter_reverse,show keyed=fun s:Sp=>decide (s.ks≠[]) from rfl,seen_bare]
 refine goZ ?_
 refine rangeSeen_run s7 (by omega) (fun x hx=>by have:=hk7 x hx; omega) i7.j fun d8 w8 v8 g8 s8 => ?_
 rw [hs7] at s8
 have i8:=i7.trans g8
 have i0:=i8
 have sA:=s8
 have hvc:=hvc.inc LvE.mono (g5.trans (g6.trans (g7.trans g8))).i
 clear s8 i8 s7 s6 s5 i7 i6 i5 hp hl7 hb7 hk7 hs7 g5 g6 g7 g8
 obtain ⟨aA,cA,rfl⟩:=sA.form
 refine goZ ?_
 refine toLevels_run (hvc) (by have:=(u2).n6; omega) (fun x hx=>⟨by have:=((u2).sz x hx).1; omega,fun y hy=>by have:=((u2).sz x hx).2 y hy; omega⟩) i0.j fun d5 w5 v5 g5 s5 => ?_
 have i5:=i0.trans g5
 refine goZ ?_
 refine spanBack_run (n:=600) (by decide) i5.j fun d6 w6 v6 g6 s6 => ?_
 have i6:=i5.trans g6
 refine goZ ?_
 rw [eS]
 refine RangeUser_run (kl:=[]) (kh:=[]) (bl:=false) (bh:=false) (s5.inc LvE.mono g6.i) s6 i6.j (u2).rin (by decide) (by decide) (st_ok 600).2 (by rw [(st_length 600).2]; decide) fun d7 w7 v7 l7 g7 s7 hp => ?_
 have i7:=i6.trans g7
 have hp:Pw (AnsOk V2 AllSet) (wlk V2 (-2) false 0 (stB 600)) l7:=by rw [hV2]; exact hp
 have hl7:l7.length=601:=by rw [← hp.1,wlk_length,(st_length 600).2]
 have hb7:=fnd_back (by omega) hp
 have hk7:∀ x ∈ fndP l7,x.ks.length≤30000:=fun x hx=>by
  have hb:(fndP l7).reverse.map bareS=(V2).map bareS:=by rw [List.map_reverse,hb7,List.reverse_reverse]
  exact bare_ks_le hb hVk2 x (List.mem_reverse.2 hx)
 have hs7:((fndP l7).map bareS).filter keyed=((seenP V2).map bareS).reverse:=by
  rw [hb7,List.filter_reverse,show keyed=fun s:Sp=>decide (s.ks≠[]) from rfl,seen_bare]
 refine goZ ?_
 refine rangeSeen_run s7 (by omega) (fun x hx=>by have:=hk7 x hx; omega) i7.j fun d8 w8 v8 g8 s8 => ?_
 rw [hs7] at s8
 have i8:=i7.trans g8
 have hvc:=hvc.inc LvE.mono (g5.trans (g6.trans (g7.trans g8))).i
 have sA:=sA.inc SpE.mono (g5.trans (g6.trans (g7.trans g8))).i
 have sB:=s8
 rw [hseen] at sB
 obtain ⟨aB,cB,rfl⟩:=sB.form
 have i0:=i8
 clear s8 i8 s7 s6 s5 i7 i6 i5 hp hl7 hb7 hk7 hs7 g5 g6 g7 g8
 refine goZ ?_
 refine rangeAll_run (hv.inc LvE.mono i0.i) u1 i0.j fun d9 w9 v9 g9 s9 => ?_
 have i9:=i0.trans g9
 refine goZ ?_
 refine rangeAll_run (hvc.inc LvE.mono g9.i) u2 i9.j fun d10 w10 v10 g10 s10 => ?_
 have i10:=i9.trans g10
 rw [← hV1] at s9
 rw [← hV2,hseen] at s10
 have hsl:∀ x ∈ (seenP V1).map bareS,x.ks.length≤2147483647:=fun x hx=>by
  obtain ⟨y,hy,rfl⟩:=List.mem_map.1 hx
  rw [bareS_ks,List.length_map]
  have:=hVk1 y (List.mem_filter.1 hy).1
  omega
 have hsn2:((seenP V1).map bareS).length≤2147483647:=by
  rw [List.length_map]
  have:(seenP V1).length≤V1.length:=List.length_filter_le _ _
  omega
 refine goZ ?_
 refine sameSpans_run ((s9.inc SpE.mono g10.i).inc SpE.mono i10.j) (s10.inc SpE.mono i10.j) hsn2 hsl fun w11 x11 => ?_
 rw [decide_eq_true rfl]
 have i11:=i10.trans (Gr.ext i10.j x11)
 refine goZ ?_
 refine sameSpans_run ((sA.inc SpE.mono (g9.trans g10).i).inc SpE.mono i11.j) ((sB.inc SpE.mono (g9.trans g10).i).inc SpE.mono i11.j) (by rw [List.length_reverse]; exact hsn2) (fun x hx=>hsl x (List.mem_reverse.1 hx)) fun w12 x12 => ?_
 rw [decide_eq_true rfl]
 have i12:=i11.trans (Gr.ext i11.j x12)
 refine goZ ?_
 refine rangeFound_run i12.j fun w13 x13 => ?_
 refine goZ ?_
 exact hk _ (i12.x.trans x13)
end
end Go.Proofs
