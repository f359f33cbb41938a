/- Parts of the proof: Ya. -/
import Derived.Test.YtjcbeinpkafjiaaGreatUXXy
set_option linter.all false
set_option maxRecDepth 10000
namespace Go.Proofs
open Go Go.E Go.Sort
section
variable {k:Kont} {d w:World}
theorem fnForth_run {lv:Value} {Lv:List (List Sp)} {snap:Nat} (hv:Sl LvE 1 d lv Lv) (hsn:snap < 18446744073709551616) (hinc:Inc d w) (hk:∀ w2,Ext w w2→k (.bool true) w2) :
    callK Tryz.prog 6 #[lv,.int .u64 snap] k w:=by
 obtain ⟨la,lc,rfl⟩:=hv.form
 refine callZ [.tmp 4] Tryz.func6 ?_
 refine goZ ?_
 refine fits3_run (hv.inc LvE.mono hinc) fun b1 w1 x1 hb1 => ?_
 cases b1 with
 | false =>
  refine gY1 @Bool.not_false ?_
  exact hk _ x1
 | true =>
 obtain ⟨f1,f2⟩:=hb1 rfl
 refine gY1 @Bool.not_true ?_
 refine rangeLevels_run (n:=8) hv f1 (fun x hx=>⟨(f2 x hx).1,fun y hy=>((f2 x hx).2 y hy).2.2.1⟩) (by decide) (hinc.trans x1.inc) fun b3 w3 x3 hb3 => ?_
 have x13:=x1.trans x3
 cases b3 with
 | false =>
  refine gY1 @Bool.not_false ?_
  exact hk _ x13
 | true =>
 have lo:=hb3 rfl
 refine gY1 @Bool.not_true ?_
 have eS:ByteArray.empty=⟨([]:Bytes).toArray⟩:=rfl
 have hLk:∀ L ∈ Lv,∀ y ∈ L,y.ks.length≤40:=fun L h y hy=>(lo.ks L h y hy).2
 have hfl:=flatten_length_le (Lv:=Lv) (n:=8) lo.sz
 have hf6:Lv.length * 8≤6 * 8:=Nat.mul_le_mul_right _ lo.n6
 have rin:RIn Lv snap none none:=rin_ok lo (by decide) hsn f2 okBd_none
 have hVl:=rV_length Lv snap
 have hVk:=rV_ks rin hLk
 have hfm:Lv.flatten.length * 40≤48 * 40:=Nat.mul_le_mul_right _ (by omega)
 have hlv:∀ x ∈ Lv,x.length≤100000∧∀ y ∈ x,y.ks.length≤100000:=fun x hx=>⟨by have:=lo.sz x hx; omega,fun y hy=>by have:=hLk x hx y hy; omega⟩
 obtain ⟨V,hV⟩:∃ V,V=rV Lv snap none none:=⟨_,rfl⟩
 rw [← hV] at hVl hVk
 have i0:=Gr.ext hinc x13
 refine toLevels_run (hv.inc LvE.mono i0.i) (by have:=lo.n6; omega) hlv i0.j fun d5 w5 v5 g5 s5 => ?_
 have i5:=i0.trans g5
 refine goZ ?_
 refine spanForth_run (n:=120) (by decide) i5.j fun d6 w6 v6 g6 s6 => ?_
 have i6:=i5.trans g6
 refine goZ ?_
 rw [eS]
 refine RangeUser_run (kl:=[]) (kh:=[]) (bl:=false) (bh:=false) (s5.inc LvE.mono g6.i) s6 i6.j rin (by decide) (by decide) (st_ok 120).1 (by rw [(st_length 120).1]; decide) fun d7 w7 v7 l7 g7 s7 hp => ?_
 have i7:=i6.trans g7
 have hp:Pw (AnsOk V AllSet) (wlk V (-2) false 0 (stF 120)) l7:=by rw [hV]; exact hp
 have hl7:l7.length=121:=by rw [← hp.1,wlk_length,(st_length 120).1]
 have hb7:=fnd_forth (by omega) hp
 have hk7:=bare_ks_le hb7 hVk
 have hn7:(fndP l7).length=V.length:=by have:=congrArg List.length hb7; simpa using this
 refine goZ ?_
 refine spanList_run s7 (by omega) i7.j fun d8 w8 v8 g8 s8 => ?_
 have i8:=i7.trans g8
 refine goZ ?_
 refine toLevels_run (hv.inc LvE.mono i8.i) (by have:=lo.n6; omega) hlv i8.j fun d9 w9 v9 g9 s9 => ?_
 have i9:=i8.trans g9
 refine goZ ?_
 refine spanBack_run (n:=120) (by decide) i9.j fun d10 w10 v10 g10 s10 => ?_
 have i10:=i9.trans g10
 refine goZ ?_
 refine RangeUser_run (kl:=[]) (kh:=[]) (bl:=false) (bh:=false) (s9.inc LvE.mono g10.i) s10 i10.j rin (by decide) (by decide) (st_ok 120).2 (by rw [(st_length 120).2]; decide) fun d11 w11 v11 l11 g11 s11 hp2 => ?_
 have i11:=i10.trans g11
 have hp2:Pw (AnsOk V AllSet) (wlk V (-2) false 0 (stB 120)) l11:=by rw [hV]; exact hp2
 have hl11:l11.length=121:=by rw [← hp2.1,wlk_length,(st_length 120).2]
 have hb11:(fndP l11).reverse.map bareS=V.map bareS:=by rw [List.map_reverse,fnd_back (by omega) hp2,List.reverse_reverse]
 have hk11:=bare_ks_le hb11 hVk
 have hn11:(fndP l11).reverse.length=V.length:=by have:=congrArg List.length hb11; simpa using this
 have hn12:(fndP l11).length=V.length:=by rw [← hn11,List.length_reverse]
 refine goZ ?_
 refine spanList_run s11 (by omega) i11.j fun d12 w12 v12 g12 s12 => ?_
 have i12:=i11.trans g12
 refine goZ ?_
 refine spanTurned_run s12 (by omega) i12.j fun d13 w13 v13 g13 s13 => ?_
 have i13:=i12.trans g13
 refine goZ ?_
 refine rangeBare_run (s8.inc SpE.mono (g9.trans (g10.trans (g11.trans (g12.trans g13)))).i) (by omega) (fun x hx=>by have:=hk7 x hx; omega) i13.j fun d14 w14 v14 g14 s14 => ?_
 have i14:=i13.trans g14
 refine goZ ?_
 refine rangeBare_run (s13.inc SpE.mono g14.i) (by omega) (fun x hx=>by have:=hk11 x hx; omega) i14.j fun d15 w15 v15 g15 s15 => ?_
 have i15:=i14.trans g15
 rw [hb7] at s14
 rw [hb11] at s15
 refine goZ ?_
 refine sameSpans_run ((s14.inc SpE.mono g15.i).inc SpE.mono g15.j) (s15.inc SpE.mono g15.j) (by rw [List.length_map]; omega) (fun x hx=>by
  obtain ⟨y,hy,rfl⟩:=List.mem_map.1 hx
  rw [bareS_ks,List.length_map]
  have:=hVk y hy; omega) fun w16 x16 => ?_
 have i16:=i15.trans (Gr.ext i15.j x16)
 rw [decide_eq_true rfl]
 refine goZ ?_
 refine rangeFound_run i16.j fun w17 x17 => ?_
 refine goZ ?_
 exact hk _ (i16.x.trans x17)
end
end Go.Proofs
