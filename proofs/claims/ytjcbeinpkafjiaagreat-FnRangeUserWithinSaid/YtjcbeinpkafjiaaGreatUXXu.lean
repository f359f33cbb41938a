/- Parts of the proof: Xu. -/
import Derived.Test.YtjcbeinpkafjiaaGreatU25
import Derived.Test.YtjcbeinpkafjiaaGreatU26
import Derived.Test.YtjcbeinpkafjiaaGreatU27
set_option linter.all false
set_option maxRecDepth 10000
namespace Go.E
open Go Go.Sort Go.Proofs
end Go.E
namespace Go.Proofs
open Go Go.E Go.Sort
section
variable {k:Kont} {d w:World}
theorem rangeAnswers_run {gv wv:Value} {got want:List An} (hg:Sl AnE 5 d gv got) (hw:Sl AnE 5 d wv want) (hlen:got.length=want.length) (hl:got.length≤100000)
    (hR:∀ (i:Nat) (a b:An),got[i]? = some a→want[i]? = some b→a.dn=b.dn∧a.ok=b.ok∧(a.ok=true→AllSet a.sp.ks∧bareS a.sp=b.sp∧a.sp.ks.length≤100000)) (hinc:Inc d w) (hk:∀ w2,Ext w w2→k (.bool true) w2):callK Tryz.prog 17 #[gv,wv] k w:=by
 obtain ⟨ga,gc,rfl⟩:=hg.form
 obtain ⟨wa,wc,rfl⟩:=hw.form
 have h1:((got.length:Int) != want.length)=false:=by simp; omega
 refine callZ [.tmp 4] Tryz.func17 ?_
 refine gY1 @h1 ?_
 refine loopC (fun i:Nat=>[(1,.slice wa want.length wc),(13,.slice ga got.length gc),(14,.int .i64 got.length),(15,.int .i64 i)])
  (fun i w'=>i≤got.length∧Ext w w') (fun i _=>got.length - i) 0 (by kernel_rfl) ?_ ⟨Nat.zero_le _,Ext.refl _⟩ ?_
 ·exact agZ
 rintro K2 e i w1 ⟨i2,i3⟩ hK2
 rcases Nat.lt_or_ge i got.length with hi | hi
 rotate_left
 ·have hi':¬ (i:Int) < got.length:=by omega
  refine gY1 @hi' ?_
  exact hk _ i3
 have hi':(i:Int) < got.length:=by omega
 have hiw:(i:Int) < want.length:=by omega
 have hd1:=hinc.trans i3.inc
 obtain ⟨g,f,c,hv',hc,hat⟩:=hg.at (by omega)
 obtain ⟨rfl,rfl⟩:ga=some ⟨g,f,none⟩∧gc=c:=by simpa using hv'
 obtain ⟨g2,f2,c2,hv2,hc2,hat2⟩:=hw.at (by omega)
 obtain ⟨rfl,rfl⟩:wa=some ⟨g2,f2,none⟩∧wc=c2:=by simpa using hv2
 obtain ⟨x,hx⟩:∃ x,got[i]? = some x:=⟨_,List.getElem?_eq_getElem hi⟩
 obtain ⟨y,hy⟩:∃ y,want[i]? = some y:=⟨_,List.getElem?_eq_getElem (by omega)⟩
 obtain ⟨r1,r2,r3⟩:=hR i x y hx hy
 obtain ⟨h0,h1,h2,h3,xa,xc,h4,hxk⟩:=cells_ane (hat i x hx)
 obtain ⟨p0,p1,p2,p3,ya,yc,p4,hyk⟩:=cells_ane (hat2 i y hy)
 have h0:=hd1 _ _ _ h0
 have h1:=hd1 _ _ _ h1
 have h2:=hd1 _ _ _ h2
 have h3:=hd1 _ _ _ h3
 have h4:=hd1 _ _ _ h4
 have p0:=hd1 _ _ _ p0
 have p1:=hd1 _ _ _ p1
 have p2:=hd1 _ _ _ p2
 have p3:=hd1 _ _ _ p3
 have p4:=hd1 _ _ _ p4
 obtain ⟨T,hT⟩:∃ T,T=w1.heap.size:=⟨_,rfl⟩
 obtain ⟨W,hW⟩:∃ W,W=(((((((w1.alloc (.cells #[.bool x.dn,.bool x.ok,.string ⟨x.sp.s.toArray⟩,.string ⟨x.sp.e.toArray⟩,.slice xa x.sp.ks.length xc] 58)).alloc (.cells #[.bool false,.bool false,.string ByteArray.empty,.string ByteArray.empty,.slice none 0 0] 103)).setCell ⟨w1.heap.size+1,0,none⟩ (.bool y.dn)).setCell ⟨w1.heap.size+1,1,none⟩ (.bool y.ok)).setCell ⟨w1.heap.size+1,2,none⟩ (.string ⟨y.sp.s.toArray⟩)).setCell ⟨w1.heap.size+1,3,none⟩ (.string ⟨y.sp.e.toArray⟩)).setCell ⟨w1.heap.size+1,4,none⟩ (.slice ya y.sp.ks.length yc)).drew:=⟨_,rfl⟩
 have xW:Ext w1 W:=by rw [hW]; exact Ext.drew' (ext_set (ext_set (ext_set (ext_set (ext_set ((ext_alloc _).trans (ext_alloc _)) (by omega)) (by omega)) (by omega)) (by omega)) (by omega))
 have a0:W.cell? ⟨T,0,none⟩=some (.bool x.dn):=by rw [hW,hT]; exact eY1 @cell_newN
 have a1:W.cell? ⟨T,1,none⟩=some (.bool x.ok):=by rw [hW,hT]; exact eY1 @cell_newN
 have a2:W.cell? ⟨T,2,none⟩=some (.string ⟨x.sp.s.toArray⟩):=by rw [hW,hT]; exact eY1 @cell_newN
 have a3:W.cell? ⟨T,3,none⟩=some (.string ⟨x.sp.e.toArray⟩):=by rw [hW,hT]; exact eY1 @cell_newN
 have a4:W.cell? ⟨T,4,none⟩=some (.slice xa x.sp.ks.length xc):=by rw [hW,hT]; exact eY1 @cell_newN
 have b0:W.cell? ⟨T+1,0,none⟩=some (.bool y.dn):=by rw [hW,hT]; exact eY1 @cell_newN
 have b1:W.cell? ⟨T+1,1,none⟩=some (.bool y.ok):=by rw [hW,hT]; exact eY1 @cell_newN
 have b2:W.cell? ⟨T+1,2,none⟩=some (.string ⟨y.sp.s.toArray⟩):=by rw [hW,hT]; exact eY1 @cell_newN
 have b3:W.cell? ⟨T+1,3,none⟩=some (.string ⟨y.sp.e.toArray⟩):=by rw [hW,hT]; exact eY1 @cell_newN
 have b4:W.cell? ⟨T+1,4,none⟩=some (.slice ya y.sp.ks.length yc):=by rw [hW,hT]; exact eY1 @cell_newN
 have hg2:=lt_of_cell p0
 have e1:(x.dn == y.dn)=true:=by rw [r1]; exact beq_self_eq_true _
 have e2:(x.ok == y.ok)=true:=by rw [r2]; exact beq_self_eq_true _
 refine gY14 @hi' @hiw @h0 @h1 @h2 @h3 @h4 @p0 @p1 @p2 @p3 @p4 @cell_newN @frozen_newN ?_
 refine drawZ (sq [0] (.read 1 (sq [2] (.read 3 (sq [4,5,6] (.read 7 (sq [8] (.read 9 (sq [10,11,12,13] (.read 14 (sq [15,16] (.read 17 (.eff 18 [] (.eff 19 [] (sq [20,21,22] (.read 23 (sq [26] (.read 27 (.alt (.eff 24 [27] (.alt (.eff 25 [27] (.eff 28 [23] (.eff 29 [] (sq [30,31,32,33] .done)))) (.eff 28 [23] (.eff 25 [27] (.eff 29 [] (sq [30,31,32,33] .done)))))) (.eff 28 [23] (.eff 24 [27] (.eff 25 [27] (.eff 29 [] (sq [30,31,32,33] .done)))))))))))))))))))))))) ?_
 rw [← hW,← hT]
 cases hok:x.ok with
 | false =>
  rw [hok] at a1 e2
  refine gY8 @a0 @a1 @b0 @b1 @e1 @e2 @Bool.not_true @Bool.not_false ?_
  and_intros
  all_goals
   refine hK2 _ _ (i+1) ?_ ⟨hi,i3.trans xW⟩ (by omega)
   exact agZ
 | true =>
  obtain ⟨q1,q2,q3⟩:=r3 hok
  rw [hok] at a1 e2
  refine gY11 @a0 @a1 @b0 @b1 @e1 @e2 @a2 @a3 @a4 @Bool.not_true @Bool.not_false ?_
  have hdW:=hd1.trans xW.inc
  have xN:=ext_alloc (w:=W) (.cells #[.string ⟨x.sp.s.toArray⟩,.string ⟨x.sp.e.toArray⟩,.slice xa x.sp.ks.length xc] 56)
  have sN:Sl SpE 3 (W.alloc (.cells #[.string ⟨x.sp.s.toArray⟩,.string ⟨x.sp.e.toArray⟩,.slice xa x.sp.ks.length xc] 56)) (.slice (some ⟨W.heap.size,0,none⟩) 1 1) [x.sp]:=sl1 (by exact eY1 @cell_newN) (by exact eY1 @cell_newN) (by exact eY1 @cell_newN) (hxk.inc KE.mono (hdW.trans xN.inc))
  refine rangeSets_run sN (by simp) (fun z hz=>by rw [List.mem_singleton.1 hz]; omega) (fun z hz=>by rw [List.mem_singleton.1 hz]; exact q1) fun w3 x3 => ?_
  have y3:=xN.trans x3
  have a0:=(y3).cell a0
  have a1:=(y3).cell a1
  have a2:=(y3).cell a2
  have a3:=(y3).cell a3
  have a4:=(y3).cell a4
  have b0:=(y3).cell b0
  have b1:=(y3).cell b1
  have b2:=(y3).cell b2
  have b3:=(y3).cell b3
  have b4:=(y3).cell b4
  have hT3:=lt_of_cell b0
  have hd3:=hdW.trans y3.inc
  have xd:∀ {w'},Ext w3 w'→Ext w w':=fun h=>(i3.trans (xW.trans y3)).trans h
  refine gY12 @a0 @a1 @b0 @b1 @a2 @a3 @a4 @b2 @b3 @b4 @Bool.not_true @Bool.not_false ?_
  have xX:=ext_alloc (w:=w3) (.cells #[.string ⟨x.sp.s.toArray⟩,.string ⟨x.sp.e.toArray⟩,.slice xa x.sp.ks.length xc] 56)
  have xY:=ext_alloc (w:=w3) (.cells #[.string ⟨y.sp.s.toArray⟩,.string ⟨y.sp.e.toArray⟩,.slice ya y.sp.ks.length yc] 46)
  refine ⟨⟨?_,?_⟩,?_⟩
  ·
   obtain ⟨V,hV⟩:∃ V,V=w3.alloc (.cells #[.string ⟨x.sp.s.toArray⟩,.string ⟨x.sp.e.toArray⟩,.slice xa x.sp.ks.length xc] 56):=⟨_,rfl⟩
   have xV:Ext w3 V:=by rw [hV]; exact xX
   rw [← hV]
   obtain ⟨d4,g4,e4⟩:=grAll hd3 xV
   have s4:Sl SpE 3 d4 (.slice (some ⟨w3.heap.size,0,none⟩) 1 1) [x.sp]:=sl1 (kv := .slice xa x.sp.ks.length xc) (e4 _ _ _ (by omega) (by rw [hV]; exact eY1 @cell_newN)) (e4 _ _ _ (by omega) (by rw [hV]; exact eY1 @cell_newN)) (e4 _ _ _ (by omega) (by rw [hV]; exact eY1 @cell_newN)) (hxk.inc KE.mono g4.i)
   refine rangeBare_run s4 (by simp) (fun z hz=>by rw [List.mem_singleton.1 hz]; omega) g4.j fun d5 w5 v5 g5 s5 => ?_
   have hd5:=hd3.trans (xV.trans g5.x).inc
   have hyl:∀ z ∈ [y.sp],z.ks.length≤2147483647:=fun z hz=>by
    rw [List.mem_singleton.1 hz,← q2,bareS_eqn,List.length_map]
    omega
   have a0:=(xV.trans g5.x).cell a0
   have a1:=(xV.trans g5.x).cell a1
   have a2:=(xV.trans g5.x).cell a2
   have a3:=(xV.trans g5.x).cell a3
   have a4:=(xV.trans g5.x).cell a4
   have b0:=(xV.trans g5.x).cell b0
   have b1:=(xV.trans g5.x).cell b1
   have b2:=(xV.trans g5.x).cell b2
   have b3:=(xV.trans g5.x).cell b3
   have b4:=(xV.trans g5.x).cell b4
   have hT5:=lt_of_cell b0
   obtain ⟨v5a,v5c,rfl⟩:=s5.form
   have s5:Sl SpE 3 d5 (.slice v5a 1 v5c) ([x.sp].map bareS):=s5
   refine gY10 @a0 @a1 @b0 @b1 @a2 @a3 @a4 @b2 @b3 @b4 ?_
   have x6:=ext_alloc (w:=w5) (.cells #[.string ⟨y.sp.s.toArray⟩,.string ⟨y.sp.e.toArray⟩,.slice ya y.sp.ks.length yc] 46)
   have m0:(w5.alloc (.cells #[.string ⟨y.sp.s.toArray⟩,.string ⟨y.sp.e.toArray⟩,.slice ya y.sp.ks.length yc] 46)).cell? ⟨w5.heap.size,0,none⟩=some (.string ⟨y.sp.s.toArray⟩):=by exact eY1 @cell_newN
   have m1:(w5.alloc (.cells #[.string ⟨y.sp.s.toArray⟩,.string ⟨y.sp.e.toArray⟩,.slice ya y.sp.ks.length yc] 46)).cell? ⟨w5.heap.size,1,none⟩=some (.string ⟨y.sp.e.toArray⟩):=by exact eY1 @cell_newN
   have m2:(w5.alloc (.cells #[.string ⟨y.sp.s.toArray⟩,.string ⟨y.sp.e.toArray⟩,.slice ya y.sp.ks.length yc] 46)).cell? ⟨w5.heap.size,2,none⟩=some (.slice ya y.sp.ks.length yc):=by exact eY1 @cell_newN
   refine sameSpans_run ((s5.inc SpE.mono g5.j).inc SpE.mono x6.inc) (sl1 m0 m1 m2 (hyk.inc KE.mono (hd5.trans x6.inc))) (by simp) hyl fun w6 x56 => ?_
   have x7:=x6.trans x56
   have x8:=x7
   have a0:=(x7).cell a0
   have a1:=(x7).cell a1
   have a2:=(x7).cell a2
   have a3:=(x7).cell a3
   have a4:=(x7).cell a4
   have b0:=(x7).cell b0
   have b1:=(x7).cell b1
   have b2:=(x7).cell b2
   have b3:=(x7).cell b3
   have b4:=(x7).cell b4
   rw [show decide ([x.sp].map bareS=[y.sp])=true by simp [q2]]
   refine gY12 @a0 @a1 @b0 @b1 @a2 @a3 @a4 @b2 @b3 @b4 @Bool.not_true @Bool.not_false ?_
   refine hK2 _ _ (i+1) ?_ ⟨hi,xd ((xV.trans g5.x).trans x7)⟩ (by omega)
   exact agZ
  ·
   obtain ⟨V,hV⟩:∃ V,V=(w3.alloc (.cells #[.string ⟨x.sp.s.toArray⟩,.string ⟨x.sp.e.toArray⟩,.slice xa x.sp.ks.length xc] 56)).alloc (.cells #[.string ⟨y.sp.s.toArray⟩,.string ⟨y.sp.e.toArray⟩,.slice ya y.sp.ks.length yc] 46):=⟨_,rfl⟩
   have xV:Ext w3 V:=by rw [hV]; exact xX.trans (ext_alloc _)
   rw [← hV]
   obtain ⟨d4,g4,e4⟩:=grAll hd3 xV
   have s4:Sl SpE 3 d4 (.slice (some ⟨w3.heap.size,0,none⟩) 1 1) [x.sp]:=sl1 (kv := .slice xa x.sp.ks.length xc) (e4 _ _ _ (by omega) (by rw [hV]; exact eY1 @cell_newN)) (e4 _ _ _ (by omega) (by rw [hV]; exact eY1 @cell_newN)) (e4 _ _ _ (by omega) (by rw [hV]; exact eY1 @cell_newN)) (hxk.inc KE.mono g4.i)
   refine rangeBare_run s4 (by simp) (fun z hz=>by rw [List.mem_singleton.1 hz]; omega) g4.j fun d5 w5 v5 g5 s5 => ?_
   have hd5:=hd3.trans (xV.trans g5.x).inc
   have hyl:∀ z ∈ [y.sp],z.ks.length≤2147483647:=fun z hz=>by
    rw [List.mem_singleton.1 hz,← q2,bareS_eqn,List.length_map]
    omega
   have a0:=(xV.trans g5.x).cell a0
   have a1:=(xV.trans g5.x).cell a1
   have a2:=(xV.trans g5.x).cell a2
   have a3:=(xV.trans g5.x).cell a3
   have a4:=(xV.trans g5.x).cell a4
   have b0:=(xV.trans g5.x).cell b0
   have b1:=(xV.trans g5.x).cell b1
   have b2:=(xV.trans g5.x).cell b2
   have b3:=(xV.trans g5.x).cell b3
   have b4:=(xV.trans g5.x).cell b4
   have hT5:=lt_of_cell b0
   obtain ⟨v5a,v5c,rfl⟩:=s5.form
   have s5:Sl SpE 3 d5 (.slice v5a 1 v5c) ([x.sp].map bareS):=s5
   have m0:w5.cell? ⟨w3.heap.size+1,0,none⟩=some (.string ⟨y.sp.s.toArray⟩):=g5.x.cell (by rw [hV]; exact eY1 @cell_newN)
   have m1:w5.cell? ⟨w3.heap.size+1,1,none⟩=some (.string ⟨y.sp.e.toArray⟩):=g5.x.cell (by rw [hV]; exact eY1 @cell_newN)
   have m2:w5.cell? ⟨w3.heap.size+1,2,none⟩=some (.slice ya y.sp.ks.length yc):=g5.x.cell (by rw [hV]; exact eY1 @cell_newN)
   refine gY10 @a0 @a1 @b0 @b1 @a2 @a3 @a4 @b2 @b3 @b4 ?_
   refine sameSpans_run (s5.inc SpE.mono g5.j) (sl1 m0 m1 m2 (hyk.inc KE.mono hd5)) (by simp) hyl fun w6 x7 => ?_
   have x8:=x7
   have a0:=(x7).cell a0
   have a1:=(x7).cell a1
   have a2:=(x7).cell a2
   have a3:=(x7).cell a3
   have a4:=(x7).cell a4
   have b0:=(x7).cell b0
   have b1:=(x7).cell b1
   have b2:=(x7).cell b2
   have b3:=(x7).cell b3
   have b4:=(x7).cell b4
   rw [show decide ([x.sp].map bareS=[y.sp])=true by simp [q2]]
   refine gY12 @a0 @a1 @b0 @b1 @a2 @a3 @a4 @b2 @b3 @b4 @Bool.not_true @Bool.not_false ?_
   refine hK2 _ _ (i+1) ?_ ⟨hi,xd ((xV.trans g5.x).trans x7)⟩ (by omega)
   exact agZ
  ·
   obtain ⟨V,hV⟩:∃ V,V=(w3.alloc (.cells #[.string ⟨y.sp.s.toArray⟩,.string ⟨y.sp.e.toArray⟩,.slice ya y.sp.ks.length yc] 46)).alloc (.cells #[.string ⟨x.sp.s.toArray⟩,.string ⟨x.sp.e.toArray⟩,.slice xa x.sp.ks.length xc] 56):=⟨_,rfl⟩
   have xV:Ext w3 V:=by rw [hV]; exact xY.trans (ext_alloc _)
   rw [← hV]
   obtain ⟨d4,g4,e4⟩:=grAll hd3 xV
   have s4:Sl SpE 3 d4 (.slice (some ⟨w3.heap.size+1,0,none⟩) 1 1) [x.sp]:=sl1 (kv := .slice xa x.sp.ks.length xc) (e4 _ _ _ (by omega) (by rw [hV]; exact eY1 @cell_newN)) (e4 _ _ _ (by omega) (by rw [hV]; exact eY1 @cell_newN)) (e4 _ _ _ (by omega) (by rw [hV]; exact eY1 @cell_newN)) (hxk.inc KE.mono g4.i)
   refine rangeBare_run s4 (by simp) (fun z hz=>by rw [List.mem_singleton.1 hz]; omega) g4.j fun d5 w5 v5 g5 s5 => ?_
   have hd5:=hd3.trans (xV.trans g5.x).inc
   have hyl:∀ z ∈ [y.sp],z.ks.length≤2147483647:=fun z hz=>by
    rw [List.mem_singleton.1 hz,← q2,bareS_eqn,List.length_map]
    omega
   have a0:=(xV.trans g5.x).cell a0
   have a1:=(xV.trans g5.x).cell a1
   have a2:=(xV.trans g5.x).cell a2
   have a3:=(xV.trans g5.x).cell a3
   have a4:=(xV.trans g5.x).cell a4
   have b0:=(xV.trans g5.x).cell b0
   have b1:=(xV.trans g5.x).cell b1
   have b2:=(xV.trans g5.x).cell b2
   have b3:=(xV.trans g5.x).cell b3
   have b4:=(xV.trans g5.x).cell b4
   have hT5:=lt_of_cell b0
   obtain ⟨v5a,v5c,rfl⟩:=s5.form
   have s5:Sl SpE 3 d5 (.slice v5a 1 v5c) ([x.sp].map bareS):=s5
   have m0:w5.cell? ⟨w3.heap.size,0,none⟩=some (.string ⟨y.sp.s.toArray⟩):=g5.x.cell (by rw [hV]; exact eY1 @cell_newN)
   have m1:w5.cell? ⟨w3.heap.size,1,none⟩=some (.string ⟨y.sp.e.toArray⟩):=g5.x.cell (by rw [hV]; exact eY1 @cell_newN)
   have m2:w5.cell? ⟨w3.heap.size,2,none⟩=some (.slice ya y.sp.ks.length yc):=g5.x.cell (by rw [hV]; exact eY1 @cell_newN)
   refine gY10 @a0 @a1 @b0 @b1 @a2 @a3 @a4 @b2 @b3 @b4 ?_
   refine sameSpans_run (s5.inc SpE.mono g5.j) (sl1 m0 m1 m2 (hyk.inc KE.mono hd5)) (by simp) hyl fun w6 x7 => ?_
   have x8:=x7
   have a0:=(x7).cell a0
   have a1:=(x7).cell a1
   have a2:=(x7).cell a2
   have a3:=(x7).cell a3
   have a4:=(x7).cell a4
   have b0:=(x7).cell b0
   have b1:=(x7).cell b1
   have b2:=(x7).cell b2
   have b3:=(x7).cell b3
   have b4:=(x7).cell b4
   rw [show decide ([x.sp].map bareS=[y.sp])=true by simp [q2]]
   refine gY12 @a0 @a1 @b0 @b1 @a2 @a3 @a4 @b2 @b3 @b4 @Bool.not_true @Bool.not_false ?_
   refine hK2 _ _ (i+1) ?_ ⟨hi,xd ((xV.trans g5.x).trans x7)⟩ (by omega)
   exact agZ
end
end Go.Proofs
