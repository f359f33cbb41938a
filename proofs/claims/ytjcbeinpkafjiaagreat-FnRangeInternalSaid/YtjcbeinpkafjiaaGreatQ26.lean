/- Parts of the proof: Yg, Ta, Td, Tb. -/
import Derived.Deep.Slices
import Derived.Test.YtjcbeinpkafjiaaGreatQ20
import Derived.Test.YtjcbeinpkafjiaaGreatQ22
import Derived.Test.YtjcbeinpkafjiaaGreatQ23
import Derived.Test.YtjcbeinpkafjiaaGreatQ25
set_option linter.all false
set_option maxRecDepth 10000
section
namespace Go.Proofs
open Go Go.E Go.Sort
section
variable {k:ae} {d w:World}
set_option maxHeartbeats 1000000 in
theorem qm {lv sv:Value} {Lv:List (List Sp)} {snap:Nat} {key:Bytes} {st:List SV} (hv:Sl kO 1 d lv Lv) (hsv:Sl oH 2 d sv st) (hsn:snap < 18446744073709551616) (hinc:cH d w) (hk:∀ w2,bV w w2→k (.bool true) w2) :
    aU Tryz.prog 8 #[lv,.int .u64 snap,.string ⟨key.toArray⟩,sv] k w:=by
 obtain ⟨la,lc,rfl⟩:=hv.form
 obtain ⟨sa,sc,rfl⟩:=hsv.form
 refine aW [.tmp 8] Tryz.func8 ?_
 refine aY ?_
 refine zZ (hv.inc kO.mono hinc) fun b1 w1 x1 hb1 => ?_
 cases b1 with
 | false =>
  refine bP @Bool.not_false ?_
  exact hk _ x1
 | true =>
 obtain ⟨f1,f2⟩:=hb1 rfl
 by_cases hkl:2147483647 < (key.length:Int)
 ·refine dU @Bool.not_true @hkl ?_
  exact hk _ x1
 refine dU @Bool.not_true @hkl ?_
 refine xP ((hsv.inc oH.mono hinc).inc oH.mono x1.inc) fun b2 w2 x2 hb2 => ?_
 have x12:=x1.trans x2
 cases b2 with
 | false =>
  refine bP @Bool.not_false ?_
  exact hk _ x12
 | true =>
 refine bP @Bool.not_true ?_
 refine pR (n:=8) hv f1 (fun x hx=>⟨(f2 x hx).1,fun y hy=>((f2 x hx).2 y hy).2.2.1⟩) (by decide) (hinc.trans x12.inc) fun b3 w3 x3 hb3 => ?_
 have x13:=x12.trans x3
 cases b3 with
 | false =>
  refine bP @Bool.not_false ?_
  exact hk _ x13
 | true =>
 have lo:=hb3 rfl
 by_cases hs20:20 < (st.length:Int)
 ·refine dU @Bool.not_true @hs20 ?_
  exact hk _ x13
 have hs20':st.length≤20:=by omega
 refine dU @Bool.not_true @hs20 ?_
 have i0:=Gr.ext hinc x13
 refine bI (fun i:Nat=>[(0,.slice la Lv.length lc),(1,.int .u64 snap),(2,.string ⟨key.toArray⟩),(3,.slice sa st.length sc),(41,.slice sa st.length sc),(42,.int .i64 st.length),(43,.int .i64 i)])
  (fun i w'=>i≤st.length∧bV w3 w'∧(st.take i).Pairwise fun a b=>a.1≠b.1) (fun i _=>st.length - i) 0 (by kernel_rfl) ?_ ⟨aM _,bV.refl _,.nil⟩ ?_
 ·exact bA
 rintro K2 e i w4 ⟨j1,j2,j3⟩ hK2
 rcases aH i st.length with hi | hi
 ·have hi':(i:Int) < st.length:=by omega
  obtain ⟨g,f,c,hv',hc,hat⟩:=((hsv.inc oH.mono i0.j).inc oH.mono j2.inc).at (by omega)
  obtain ⟨rfl,rfl⟩:=sEq hv'
  obtain ⟨x,hx⟩:=gEl hi
  obtain ⟨cs,_,hcs,rfl⟩:=hat i x hx
  have p0:w4.cell? ⟨g,f+i * 2,none⟩=some (.string ⟨x.1.toArray⟩):=hcs 0 _ rfl
  have p1:w4.cell? ⟨g,f+i * 2+1,none⟩=some (.string ⟨x.2.toArray⟩):=hcs 1 _ rfl
  obtain ⟨X,hX⟩:∃ X,X=w4.heap.size:=⟨_,rfl⟩
  obtain ⟨w5,hw5⟩:∃ w5,w5=w4.alloc (.cells #[.string ⟨x.1.toArray⟩,.string ⟨x.2.toArray⟩] 64):=⟨_,rfl⟩
  have x5:bV w4 w5:=by rw [hw5]; exact aK _
  have c0:w5.cell? ⟨X,0,none⟩=some (.string ⟨x.1.toArray⟩):=by rw [hw5,hX]; exact bU @aA
  have hic:(i:Int)≤sc:=by omega
  have hi0:(0:Int)≤i:=by omega
  simp (disch:=first | exact dZ | fail) only [go_sem,hi',p0,p1,rE Tryz.es50,hi0,hic]
  rw [← hw5,← hX]
  refine bI (fun j:Nat=>[(0,.slice la Lv.length lc),(1,.int .u64 snap),(2,.string ⟨key.toArray⟩),(3,.slice (some ⟨g,f,none⟩) st.length sc),(41,.slice (some ⟨g,f,none⟩) st.length sc),(42,.int .i64 st.length),(43,.int .i64 i),(10,.pointer (some ⟨X,0,none⟩)),(50,.slice (some ⟨g,f,none⟩) i sc),(51,.int .i64 i),(52,.int .i64 j)])
   (fun j w'=>j≤i∧bV w5 w'∧∀ y ∈ st.take j,y.1≠x.1) (fun j _=>i - j) 0 (by kernel_rfl) ?_ ⟨aM _,bV.refl _,by simp⟩ ?_
  ·exact bA
  rintro K3 e3 j w6 ⟨m1,m2,m3⟩ hK3
  rcases aH j i with hj | hj
  ·have hj':(j:Int) < i:=by omega
   obtain ⟨y,hy⟩:∃ y,st[j]? = some y:=⟨_,aC (by omega)⟩
   obtain ⟨cs2,_,hcs2,rfl⟩:=hat j y hy
   have x46:=x5.trans m2
   have q0:w6.cell? ⟨g,f+j * 2,none⟩=some (.string ⟨y.1.toArray⟩):=x46.cell (hcs2 0 _ rfl)
   have q1:w6.cell? ⟨g,f+j * 2+1,none⟩=some (.string ⟨y.2.toArray⟩):=x46.cell (hcs2 1 _ rfl)
   have c0:=(m2.trans (aK (.cells #[.string ⟨y.1.toArray⟩,.string ⟨y.2.toArray⟩] 64))).cell c0
   by_cases hxy:x.1=y.1
   ·have he:decide (x.1=y.1)=true:=aQ hxy
    refine me @hj' @q0 @q1 @c0 @aA @he ?_
    exact hk _ (((x13.trans j2).trans x46).trans (aK _))
   ·have he:decide (x.1=y.1)=false:=aF hxy
    refine me @hj' @q0 @q1 @c0 @aA @he ?_
    refine hK3 _ _ (j+1) ?_ ⟨hj,m2.trans (aK _),eu m3 hy fun h=>hxy h.symm⟩ (by omega)
    exact bA
  ·have hj':¬ (j:Int) < i:=by omega
   obtain rfl:j=i:=by omega
   refine bP @hj' ?_
   refine hK2 _ _ (j+1) ?_ ⟨hi,(j2.trans x5).trans m2,?_⟩ (by omega)
   ·exact bA
   ·rw [cj hx]
    exact List.pairwise_append.2 ⟨j3,by simp,fun a ha b hb=>by rw [aT.1 hb]; exact m3 a ha⟩
 have hi':¬ (i:Int) < st.length:=by omega
 obtain rfl:i=st.length:=by omega
 rw [ai] at j3
 refine bP @hi' ?_
 have eS:ByteArray.empty=⟨([]:Bytes).toArray⟩:=rfl
 have hLk:∀ L ∈ Lv,∀ y ∈ L,y.ks.length≤40:=fun L h y hy=>(lo.ks L h y hy).2
 have hfl:=fE (Lv:=Lv) (n:=8) lo.sz
 have hf6:Lv.length * 8≤6 * 8:=bE _ lo.n6
 have hfk:∀ y ∈ Lv.flatten,y.ks.length≤40:=fun y hy=>by
  obtain ⟨L,hL,hy⟩:=dG.1 hy
  exact hLk L hL y hy
 have rin:RIn Lv snap none none:=Ef lo (by decide) hsn f2 zp
 have hfm:Lv.flatten.length * 40≤48 * 40:=bE _ (by omega)
 have hlv:∀ x ∈ Lv,x.length≤100000∧∀ y ∈ x,y.ks.length≤100000:=fun x hx=>⟨by have:=lo.sz x hx; omega,fun y hy=>by have:=hLk x hx y hy; omega⟩
 have hat:=C2 (snap:=snap) lo key
 have hwf:=GR (snap:=snap) lo
 have hse:=Bm (snap:=snap) (lo.cd key) j3
 have hIl:=lY snap (lZ Lv.flatten key)
 obtain ⟨V,hV⟩:∃ V,V=qV (Cv snap) Lv none none:=⟨_,rfl⟩
 rw [← hV] at hat hwf
 have i0:=i0.trans (Gr.ext i0.j j2)
 refine pB (hv.inc kO.mono i0.i) (by have:=lo.n6; omega) (fun x hx=>by have:=lo.sz x hx; omega) i0.j fun d4 w4 v4 g4 s4 => ?_
 have i4:=i0.trans g4
 obtain ⟨a4,c4,rfl⟩:=s4.form
 have hFt:=tS s4
 have hpl:=yK (key:=key) hfk
 have hcl:=(dO (lZ Lv.flatten key)).length_eq
 have hpt:DZ (lZ Lv.flatten key):=fun y hy=>by
  unfold lZ at hy
  obtain ⟨x,hx,hy⟩:=dF.1 hy
  split at hy
  ·exact hFt x hx y hy
  ·simp at hy
 have hct:DZ (dC (lZ Lv.flatten key)):=fun y hy=>hpt y ((dO _).mem_iff.1 hy)
 obtain ⟨C,hC⟩:∃ C,C=dC (lZ Lv.flatten key):=⟨_,rfl⟩
 rw [← hC] at hcl hct hse
 refine aY ?_
 refine xU (s4.inc jB.mono i4.j) (by omega) hfk fun v5 w5 x5 o5 n5 => ?_
 rw [← hC] at o5
 have i5:=i4.trans (Gr.ext i4.j x5)
 obtain ⟨a5,c5,rfl,_⟩:=o5.form
 refine aY ?_
 rw [eS]
 refine vj (x:=⟨[],[],C⟩) (o5.ke hct) (show C.length≤100000 by omega) fun v6 w6 x6 o6 n6 => ?_
 have i6:=i5.trans (Gr.ext i5.j x6)
 have hvl:(iK snap C).length≤C.length:=bz _ _
 have hvt:DZ (iK snap C):=fun y hy=>hct y (bC.1 hy).1
 obtain ⟨a6,c6,rfl,_⟩:=o6.form
 have o6:OwnC td 3 88 w6 (.slice a6 (iK snap C).length c6) (iK snap C):=o6
 obtain ⟨H,hH⟩:∃ H,H=iK snap C:=⟨_,rfl⟩
 rw [← hH] at o6 hvl hvt hse ⊢
 refine aY ?_
 refine tY (hv.inc kO.mono i6.i) (by have:=lo.n6; omega) hlv i6.j fun d8 w8 v8 g8 s8 => ?_
 have i8:=i6.trans g8
 have o8:=o6.ext g8.x
 refine aY ?_
 obtain ⟨W,hW⟩:∃ W,W=w8.alloc (.cells #[.int .u8 4,.string ⟨key.toArray⟩] 53):=⟨_,rfl⟩
 have xW:bV w8 W:=by rw [hW]; exact aK _
 have q0:W.cell? ⟨w8.heap.size,0,none⟩=some (.int .u8 4):=by rw [hW]; exact bU @aA
 have q1:W.cell? ⟨w8.heap.size,1,none⟩=some (.string ⟨key.toArray⟩):=by rw [hW]; exact bU @aA
 obtain ⟨d9,g9,e9⟩:=vL i8.j xW
 have stl:Sl B5 2 d9 (.slice (some ⟨w8.heap.size,0,none⟩) 1 1) [(4,key)]:=yJ (cs:=[.int .u8 4,dV key]) rfl (fun j u hu=>by
  match j,hu with
  | 0,hu=>obtain rfl:=bq hu; exact e9 _ _ _ (aD _) q0
  | 1,hu=>obtain rfl:=bq hu; exact e9 _ _ _ (aD _) q1) ⟨rfl,show (4:Nat) < 256 by decide⟩
 have stok:Bh (kB [] false) (kB [] false) [(4,key)]:=fun x hx=>by
  rw [aT.1 hx]
  exact ⟨fun _=>rfl,fun _=>rfl,fun _=>⟨fun l h=>(by cases h),fun l h=>(by cases h)⟩,by simp only; omega⟩
 rw [← hW]
 have i9:=i8.trans g9
 have o9:=o8.ext g9.x
 refine ni (kl:=[]) (kh:=[]) (bl:=false) (bh:=false) (s8.inc kO.mono g9.i) stl i9.j rin (by decide) (by decide) lo.d9 stok (show 1 < 1000000 by decide) fun d10 w10 v10 l10 g10 s10 hp => ?_
 have i10:=i9.trans g10
 have o10:=o9.ext g10.x
 have hp:Pw (qS V Eq) [some ((cV V key:Nat):Int)] l10:=by rw [hV]; exact hp
 obtain ⟨p,hpE⟩:∃ p,p=cV V key:=⟨_,rfl⟩
 obtain ⟨t1,t2⟩:=xT (π:=(id:K→K)) hwf hpE.symm
 rw [← hpE] at hp
 obtain ⟨a,rfl⟩:∃ a,l10=[a]:=by
  have:=hp.1
  match l10,this with
  | [a],_=>exact ⟨a,rfl⟩
 obtain ⟨h1,h2,h3,h4⟩:=hp.2 0 _ _ rfl rfl
 obtain ⟨va,vc,rfl⟩:=s10.form
 refine aY ?_
 have n1:(((1:Nat):Int) != 1)=false:=rfl
 simp (disch:=first | exact dZ | fail) only [go_sem,ak,n1]
 refine qj i10.j fun w11 x11 => ?_
 have i11:=i10.trans (Gr.ext i10.j x11)
 have o11:=o10.ext x11
 have s11:=(s10.inc wz.mono i10.j).inc wz.mono x11.inc
 obtain ⟨g,f,c,hv',hc,hat11⟩:=s11.at (by simp)
 obtain ⟨rfl,rfl⟩:=sEq hv'
 obtain ⟨y0,y1,y2,y3,xa,xc,y4,hxk⟩:=oG (hat11 0 a rfl)
 simp only [Nat.zero_mul,Nat.add_zero] at y0 y1 y2 y3 y4
 have e2:(0:Int) < ((1:Nat):Int):=by decide
 have hok:a.ok=decide (p < V.length):=by
  rw [h2]; unfold DU
  rw [decide_eq_decide]; omega
 obtain ⟨T,hT⟩:∃ T,T=If snap (lZ Lv.flatten key):=⟨_,rfl⟩
 rw [← hT] at hat hse hIl
 cases hb:a.ok with
 | false =>
  rw [hb] at y1
  have hnp:¬ p < V.length:=fun h=>by
   rw [hb] at hok
   exact absurd h (of_decide_eq_false hok.symm)
  have hT0:T=[]:=by rw [← hat]; exact t2 fun h=>absurd h hnp
  simp (disch:=first | exact dZ | fail) only [go_sem,Bool.not_true,y1,ak,e2,Int.toNat_zero,Nat.zero_mul,Nat.add_zero]
  have x12:bV w11 w11:=bV.refl w11
  have htv:Sl KE 3 w11 (.slice none 0 0) T:=by rw [hT0]; exact Sl.nil
  have htl:T.length≤100000:=by omega
  have hsv12:=((hsv.inc oH.mono i11.i).inc oH.mono i11.j).inc oH.mono x12.inc
  refine aY ?_
  refine dt hsv12 (by omega) htv htl fun v13 w13 x13' o13 n13 => ?_
  have o12':=o11.ext (x12.trans x13')
  obtain ⟨a13,c13,rfl,_⟩:=o13.form
  refine aY ?_
  refine dt (hsv12.inc oH.mono x13'.inc) (by omega) (o12'.ke hvt) (by omega) fun v14 w14 x14' o14 n14 => ?_
  have o13:=o13.ext x14'
  obtain ⟨a14,c14,rfl,_⟩:=o14.form
  rw [hse] at o13 ⊢
  obtain ⟨Z,hZ⟩:∃ Z,Z=iw st H:=⟨_,rfl⟩
  have hzl:Z.length≤200000:=by
   have h1:=gT st H 0
   have h2:Z.length=(jA st H 0).length:=by rw [hZ]; exact gS ..
   omega
  rw [← hZ] at o13 o14 ⊢
  have hnz:((Z.length:Int) != Z.length)=false:=by simp
  have xe:=(i11.x.trans x12).trans (x13'.trans x14')
  refine bP @hnz ?_
  refine bI (fun i:Nat=>[(17,.slice a14 Z.length c14),(117,.slice a13 Z.length c13),(118,.int .i64 Z.length),(119,.int .i64 i)])
   (fun i w'=>i≤Z.length∧bV w14 w') (fun i _=>Z.length - i) 0 (by kernel_rfl) ?_ ⟨aM _,bV.refl _⟩ ?_
  ·exact bA
  rintro K2 e i w15 ⟨j1,j2⟩ hK2
  rcases aH i Z.length with hi | hi
  rotate_left
  ·have hi':¬ (i:Int) < Z.length:=by omega
   refine bP @hi' ?_
   exact hk _ (xe.trans j2)
  have hi':(i:Int) < Z.length:=by omega
  obtain ⟨z,hz⟩:=gEl hi
  obtain ⟨g1,cc1,hb1,_⟩:=o13.block (show 0 < Z.length by omega)
  obtain ⟨rfl,rfl⟩:a13=some ⟨g1,0,none⟩∧c13=cc1:=by simpa using hb1
  obtain ⟨g2,cc2,hb2,_⟩:=o14.block (show 0 < Z.length by omega)
  obtain ⟨rfl,rfl⟩:a14=some ⟨g2,0,none⟩∧c14=cc2:=by simpa using hb2
  have u0:=(o13.ext j2).cell hz (j:=0) rfl
  have u1:=(o13.ext j2).cell hz (j:=1) rfl
  have v0:=(o14.ext j2).cell hz (j:=0) rfl
  have v1:=(o14.ext j2).cell hz (j:=1) rfl
  simp only [dV,Nat.add_zero] at u0 u1 v0 v1
  obtain ⟨W2,hW2⟩:∃ W2,W2=(w15.alloc (.cells #[.string ⟨z.1.toArray⟩,.string ⟨z.2.toArray⟩] 64)).drew:=⟨_,rfl⟩
  have xW2:bV w15 W2:=by rw [hW2]; exact bV.drew' (aK _)
  have p1:W2.cell? ⟨w15.heap.size,0,none⟩=some (.string ⟨z.1.toArray⟩):=by rw [hW2]; exact bU @aA
  have p2:W2.cell? ⟨w15.heap.size,1,none⟩=some (.string ⟨z.2.toArray⟩):=by rw [hW2]; exact bU @aA
  have v0:=xW2.cell v0
  have v1:=xW2.cell v1
  refine eI @hi' @u0 @u1 @aA ?_
  refine ao (.read 0 (sq [1,2,3] (.read 4 (sq [5] .done)))) ?_
  rw [← hW2]
  refine me @p1 @p2 @v0 @v1 @hi' @Nat.zero_add ?_
  refine oJ (x:=z) (y:=z) ?_
  rw [show decide (z≠z)=false by simp]
  refine aY ?_
  refine hK2 _ _ (i+1) ?_ ⟨hi,j2.trans xW2⟩ (by omega)
  exact bA
 | true =>
  rw [hb] at y1
  have hpl:p < V.length:=of_decide_eq_true (hok.symm.trans hb)
  obtain ⟨r1,r2,r3⟩:=h3 p rfl hpl
  have hkl2:a.sp.ks.length≤100000:=by
   have:=Ei (snap:=snap) lo V[p]! (by rw [← hV,aI V p hpl]; exact aS hpl)
   rw [r3]
   omega
  simp (disch:=first | exact dZ | fail) only [go_sem,Bool.not_true,y1,y2,y3,y4,ak,e2,Int.toNat_zero,Nat.zero_mul,Nat.add_zero]
  refine xV (x:=a.sp) hxk hkl2 (cH.refl w11) fun d13 wb v13 g13 s13 => ?_
  have xb:=g13.x
  obtain ⟨a13,c13,rfl⟩:=s13.form
  refine aY ?_
  refine nY ⟨_,_,_,rfl⟩ fun wc xc' => ?_
  have x11c:=xb.trans xc'
  have y4:=x11c.cell y4
  have hxk:=hxk.inc KE.mono x11c.inc
  by_cases hks:key < V[p]!.s
  ·have hcon:iy key a.sp=false:=aF fun h=>h.1 (by rw [r1]; exact hks)
   have hT0:T=[]:=by rw [← hat]; exact t2 fun _=>hks
   rw [hcon]
   refine aY ?_
   have x12:bV w11 wc:=x11c
   have htv:Sl KE 3 wc (.slice none 0 0) T:=by rw [hT0]; exact Sl.nil
   have htl:T.length≤100000:=by omega
   have hsv12:=((hsv.inc oH.mono i11.i).inc oH.mono i11.j).inc oH.mono x12.inc
   refine aY ?_
   refine dt hsv12 (by omega) htv htl fun v13 w13 x13' o13 n13 => ?_
   have o12':=o11.ext (x12.trans x13')
   obtain ⟨a13,c13,rfl,_⟩:=o13.form
   refine aY ?_
   refine dt (hsv12.inc oH.mono x13'.inc) (by omega) (o12'.ke hvt) (by omega) fun v14 w14 x14' o14 n14 => ?_
   have o13:=o13.ext x14'
   obtain ⟨a14,c14,rfl,_⟩:=o14.form
   rw [hse] at o13 ⊢
   obtain ⟨Z,hZ⟩:∃ Z,Z=iw st H:=⟨_,rfl⟩
   have hzl:Z.length≤200000:=by
    have h1:=gT st H 0
    have h2:Z.length=(jA st H 0).length:=by rw [hZ]; exact gS ..
    omega
   rw [← hZ] at o13 o14 ⊢
   have hnz:((Z.length:Int) != Z.length)=false:=by simp
   have xe:=(i11.x.trans x12).trans (x13'.trans x14')
   refine bP @hnz ?_
   refine bI (fun i:Nat=>[(17,.slice a14 Z.length c14),(117,.slice a13 Z.length c13),(118,.int .i64 Z.length),(119,.int .i64 i)])
    (fun i w'=>i≤Z.length∧bV w14 w') (fun i _=>Z.length - i) 0 (by kernel_rfl) ?_ ⟨aM _,bV.refl _⟩ ?_
   ·exact bA
   rintro K2 e i w15 ⟨j1,j2⟩ hK2
   rcases aH i Z.length with hi | hi
   rotate_left
   ·have hi':¬ (i:Int) < Z.length:=by omega
    refine bP @hi' ?_
    exact hk _ (xe.trans j2)
   have hi':(i:Int) < Z.length:=by omega
   obtain ⟨z,hz⟩:=gEl hi
   obtain ⟨g1,cc1,hb1,_⟩:=o13.block (show 0 < Z.length by omega)
   obtain ⟨rfl,rfl⟩:a13=some ⟨g1,0,none⟩∧c13=cc1:=by simpa using hb1
   obtain ⟨g2,cc2,hb2,_⟩:=o14.block (show 0 < Z.length by omega)
   obtain ⟨rfl,rfl⟩:a14=some ⟨g2,0,none⟩∧c14=cc2:=by simpa using hb2
   have u0:=(o13.ext j2).cell hz (j:=0) rfl
   have u1:=(o13.ext j2).cell hz (j:=1) rfl
   have v0:=(o14.ext j2).cell hz (j:=0) rfl
   have v1:=(o14.ext j2).cell hz (j:=1) rfl
   simp only [dV,Nat.add_zero] at u0 u1 v0 v1
   obtain ⟨W2,hW2⟩:∃ W2,W2=(w15.alloc (.cells #[.string ⟨z.1.toArray⟩,.string ⟨z.2.toArray⟩] 64)).drew:=⟨_,rfl⟩
   have xW2:bV w15 W2:=by rw [hW2]; exact bV.drew' (aK _)
   have p1:W2.cell? ⟨w15.heap.size,0,none⟩=some (.string ⟨z.1.toArray⟩):=by rw [hW2]; exact bU @aA
   have p2:W2.cell? ⟨w15.heap.size,1,none⟩=some (.string ⟨z.2.toArray⟩):=by rw [hW2]; exact bU @aA
   have v0:=xW2.cell v0
   have v1:=xW2.cell v1
   refine eI @hi' @u0 @u1 @aA ?_
   refine ao (.read 0 (sq [1,2,3] (.read 4 (sq [5] .done)))) ?_
   rw [← hW2]
   refine me @p1 @p2 @v0 @v1 @hi' @Nat.zero_add ?_
   refine oJ (x:=z) (y:=z) ?_
   rw [show decide (z≠z)=false by simp]
   refine aY ?_
   refine hK2 _ _ (i+1) ?_ ⟨hi,j2.trans xW2⟩ (by omega)
   exact bA
  ·obtain ⟨t3,t4⟩:=t1 hpl hks
   have hcon:iy key a.sp=true:=aQ ⟨by rw [r1]; exact hks,by rw [r2]; exact t4⟩
   have hT0:a.sp.ks=T:=by rw [r3,← hat,t3,List.map_id]
   rw [hcon]
   simp (disch:=first | exact dZ | fail) only [go_sem,y4,ak,e2,Int.toNat_zero,Nat.zero_mul,Nat.add_zero]
   refine ql hxk hkl2 (cH.refl wc) fun d14 we v14 g14 s14 => ?_
   obtain ⟨a15,c15,rfl⟩:=s14.form
   refine aY ?_
   have x12:bV w11 we:=x11c.trans g14.x
   have htv:Sl KE 3 we (.slice a15 a.sp.ks.length c15) T:=by rw [← hT0]; exact s14.inc KE.mono g14.j
   rw [hT0] at htv ⊢
   have htl:T.length≤100000:=by omega
   have hsv12:=((hsv.inc oH.mono i11.i).inc oH.mono i11.j).inc oH.mono x12.inc
   refine aY ?_
   refine dt hsv12 (by omega) htv htl fun v13 w13 x13' o13 n13 => ?_
   have o12':=o11.ext (x12.trans x13')
   obtain ⟨a13,c13,rfl,_⟩:=o13.form
   refine aY ?_
   refine dt (hsv12.inc oH.mono x13'.inc) (by omega) (o12'.ke hvt) (by omega) fun v14 w14 x14' o14 n14 => ?_
   have o13:=o13.ext x14'
   obtain ⟨a14,c14,rfl,_⟩:=o14.form
   rw [hse] at o13 ⊢
   obtain ⟨Z,hZ⟩:∃ Z,Z=iw st H:=⟨_,rfl⟩
   have hzl:Z.length≤200000:=by
    have h1:=gT st H 0
    have h2:Z.length=(jA st H 0).length:=by rw [hZ]; exact gS ..
    omega
   rw [← hZ] at o13 o14 ⊢
   have hnz:((Z.length:Int) != Z.length)=false:=by simp
   have xe:=(i11.x.trans x12).trans (x13'.trans x14')
   refine bP @hnz ?_
   refine bI (fun i:Nat=>[(17,.slice a14 Z.length c14),(117,.slice a13 Z.length c13),(118,.int .i64 Z.length),(119,.int .i64 i)])
    (fun i w'=>i≤Z.length∧bV w14 w') (fun i _=>Z.length - i) 0 (by kernel_rfl) ?_ ⟨aM _,bV.refl _⟩ ?_
   ·exact bA
   rintro K2 e i w15 ⟨j1,j2⟩ hK2
   rcases aH i Z.length with hi | hi
   rotate_left
   ·have hi':¬ (i:Int) < Z.length:=by omega
    refine bP @hi' ?_
    exact hk _ (xe.trans j2)
   have hi':(i:Int) < Z.length:=by omega
   obtain ⟨z,hz⟩:=gEl hi
   obtain ⟨g1,cc1,hb1,_⟩:=o13.block (show 0 < Z.length by omega)
   obtain ⟨rfl,rfl⟩:a13=some ⟨g1,0,none⟩∧c13=cc1:=by simpa using hb1
   obtain ⟨g2,cc2,hb2,_⟩:=o14.block (show 0 < Z.length by omega)
   obtain ⟨rfl,rfl⟩:a14=some ⟨g2,0,none⟩∧c14=cc2:=by simpa using hb2
   have u0:=(o13.ext j2).cell hz (j:=0) rfl
   have u1:=(o13.ext j2).cell hz (j:=1) rfl
   have v0:=(o14.ext j2).cell hz (j:=0) rfl
   have v1:=(o14.ext j2).cell hz (j:=1) rfl
   simp only [dV,Nat.add_zero] at u0 u1 v0 v1
   obtain ⟨W2,hW2⟩:∃ W2,W2=(w15.alloc (.cells #[.string ⟨z.1.toArray⟩,.string ⟨z.2.toArray⟩] 64)).drew:=⟨_,rfl⟩
   have xW2:bV w15 W2:=by rw [hW2]; exact bV.drew' (aK _)
   have p1:W2.cell? ⟨w15.heap.size,0,none⟩=some (.string ⟨z.1.toArray⟩):=by rw [hW2]; exact bU @aA
   have p2:W2.cell? ⟨w15.heap.size,1,none⟩=some (.string ⟨z.2.toArray⟩):=by rw [hW2]; exact bU @aA
   have v0:=xW2.cell v0
   have v1:=xW2.cell v1
   refine eI @hi' @u0 @u1 @aA ?_
   refine ao (.read 0 (sq [1,2,3] (.read 4 (sq [5] .done)))) ?_
   rw [← hW2]
   refine me @p1 @p2 @v0 @v1 @hi' @Nat.zero_add ?_
   refine oJ (x:=z) (y:=z) ?_
   rw [show decide (z≠z)=false by simp]
   refine aY ?_
   refine hK2 _ _ (i+1) ?_ ⟨hi,j2.trans xW2⟩ (by omega)
   exact bA
end
end Go.Proofs
end
section
namespace Go.E
open Go Go.Sort Go.Proofs Go.Proofs.Tryz
section
variable {H:Type} {enc:TypeId × Value→H} {w:World} {base:Nat} {spare:Nat→Bool} {held:Bool} {fuel:Nat} {cs:List Value} {x:DataW H × List MemPlace}
theorem kF {α:Type} [Inhabited α] {R:gY α} {t e:TypeId} {sz:Nat} (ht:prog.underlying t=some (.slice e)) (hsz:prog.cellsOf e=sz) (hp:0 < sz) (el:∀ n cs x,DataW.trod enc prog w base spare held n e cs=some x→∃ y,R w cs y) (h:DataW.trod enc prog w base spare held fuel t cs=some x):∃ v l,cs=[v]∧Sl R sz w v l:=by
 rcases Go.Deep.open_slice ht h with ⟨rfl,_⟩ | ⟨a,len,cap,m,n,D,Pl,rfl,_,hl,_,hm,_,hx⟩
 ·exact ⟨_,[],rfl,rfl,rfl⟩
 ·have hlm:len≤m:=by rw [hm]; split <;> omega
  have hx:∀ i,i < len→∃ y,∃ cs',w.cells? base (a.add (i * sz)) sz=some cs'∧R w cs' y:=fun i hi=>by
   obtain ⟨cs',h1,h2⟩:=hx i (by omega)
   obtain ⟨y,hy⟩:=el _ _ _ h2
   rw [hsz] at h1
   exact ⟨y,cs',h1,hy⟩
  obtain ⟨Y,hY⟩:=Go.Deep.choose_lt hx
  have hsp:0 < len→a.spot=none:=fun h0=>by
   obtain ⟨cs',h1,_⟩:=hY 0 h0
   obtain ⟨_,h2,h3⟩:=World.cells?_some h1
   have:=h3 0 hp
   rw [aC (by omega)] at this
   have:=World.cell?_spot this
   simpa [Addr.add] using this
  refine ⟨_,(List.range len).map Y,rfl,hsp,by simp,hl,fun i y hy => ?_⟩
  have hi:i < len:=by have:=(aN.1 hy).1; simpa using this
  obtain ⟨cs',h1,h2⟩:=hY i hi
  obtain ⟨_,h4,h5⟩:=World.cells?_some h1
  have:Y i=y:=by simpa [bX,List.getElem?_range hi] using hy
  subst this
  refine ⟨cs',h4,fun j u hu => ?_,h2⟩
  have hj:=(aN.1 hu).1
  have:=h5 j (by omega)
  rw [hu,iD (hsp (by omega)),iD rfl] at this
  exact this
theorem gC (h:DataW.trod enc prog w base spare held fuel 9 cs=some x):∃ l,cs=[dV l]:=by
 obtain ⟨s,rfl,_⟩:=DataW.trod_string Tryz.underlying9 h
 exact ⟨s.data.toList,rfl⟩
theorem pC (h:DataW.trod enc prog w base spare held fuel 23 cs=some x):∃ n:Nat,cs=[.int .u64 n]∧n < 18446744073709551616:=by
 obtain ⟨n,rfl,_,hw⟩:=DataW.trod_int Tryz.underlying23 h
 have hw:0≤n∧n≤18446744073709551615:=by simpa [Lit.wf,IntKind.min,IntKind.max,IntKind.bits,IntKind.signed] using hw
 have:0≤n∧n < 18446744073709551616:=by omega
 refine ⟨n.toNat,?_,by omega⟩
 rw [Int.toNat_of_nonneg this.1]
theorem xX (h:DataW.trod enc prog w base spare held fuel 88 cs=some x):∃ y,KE w cs y:=by
 obtain ⟨xs,n,_,_,hl,hlen,hf⟩:=DataW.trod_struct Tryz.underlying88 h
 rw [show prog.cellsOf 88=3 by kernel_rfl] at hl
 match cs,hl with
 | [c0,c1,c2],_ =>
  match xs,hlen with
  | [y0,y1,y2],_ =>
   have f0:DataW.trod enc prog w base spare held n 23 (([c0,c1,c2].drop 0).take (prog.cellsOf 23))=some y0:=hf 0 _ rfl
   have f1:DataW.trod enc prog w base spare held n 9 (([c0,c1,c2].drop 1).take (prog.cellsOf 9))=some y1:=hf 1 _ rfl
   have f2:DataW.trod enc prog w base spare held n 9 (([c0,c1,c2].drop 2).take (prog.cellsOf 9))=some y2:=hf 2 _ rfl
   rw [show prog.cellsOf 23=1 by kernel_rfl] at f0
   rw [show prog.cellsOf 9=1 by kernel_rfl] at f1 f2
   obtain ⟨a,ha,hw⟩:=pC f0
   obtain ⟨b,hb⟩:=gC f1
   obtain ⟨c,hc⟩:=gC f2
   simp at ha hb hc
   subst ha hb hc
   exact ⟨⟨a,b,c⟩,rfl,hw⟩
theorem vr (h:DataW.trod enc prog w base spare held fuel 46 cs=some x):∃ y,jB w cs y:=by
 obtain ⟨xs,n,_,_,hl,hlen,hf⟩:=DataW.trod_struct Tryz.underlying46 h
 rw [show prog.cellsOf 46=3 by kernel_rfl] at hl
 match cs,hl with
 | [c0,c1,c2],_ =>
  match xs,hlen with
  | [y0,y1,y2],_ =>
   have f0:DataW.trod enc prog w base spare held n 9 (([c0,c1,c2].drop 0).take (prog.cellsOf 9))=some y0:=hf 0 _ rfl
   have f1:DataW.trod enc prog w base spare held n 9 (([c0,c1,c2].drop 1).take (prog.cellsOf 9))=some y1:=hf 1 _ rfl
   have f2:DataW.trod enc prog w base spare held n 44 (([c0,c1,c2].drop 2).take (prog.cellsOf 44))=some y2:=hf 2 _ rfl
   rw [show prog.cellsOf 44=1 by kernel_rfl] at f2
   rw [show prog.cellsOf 9=1 by kernel_rfl] at f0 f1
   obtain ⟨a,ha⟩:=gC f0
   obtain ⟨b,hb⟩:=gC f1
   obtain ⟨v,l,hv,hs⟩:=kF (R:=KE) (sz:=3) Tryz.underlying44 (by kernel_rfl) (by decide) (fun n cs x h=>xX h) f2
   simp at ha hb hv
   subst ha hb hv
   exact ⟨⟨a,b,l⟩,_,rfl,hs⟩
theorem rR (h:DataW.trod enc prog w base spare held fuel 28 cs=some x):∃ v l,cs=[v]∧Sl jB 3 w v l:=kF (sz:=3) Tryz.underlying28 (by kernel_rfl) (by decide) (fun n cs x h=>vr h) h
theorem qn (h:DataW.trod enc prog w base spare held fuel 22 cs=some x):∃ v l,cs=[v]∧Sl kO 1 w v l :=
 kF (sz:=1) Tryz.underlying22 (by kernel_rfl) (by decide) (fun n cs x h=>by obtain ⟨v,l,rfl,hs⟩:=rR h; exact ⟨l,v,rfl,hs⟩) h
end
theorem Bn {w w2:World} (x:bV w w2):RowKit.Below w.heap.size w w2:=⟨x.st.1,x.st.2.1,x.st.2.2,x.size,fun b hb=>x.block b hb fun _ h=>h⟩
end Go.E
end
section
namespace Go.E
open Go Go.Sort Go.Proofs Go.Proofs.Tryz
section
variable {H:Type} {enc:TypeId × Value→H} {w:World} {base:Nat} {spare:Nat→Bool} {held:Bool} {fuel:Nat} {cs:List Value} {x:DataW H × List MemPlace}
theorem vt (h:DataW.trod enc prog w base spare held fuel 64 cs=some x):∃ y,oH w cs y:=by
 obtain ⟨xs,n,_,_,hl,hlen,hf⟩:=DataW.trod_struct Tryz.underlying64 h
 rw [show prog.cellsOf 64=2 by kernel_rfl] at hl
 match cs,hl with
 | [c0,c1],_ =>
  match xs,hlen with
  | [y0,y1],_ =>
   have f0:DataW.trod enc prog w base spare held n 9 (([c0,c1].drop 0).take (prog.cellsOf 9))=some y0:=hf 0 _ rfl
   have f1:DataW.trod enc prog w base spare held n 9 (([c0,c1].drop 1).take (prog.cellsOf 9))=some y1:=hf 1 _ rfl
   rw [show prog.cellsOf 9=1 by kernel_rfl] at f0 f1
   obtain ⟨a,ha⟩:=gC f0
   obtain ⟨b,hb⟩:=gC f1
   simp at ha hb
   subst ha hb
   exact ⟨(a,b),rfl⟩
theorem rS (h:DataW.trod enc prog w base spare held fuel 50 cs=some x):∃ v l,cs=[v]∧Sl oH 2 w v l:=kF (sz:=2) Tryz.underlying50 (by kernel_rfl) (by decide) (fun n cs x h=>vt h) h
end
end Go.E
end
section
namespace Go.E
open Go Go.Sort Go.Proofs
section
variable {H:Type} {enc:TypeId × Value→H} {w:World} {base:Nat} {spare:Nat→Bool} {held:Bool} {fuel:Nat} {cs:List Value} {x:DataW H × List MemPlace}
end
end Go.E
end
