/- Parts of the proof: Kj, Xm, Km, Vq, Vr, Kn, Ko. -/
import Derived.Test.YtjcbeinpkafjiaaGreatR18
import Derived.Test.YtjcbeinpkafjiaaGreatR22
import Derived.Test.YtjcbeinpkafjiaaGreatR23
import Derived.Test.YtjcbeinpkafjiaaGreatR25
import Derived.Test.YtjcbeinpkafjiaaGreatR26
import Derived.Test.YtjcbeinpkafjiaaGreatR27
set_option linter.all false
set_option maxRecDepth 10000
section
namespace Go.E
open Go Go.Sort Go.Proofs Go.Proofs.Tryz
structure UO7 (d w:World) (U:Nat):Prop where
 c:∀ x,x < 70→∃ u,w.cell? ⟨U,x,none⟩=some u
 f:∀ x,w.frozen? ⟨U,x,none⟩=false
 o:cq d U
structure BO7 (d w:World) (Bf:Nat):Prop where
 c:∀ x,x=0∨x=1∨x=4∨x=5→w.cell? ⟨Bf,x,none⟩=some (.slice none 0 0)
 c2:w.cell? ⟨Bf,2,none⟩=some .nilFunc
 c3:w.cell? ⟨Bf,3,none⟩=some (.bool false)
 f:∀ x,w.frozen? ⟨Bf,x,none⟩=false
 o:cq d Bf
section
variable {d w d2 w2:World} {U Bf:Nat}
theorem BO7.gr (h:BO7 d w Bf) (g:Gr d w d2 w2):BO7 d2 w2 Bf:=⟨fun x hx=>g.x.cell (h.c x hx),g.x.cell h.c2,g.x.cell h.c3,fun x=>by rw [g.x.frozen _ x (aE h.c2)]; exact h.f x,g.o _ (aE h.c2) h.o⟩
theorem UO7.lt (h:UO7 d w U):U < w.heap.size:=by obtain ⟨u,hu⟩:=h.c 0 (by omega); exact aE hu
theorem UO7.gr (h:UO7 d w U) (g:Gr d w d2 w2):UO7 d2 w2 U:=⟨fun x hx=>by obtain ⟨u,hu⟩:=h.c x hx; exact ⟨u,g.x.cell hu⟩,fun x=>by rw [g.x.frozen _ x h.lt]; exact h.f x,g.o _ h.lt h.o⟩
end
theorem JQ {V l:List Sp} (h:Pw (HL fun a b=>a=b) V l):l=V:=by
 refine List.ext_getElem? fun i => ?_
 rcases aH i V.length with hi | hi
 ·have hi2:i < l.length:=by rw [← h.1]; exact hi
  obtain ⟨a,b,c⟩:=h.2 i _ _ (aC hi) (aC hi2)
  rw [aC hi,aC hi2]
  congr 1
  cases h1:V[i]
  cases h2:l[i]
  rw [h1,h2] at a b c
  simp_all
 ·rw [List.getElem?_eq_none hi,List.getElem?_eq_none (by rw [← h.1]; exact hi)]
end Go.E
namespace Go.Proofs
open Go Go.E Go.Sort Go.Proofs.Tryz
section
variable {k:aq} {d w:World}
set_option maxHeartbeats 4000000 in
theorem A5 {w5 w6 w7 dc:World} {U Bf C XB SB QB LB AB nF D E:Nat} {sv fv:Value} {Lv:List (List Sp)} {snaps:List Nat} {Ls:List Lvl} {K:aq} (r:SIn Lv) (t:Gr d w dc w5) (hU:UO7 dc w5 U) (hC:pR dc C) (xd:XD dc XB SB QB LB AB sv snaps) (hB:BO7 dc w5 Bf) (hF:kO nF dc w5 fv Ls) (hne:Bf≠U) (hUn:U < nF) (hU0:w.heap.size≤U) (hB0:w.heap.size≤Bf) (hn0:w.heap.size≤nF) (hBI:∀ x ∈ Ls,x.I≠Bf) (hm:Ls.map Lvl.L=Lv)
    (k6:Keep (tb U 0 Bf) w5 w6) (m6:MI0 w6 U 0 Bf 274 (HI XB SB QB) Ls) (x7:bY w6 w7) (hD0:w6.heap.size≤D) (hE0:w6.heap.size≤E) (hED:E≠D) (cD:∀ x,x < 12→∃ u,w7.cell? ⟨D,x,none⟩=some u) (fD:∀ x,w7.frozen? ⟨D,x,none⟩=false) (cE:∀ x,x≤2→w7.cell? ⟨E,x,none⟩=some (.slice none 0 0)) (fE:∀ x,w7.frozen? ⟨E,x,none⟩=false)
    (hK:∀ w8,(∀ K2:aq,(∀ d2 w2 v,Gr d w d2 w2→Sl dY 3 d2 v (wo snaps Lv)→K2 v w2)→aX prog 116 #[.iface 229 (.pointer (some ⟨D,0,none⟩))] K2 w8)→K (.tuple #[]) w8) :
    aX prog 99 #[.pointer (some ⟨D,0,none⟩),.pointer (some ⟨C,0,none⟩),.iface 224 (.pointer (some ⟨U,0,none⟩)),.iface 228 (.func (.func 100) #[] #[]),.func (.func 101) #[] #[],.pointer (some ⟨E,0,none⟩)] K w7:=by
 have hn:Ls.length≤10:=by have:=r.n10; rw [← hm,ah] at this; exact this
 have hU5:=hU.lt
 have hB5:=aE hB.c2
 have s6:=k6.size
 have i6:bz dc w6:=t.j.keep k6 fun b x h=>by
  rcases h with ⟨rfl,_⟩ | ⟨rfl,_⟩
  ·exact hU.o x
  ·exact hB.o x
 have i7:bz dc w7:=i6.trans x7.inc
 have oD:cq dc D:=i6.out hD0
 have oE:cq dc E:=i6.out hE0
 refine qH (a:=0) (e:=0) (fun x _ h=>cD x (by omega)) fD (i7 _ _ _ hC.2.1) rfl rfl fun w8 k8 u8=>hK w8 fun K2 hK2 => ?_
 have i8:bz dc w8:=i7.keep k8 fun b x h=>by rw [h.1]; exact oD x
 have hD7:D < w7.heap.size:=by obtain ⟨u,hu⟩:=cD 0 (by omega); exact aE hu
 have hE7:=aE (cE 0 (by omega))
 have k58:Keep (fun b x=>tb U 0 Bf b x∨b=D) w5 w8:=((k6.mono fun b x _ h=>(.inl h:tb U 0 Bf b x∨b=D)).trans (x7.keep)).trans (k8.mono fun b x _ h => .inr h.1)
 have hIlt:∀ x ∈ Ls,x.I < w5.heap.size:=fun x hx=>(hF.2.at_ x hx).2.2.2.2
 have hF8:kO nF dc w8 fv Ls:=⟨hF.1,hF.2.keep k58 (fun x hx o h=>by
  have h1:=hIlt x hx
  have h2:=(hF.2.at_ x hx).2.2.2.1
  rcases h with (⟨h,_⟩ | ⟨h,_⟩) | h
  ·omega
  ·exact hBI x hx h
  ·omega) (bz.refl _) fun b h _=>h⟩
 have m:=JE r xd hU.o hB.o hF8 hne hUn hBI hm
 have m8:MI0 w8 U 0 Bf 274 (HI XB SB QB) Ls:=(m6.keep hn x7 (fun _ _ _ h=>h) fun _ _ h=>h).keep hn k8 (fun x _ _ h=>by have:=h.1; omega) fun x _ h=>by have:=h.1; omega
 have fr:∀ b x,b < w5.heap.size→w5.frozen? ⟨b,x,none⟩=false→w8.frozen? ⟨b,x,none⟩=false:=fun b x hb h=>by rw [k58.frozen b x hb]; exact h
 have fr7:∀ b x,b < w7.heap.size→w7.frozen? ⟨b,x,none⟩=false→w8.frozen? ⟨b,x,none⟩=false:=fun b x hb h=>by rw [k8.frozen b x hb]; exact h
 have cB:∀ x u,x≠1→x≠2→x≠4→w5.cell? ⟨Bf,x,none⟩=some u→w8.cell? ⟨Bf,x,none⟩=some u:=fun x u h1 h2 h3 hu=>k58.some hu fun h=>by
  rcases h with (⟨h,_⟩ | ⟨_,h⟩) | h
  ·exact hne h
  ·omega
  ·omega
 have h0:=Fq (DU:=D) (DB:=E) (C:=C) i8 m hm m8 u8 hF8 (fun x=>fr _ x hU5 (hU.f x)) (fun x=>fr _ x hB5 (hB.f x)) (fun x=>fr7 _ x hD7 (fD x)) (fun x=>fr7 _ x hE7 (fE x)) (fun x hx=>cB x _ (by omega) (by omega) (by omega) (hB.c x (by omega))) (cB 3 _ (by omega) (by omega) (by omega) hB.c3) (fun x hx=>k8.some (cE x hx) fun h=>hED h.1)
 have dc':=JF (DU:=D) (DB:=E) (C:=C) r m hm oD oE (by omega) (by omega) (by omega) (by omega) hED (fun x hx=>by have:=hIlt x hx; omega) hC.1
 have W:=K8 (KS:=fun a b=>a=b) (fun a b h=>by rw [h]) dc' (fun b x h=>by
  rcases h with ⟨rfl,_⟩ | ⟨rfl,_⟩ | ⟨i,hi,rfl⟩ | h
  ·exact hU.o
  ·exact hB.o
  ·exact m.mc.oI i hi
  ·exact h.elim) (fun j i hj hi he=>by rw [List.map_id,List.map_id] at he; exact he)
 have hVl:(wo snaps Lv).length < 1000000:=by
  rw [dt]
  refine fR ?_ dc'.f.small
  unfold cr
  exact aU (az _ _) (by rw [List.length_range]; exact aD _)
 refine wJ W h0 trivial hVl fun a w9 v l b1 b2 b3 b4 b5 b6 => ?_
 rw [JQ b6] at b5
 have hx:bY w w8:=t.x.tr k58 fun b o hb h=>by
  have:=t.x.size
  rcases h with (⟨h,_⟩ | ⟨h,_⟩) | h <;> omega
 refine hK2 a w9 v ⟨hx.tr b4 fun b o hb h => ?_,t.i.trans b1,b2,fun b hb ho=>b3 b (aI hb hx.size) (t.o b hb ho)⟩ b5
 have:=t.x.size
 rcases h with h | h | ⟨y,h⟩ | h | h
 ·omega
 ·omega
 ·rcases h with ⟨h,_⟩ | ⟨h,_⟩ | ⟨i,hi,h⟩ | h
  ·omega
  ·omega
  ·have hat:Ls.toArray[i]! ∈ Ls:=by rw [aG Ls.toArray i hi]; simpa using aS (by simpa using hi)
   have:=(hF.2.at_ _ hat).2.2.2.1
   omega
  ·exact h
 ·exact h
 ·exact h
set_option maxHeartbeats 4000000 in
theorem mM {lv sv:Value} {Lv:List (List Sp)} {snaps:List Nat} (hv:Sl jx 1 d lv Lv) (hs:Sl Cj 1 d sv snaps) (hsl:snaps.length < 1000000) (hinc:bz d w) (r:SIn Lv) (hk:∀ d2 w2 v,Gr d w d2 w2→Sl dY 3 d2 v (wo snaps Lv)→k v w2) :
    aX prog 80 #[lv,sv,.bool true,.slice none 0 0] k w:=by
 obtain ⟨la,lc,rfl⟩:=hv.form
 obtain ⟨sa,sc,rfl⟩:=hs.form
 have hlen:∀ x ∈ Lv,x.length < 1000000∧∀ s ∈ x,EF s:=fun x hx=>by
  obtain ⟨a,b⟩:=r.len x hx
  refine ⟨by omega,fun s hs => ?_⟩
  obtain ⟨b1,b2,b3,_,b5⟩:=b s hs
  exact ⟨by omega,by omega,by omega,b5⟩
 refine ai [.tmp 8] func80 ?_
 refine al ?_
 refine kz hinc fun dc wb C g0 _ hC0 hC1 hC5 => ?_
 have hC:pR dc C:=⟨hC0,hC1,hC5⟩
 refine al ?_
 generalize hO:Obj.cells _ 132=O
 obtain ⟨U,hUe⟩:∃ U,U=wb.heap.size:=⟨_,rfl⟩
 obtain ⟨wc,hw1⟩:∃ wc,wc=(wb.alloc O).drew:=⟨_,rfl⟩
 refine ay (sq [0,1,2] (.read 3 (sq [4,5,6] (.read 7 (sq [8,9,10,14] (.alt (.eff 11 [3,7] (.alt (.eff 12 [3] (.alt (.eff 13 [3,7] (.eff 15 [3] (.eff 16 [] .done))) (.eff 15 [3] (.eff 13 [3,7] (.eff 16 [] .done))))) (.eff 13 [3,7] (.eff 12 [3] (.eff 15 [3] (.eff 16 [] .done)))))) (.eff 13 [3,7] (.eff 11 [3,7] (.eff 12 [3] (.eff 15 [3] (.eff 16 [] .done))))))))))) ?_
 rw [← hw1,← hUe]
 have x1:bY wb wc:=by rw [hw1]; exact (aL _).drew
 have t:Gr d w dc wc:=g0.trans (Gr.ext g0.j x1)
 have hU0:w.heap.size≤U:=by rw [hUe]; exact g0.x.size
 have hz:U+1≤wc.heap.size:=by rw [hw1,World.size_drew,World.size_alloc]; omega
 have hU:UO7 dc wc U:=by
  refine ⟨fun x hx => ?_,fun x => ?_,g0.j.out (by omega)⟩
  ·rw [hw1,← hO,hUe]
   refine bf @aA ?_
   exact ⟨_,aC (show x < 70 from hx)⟩
  ·rw [hw1,← hO,hUe]
   exact dO (aD _) (by omega)
 have hs:=hs.inc dJ t.i
 have c0:=t.j _ _ _ hC.1
 have c1:=t.j _ _ _ hC.2.1
 clear hw1 x1
 refine dV @c0 @c1 ?_
 refine ⟨?_,?_⟩
 ·
  refine sZ t.j fun dc wc LB AB g hA0 hL0 => ?_
  have t:=t.trans g
  have hz:=aU hz g.x.size
  have hU:=hU.gr g
  have hC:=hC.gr g
  have hs:=hs.inc dJ g.i
  have c0:=t.j _ _ _ hC.1
  have c1:=t.j _ _ _ hC.2.1
  (try have hA:=g.i _ _ _ hA)
  (try have hL:=g.i _ _ _ hL)
  (try have xd:=xd.inc g.i)
  (try have hB:=hB.gr g)
  (try have hBl:=aI hBl g.x.size)
  (try have hF:=hF.gr g)
  have hA:=hA0
  have hL:=hL0
  refine dV @c0 @c1 ?_
  refine ⟨?_,?_⟩
  ·
   refine qK t.j hs hsl hA hL fun dc wc XB SB QB g xd0 => ?_
   have t:=t.trans g
   have hz:=aU hz g.x.size
   have hU:=hU.gr g
   have hC:=hC.gr g
   have hs:=hs.inc dJ g.i
   have c0:=t.j _ _ _ hC.1
   have c1:=t.j _ _ _ hC.2.1
   (try have hA:=g.i _ _ _ hA)
   (try have hL:=g.i _ _ _ hL)
   (try have xd:=xd.inc g.i)
   (try have hB:=hB.gr g)
   (try have hBl:=aI hBl g.x.size)
   (try have hF:=hF.gr g)
   have xd:=xd0
   refine dV @c0 @c1 ?_
   refine ⟨?_,?_⟩
   ·
    generalize hO2:Obj.cells _ 165=O2
    obtain ⟨Bf,hBe⟩:∃ b,b=wc.heap.size:=⟨_,rfl⟩
    (try rw [← hBe])
    have hBU:U+1≤Bf:=by omega
    have hBn:BO7 dc (wc.alloc O2) Bf:=by
     rw [hBe,← hO2]
     exact ⟨fun x hx=>by (rcases hx with rfl | rfl | rfl | rfl <;> exact aA (aD _) (by omega)),aA (aD _) (by omega),aA (aD _) (by omega),fun x=>by simp (disch:=first | exact dZ | fail) only [go_sem],t.j.out (aD _)⟩
    have g:Gr dc wc dc (wc.alloc O2):=Gr.ext t.j (aL _)
    (try have hBI:∀ x ∈ Ls,x.I≠Bf:=fun x hx=>by have:=(hF.2.at_ x hx).2.2.2.2; omega)
    have hBl:Bf < (wc.alloc O2).heap.size:=by rw [World.size_alloc]; omega
    have t:=t.trans g
    have hz:=aU hz g.x.size
    have hU:=hU.gr g
    have hC:=hC.gr g
    have hs:=hs.inc dJ g.i
    have c0:=t.j _ _ _ hC.1
    have c1:=t.j _ _ _ hC.2.1
    (try have hA:=g.i _ _ _ hA)
    (try have hL:=g.i _ _ _ hL)
    (try have xd:=xd.inc g.i)
    (try have hB:=hB.gr g)
    (try have hBl:=aI hBl g.x.size)
    (try have hF:=hF.gr g)
    have hB:=hBn
    obtain ⟨wd,hwd⟩:∃ wd,wd=wc.alloc O2:=⟨_,rfl⟩
    rw [← hwd] at t hz hU hB hBl c0 c1 ⊢
    (try rw [← hwd] at hF)
    refine dV @c0 @c1 ?_
    obtain ⟨nF,hnF⟩:∃ n,n=wd.heap.size:=⟨_,rfl⟩
    have hUn:U < nF:=by omega
    refine df (hv.inc jx.mono t.i) (by have:=r.n10; omega) hlen t.j fun dc wc fv Ls g f1 f2 hm => ?_
    rw [← hnF] at f2
    (try have hBl:Bf < nF:=by omega)
    (try have hBI:∀ x ∈ Ls,x.I≠Bf:=fun x hx=>by have:=(f2.at_ x hx).2.2.2.1; omega)
    have t:=t.trans g
    have hz:=aU hz g.x.size
    have hU:=hU.gr g
    have hC:=hC.gr g
    have hs:=hs.inc dJ g.i
    have c0:=t.j _ _ _ hC.1
    have c1:=t.j _ _ _ hC.2.1
    (try have hA:=g.i _ _ _ hA)
    (try have hL:=g.i _ _ _ hL)
    (try have xd:=xd.inc g.i)
    (try have hB:=hB.gr g)
    (try have hBl:=aI hBl g.x.size)
    (try have hF:=hF.gr g)
    have hF:kO nF dc wc fv Ls:=⟨f1,f2⟩
    refine dV @c0 @c1 ?_
    have hn:Ls.length≤10:=by have:=r.n10; rw [← hm,ah] at this; exact this
    refine kK hF.1 t.j hU.o hB.o hn (by omega) (fun x _ h=>hU.c x (by omega)) hU.f (hB.c 1 (by omega)) hB.c2 (hB.c 4 (by omega)) hB.f fun w6 k6 m6 => ?_
    refine al ?_
    generalize hOD:Obj.cells _ 151=OD
    generalize hOE:Obj.cells _ 168=OE
    have z7:(w6.alloc OD).heap.size=w6.heap.size+1:=World.size_alloc _ _
    (try rw [z7])
    refine A5 (w7:=(w6.alloc OD).alloc OE) (D:=w6.heap.size) (E:=w6.heap.size+1) r t hU hC xd hB hF (by omega) hUn hU0 (by omega) (by omega) hBI hm k6 m6 ((aL _).trans (aL _)) (by omega) (by omega) (by omega) (fun x hx => ?_) (fun x => ?_) (fun x hx => ?_) (fun x => ?_) fun w8 hw8 => ?_
    ·rw [← hOD]
     refine ⟨_,(aL _).cell (aA (aD _) (by omega) |>.trans (Array.getElem?_eq_getElem (show x < 12 from hx)))⟩
    ·rw [(aL _).frozen _ x (by rw [World.size_alloc]; omega),← hOD]
     exact dO (aD _) (by omega)
    ·rw [← hOE,aA (by rw [z7]; omega) (by rw [z7]; omega)]
     rcases (by omega:x=0∨x=1∨x=2) with rfl | rfl | rfl <;> rfl
    ·rw [← hOE]
     exact dO (by rw [z7]; omega) (by rw [z7]; omega)
    refine al ?_
    refine hw8 _ fun d2 w2 v g2 s2 => ?_
    refine al ?_
    exact hk d2 w2 v g2 s2
   ·
    obtain ⟨nF,hnF⟩:∃ n,n=wc.heap.size:=⟨_,rfl⟩
    have hUn:U < nF:=by omega
    refine df (hv.inc jx.mono t.i) (by have:=r.n10; omega) hlen t.j fun dc wc fv Ls g f1 f2 hm => ?_
    rw [← hnF] at f2
    (try have hBl:Bf < nF:=by omega)
    (try have hBI:∀ x ∈ Ls,x.I≠Bf:=fun x hx=>by have:=(f2.at_ x hx).2.2.2.1; omega)
    have t:=t.trans g
    have hz:=aU hz g.x.size
    have hU:=hU.gr g
    have hC:=hC.gr g
    have hs:=hs.inc dJ g.i
    have c0:=t.j _ _ _ hC.1
    have c1:=t.j _ _ _ hC.2.1
    (try have hA:=g.i _ _ _ hA)
    (try have hL:=g.i _ _ _ hL)
    (try have xd:=xd.inc g.i)
    (try have hB:=hB.gr g)
    (try have hBl:=aI hBl g.x.size)
    (try have hF:=hF.gr g)
    have hF:kO nF dc wc fv Ls:=⟨f1,f2⟩
    refine dV @c0 @c1 ?_
    generalize hO2:Obj.cells _ 165=O2
    obtain ⟨Bf,hBe⟩:∃ b,b=wc.heap.size:=⟨_,rfl⟩
    (try rw [← hBe])
    have hBU:U+1≤Bf:=by omega
    have hBn:BO7 dc (wc.alloc O2) Bf:=by
     rw [hBe,← hO2]
     exact ⟨fun x hx=>by (rcases hx with rfl | rfl | rfl | rfl <;> exact aA (aD _) (by omega)),aA (aD _) (by omega),aA (aD _) (by omega),fun x=>by simp (disch:=first | exact dZ | fail) only [go_sem],t.j.out (aD _)⟩
    have g:Gr dc wc dc (wc.alloc O2):=Gr.ext t.j (aL _)
    (try have hBI:∀ x ∈ Ls,x.I≠Bf:=fun x hx=>by have:=(hF.2.at_ x hx).2.2.2.2; omega)
    have hBl:Bf < (wc.alloc O2).heap.size:=by rw [World.size_alloc]; omega
    have t:=t.trans g
    have hz:=aU hz g.x.size
    have hU:=hU.gr g
    have hC:=hC.gr g
    have hs:=hs.inc dJ g.i
    have c0:=t.j _ _ _ hC.1
    have c1:=t.j _ _ _ hC.2.1
    (try have hA:=g.i _ _ _ hA)
    (try have hL:=g.i _ _ _ hL)
    (try have xd:=xd.inc g.i)
    (try have hB:=hB.gr g)
    (try have hBl:=aI hBl g.x.size)
    (try have hF:=hF.gr g)
    have hB:=hBn
    obtain ⟨wd,hwd⟩:∃ wd,wd=wc.alloc O2:=⟨_,rfl⟩
    rw [← hwd] at t hz hU hB hBl c0 c1 ⊢
    (try rw [← hwd] at hF)
    refine dV @c0 @c1 ?_
    have hn:Ls.length≤10:=by have:=r.n10; rw [← hm,ah] at this; exact this
    refine kK hF.1 t.j hU.o hB.o hn (by omega) (fun x _ h=>hU.c x (by omega)) hU.f (hB.c 1 (by omega)) hB.c2 (hB.c 4 (by omega)) hB.f fun w6 k6 m6 => ?_
    refine al ?_
    generalize hOD:Obj.cells _ 151=OD
    generalize hOE:Obj.cells _ 168=OE
    have z7:(w6.alloc OD).heap.size=w6.heap.size+1:=World.size_alloc _ _
    (try rw [z7])
    refine A5 (w7:=(w6.alloc OD).alloc OE) (D:=w6.heap.size) (E:=w6.heap.size+1) r t hU hC xd hB hF (by omega) hUn hU0 (by omega) (by omega) hBI hm k6 m6 ((aL _).trans (aL _)) (by omega) (by omega) (by omega) (fun x hx => ?_) (fun x => ?_) (fun x hx => ?_) (fun x => ?_) fun w8 hw8 => ?_
    ·rw [← hOD]
     refine ⟨_,(aL _).cell (aA (aD _) (by omega) |>.trans (Array.getElem?_eq_getElem (show x < 12 from hx)))⟩
    ·rw [(aL _).frozen _ x (by rw [World.size_alloc]; omega),← hOD]
     exact dO (aD _) (by omega)
    ·rw [← hOE,aA (by rw [z7]; omega) (by rw [z7]; omega)]
     rcases (by omega:x=0∨x=1∨x=2) with rfl | rfl | rfl <;> rfl
    ·rw [← hOE]
     exact dO (by rw [z7]; omega) (by rw [z7]; omega)
    refine al ?_
    refine hw8 _ fun d2 w2 v g2 s2 => ?_
    refine al ?_
    exact hk d2 w2 v g2 s2
  ·
   generalize hO2:Obj.cells _ 165=O2
   obtain ⟨Bf,hBe⟩:∃ b,b=wc.heap.size:=⟨_,rfl⟩
   (try rw [← hBe])
   have hBU:U+1≤Bf:=by omega
   have hBn:BO7 dc (wc.alloc O2) Bf:=by
    rw [hBe,← hO2]
    exact ⟨fun x hx=>by (rcases hx with rfl | rfl | rfl | rfl <;> exact aA (aD _) (by omega)),aA (aD _) (by omega),aA (aD _) (by omega),fun x=>by simp (disch:=first | exact dZ | fail) only [go_sem],t.j.out (aD _)⟩
   have g:Gr dc wc dc (wc.alloc O2):=Gr.ext t.j (aL _)
   (try have hBI:∀ x ∈ Ls,x.I≠Bf:=fun x hx=>by have:=(hF.2.at_ x hx).2.2.2.2; omega)
   have hBl:Bf < (wc.alloc O2).heap.size:=by rw [World.size_alloc]; omega
   have t:=t.trans g
   have hz:=aU hz g.x.size
   have hU:=hU.gr g
   have hC:=hC.gr g
   have hs:=hs.inc dJ g.i
   have c0:=t.j _ _ _ hC.1
   have c1:=t.j _ _ _ hC.2.1
   (try have hA:=g.i _ _ _ hA)
   (try have hL:=g.i _ _ _ hL)
   (try have xd:=xd.inc g.i)
   (try have hB:=hB.gr g)
   (try have hBl:=aI hBl g.x.size)
   (try have hF:=hF.gr g)
   have hB:=hBn
   obtain ⟨wd,hwd⟩:∃ wd,wd=wc.alloc O2:=⟨_,rfl⟩
   rw [← hwd] at t hz hU hB hBl c0 c1 ⊢
   (try rw [← hwd] at hF)
   refine dV @c0 @c1 ?_
   refine qK t.j hs hsl hA hL fun dc wc XB SB QB g xd0 => ?_
   have t:=t.trans g
   have hz:=aU hz g.x.size
   have hU:=hU.gr g
   have hC:=hC.gr g
   have hs:=hs.inc dJ g.i
   have c0:=t.j _ _ _ hC.1
   have c1:=t.j _ _ _ hC.2.1
   (try have hA:=g.i _ _ _ hA)
   (try have hL:=g.i _ _ _ hL)
   (try have xd:=xd.inc g.i)
   (try have hB:=hB.gr g)
   (try have hBl:=aI hBl g.x.size)
   (try have hF:=hF.gr g)
   have xd:=xd0
   refine dV @c0 @c1 ?_
   obtain ⟨nF,hnF⟩:∃ n,n=wc.heap.size:=⟨_,rfl⟩
   have hUn:U < nF:=by omega
   refine df (hv.inc jx.mono t.i) (by have:=r.n10; omega) hlen t.j fun dc wc fv Ls g f1 f2 hm => ?_
   rw [← hnF] at f2
   (try have hBl:Bf < nF:=by omega)
   (try have hBI:∀ x ∈ Ls,x.I≠Bf:=fun x hx=>by have:=(f2.at_ x hx).2.2.2.1; omega)
   have t:=t.trans g
   have hz:=aU hz g.x.size
   have hU:=hU.gr g
   have hC:=hC.gr g
   have hs:=hs.inc dJ g.i
   have c0:=t.j _ _ _ hC.1
   have c1:=t.j _ _ _ hC.2.1
   (try have hA:=g.i _ _ _ hA)
   (try have hL:=g.i _ _ _ hL)
   (try have xd:=xd.inc g.i)
   (try have hB:=hB.gr g)
   (try have hBl:=aI hBl g.x.size)
   (try have hF:=hF.gr g)
   have hF:kO nF dc wc fv Ls:=⟨f1,f2⟩
   refine dV @c0 @c1 ?_
   have hn:Ls.length≤10:=by have:=r.n10; rw [← hm,ah] at this; exact this
   refine kK hF.1 t.j hU.o hB.o hn (by omega) (fun x _ h=>hU.c x (by omega)) hU.f (hB.c 1 (by omega)) hB.c2 (hB.c 4 (by omega)) hB.f fun w6 k6 m6 => ?_
   refine al ?_
   generalize hOD:Obj.cells _ 151=OD
   generalize hOE:Obj.cells _ 168=OE
   have z7:(w6.alloc OD).heap.size=w6.heap.size+1:=World.size_alloc _ _
   (try rw [z7])
   refine A5 (w7:=(w6.alloc OD).alloc OE) (D:=w6.heap.size) (E:=w6.heap.size+1) r t hU hC xd hB hF (by omega) hUn hU0 (by omega) (by omega) hBI hm k6 m6 ((aL _).trans (aL _)) (by omega) (by omega) (by omega) (fun x hx => ?_) (fun x => ?_) (fun x hx => ?_) (fun x => ?_) fun w8 hw8 => ?_
   ·rw [← hOD]
    refine ⟨_,(aL _).cell (aA (aD _) (by omega) |>.trans (Array.getElem?_eq_getElem (show x < 12 from hx)))⟩
   ·rw [(aL _).frozen _ x (by rw [World.size_alloc]; omega),← hOD]
    exact dO (aD _) (by omega)
   ·rw [← hOE,aA (by rw [z7]; omega) (by rw [z7]; omega)]
    rcases (by omega:x=0∨x=1∨x=2) with rfl | rfl | rfl <;> rfl
   ·rw [← hOE]
    exact dO (by rw [z7]; omega) (by rw [z7]; omega)
   refine al ?_
   refine hw8 _ fun d2 w2 v g2 s2 => ?_
   refine al ?_
   exact hk d2 w2 v g2 s2
 ·
  generalize hO2:Obj.cells _ 165=O2
  obtain ⟨Bf,hBe⟩:∃ b,b=wc.heap.size:=⟨_,rfl⟩
  (try rw [← hBe])
  have hBU:U+1≤Bf:=by omega
  have hBn:BO7 dc (wc.alloc O2) Bf:=by
   rw [hBe,← hO2]
   exact ⟨fun x hx=>by (rcases hx with rfl | rfl | rfl | rfl <;> exact aA (aD _) (by omega)),aA (aD _) (by omega),aA (aD _) (by omega),fun x=>by simp (disch:=first | exact dZ | fail) only [go_sem],t.j.out (aD _)⟩
  have g:Gr dc wc dc (wc.alloc O2):=Gr.ext t.j (aL _)
  (try have hBI:∀ x ∈ Ls,x.I≠Bf:=fun x hx=>by have:=(hF.2.at_ x hx).2.2.2.2; omega)
  have hBl:Bf < (wc.alloc O2).heap.size:=by rw [World.size_alloc]; omega
  have t:=t.trans g
  have hz:=aU hz g.x.size
  have hU:=hU.gr g
  have hC:=hC.gr g
  have hs:=hs.inc dJ g.i
  have c0:=t.j _ _ _ hC.1
  have c1:=t.j _ _ _ hC.2.1
  (try have hA:=g.i _ _ _ hA)
  (try have hL:=g.i _ _ _ hL)
  (try have xd:=xd.inc g.i)
  (try have hB:=hB.gr g)
  (try have hBl:=aI hBl g.x.size)
  (try have hF:=hF.gr g)
  have hB:=hBn
  obtain ⟨wd,hwd⟩:∃ wd,wd=wc.alloc O2:=⟨_,rfl⟩
  rw [← hwd] at t hz hU hB hBl c0 c1 ⊢
  (try rw [← hwd] at hF)
  refine dV @c0 @c1 ?_
  refine sZ t.j fun dc wc LB AB g hA0 hL0 => ?_
  have t:=t.trans g
  have hz:=aU hz g.x.size
  have hU:=hU.gr g
  have hC:=hC.gr g
  have hs:=hs.inc dJ g.i
  have c0:=t.j _ _ _ hC.1
  have c1:=t.j _ _ _ hC.2.1
  (try have hA:=g.i _ _ _ hA)
  (try have hL:=g.i _ _ _ hL)
  (try have xd:=xd.inc g.i)
  (try have hB:=hB.gr g)
  (try have hBl:=aI hBl g.x.size)
  (try have hF:=hF.gr g)
  have hA:=hA0
  have hL:=hL0
  refine dV @c0 @c1 ?_
  refine qK t.j hs hsl hA hL fun dc wc XB SB QB g xd0 => ?_
  have t:=t.trans g
  have hz:=aU hz g.x.size
  have hU:=hU.gr g
  have hC:=hC.gr g
  have hs:=hs.inc dJ g.i
  have c0:=t.j _ _ _ hC.1
  have c1:=t.j _ _ _ hC.2.1
  (try have hA:=g.i _ _ _ hA)
  (try have hL:=g.i _ _ _ hL)
  (try have xd:=xd.inc g.i)
  (try have hB:=hB.gr g)
  (try have hBl:=aI hBl g.x.size)
  (try have hF:=hF.gr g)
  have xd:=xd0
  refine dV @c0 @c1 ?_
  obtain ⟨nF,hnF⟩:∃ n,n=wc.heap.size:=⟨_,rfl⟩
  have hUn:U < nF:=by omega
  refine df (hv.inc jx.mono t.i) (by have:=r.n10; omega) hlen t.j fun dc wc fv Ls g f1 f2 hm => ?_
  rw [← hnF] at f2
  (try have hBl:Bf < nF:=by omega)
  (try have hBI:∀ x ∈ Ls,x.I≠Bf:=fun x hx=>by have:=(f2.at_ x hx).2.2.2.1; omega)
  have t:=t.trans g
  have hz:=aU hz g.x.size
  have hU:=hU.gr g
  have hC:=hC.gr g
  have hs:=hs.inc dJ g.i
  have c0:=t.j _ _ _ hC.1
  have c1:=t.j _ _ _ hC.2.1
  (try have hA:=g.i _ _ _ hA)
  (try have hL:=g.i _ _ _ hL)
  (try have xd:=xd.inc g.i)
  (try have hB:=hB.gr g)
  (try have hBl:=aI hBl g.x.size)
  (try have hF:=hF.gr g)
  have hF:kO nF dc wc fv Ls:=⟨f1,f2⟩
  refine dV @c0 @c1 ?_
  have hn:Ls.length≤10:=by have:=r.n10; rw [← hm,ah] at this; exact this
  refine kK hF.1 t.j hU.o hB.o hn (by omega) (fun x _ h=>hU.c x (by omega)) hU.f (hB.c 1 (by omega)) hB.c2 (hB.c 4 (by omega)) hB.f fun w6 k6 m6 => ?_
  refine al ?_
  generalize hOD:Obj.cells _ 151=OD
  generalize hOE:Obj.cells _ 168=OE
  have z7:(w6.alloc OD).heap.size=w6.heap.size+1:=World.size_alloc _ _
  (try rw [z7])
  refine A5 (w7:=(w6.alloc OD).alloc OE) (D:=w6.heap.size) (E:=w6.heap.size+1) r t hU hC xd hB hF (by omega) hUn hU0 (by omega) (by omega) hBI hm k6 m6 ((aL _).trans (aL _)) (by omega) (by omega) (by omega) (fun x hx => ?_) (fun x => ?_) (fun x hx => ?_) (fun x => ?_) fun w8 hw8 => ?_
  ·rw [← hOD]
   refine ⟨_,(aL _).cell (aA (aD _) (by omega) |>.trans (Array.getElem?_eq_getElem (show x < 12 from hx)))⟩
  ·rw [(aL _).frozen _ x (by rw [World.size_alloc]; omega),← hOD]
   exact dO (aD _) (by omega)
  ·rw [← hOE,aA (by rw [z7]; omega) (by rw [z7]; omega)]
   rcases (by omega:x=0∨x=1∨x=2) with rfl | rfl | rfl <;> rfl
  ·rw [← hOE]
   exact dO (by rw [z7]; omega) (by rw [z7]; omega)
  refine al ?_
  refine hw8 _ fun d2 w2 v g2 s2 => ?_
  refine al ?_
  exact hk d2 w2 v g2 s2
end
end Go.Proofs
end
section
namespace Go.E
open Go Go.Sort Go.Proofs
theorem CX {sz:Nat} {css:List (List Value)} (h:∀ cs ∈ css,cs.length=sz) {i j:Nat} {cs:List Value} {u:Value} (hi:css[i]? = some cs) (hj:j < sz):css.flatten.set (i * sz+j) u=(css.set i (cs.set j u)).flatten:=by
 induction css generalizing i with
 | nil=>simp at hi
 | cons c css ih =>
  have h1:=h c aR
  cases i with
  | zero =>
   simp only [List.getElem?_cons_zero,aK] at hi
   subst hi
   rw [Nat.zero_mul,Nat.zero_add,List.flatten_cons,List.set_append_left _ _ (by omega),List.set_cons_zero,List.flatten_cons]
  | succ i =>
   rw [List.getElem?_cons_succ] at hi
   rw [List.flatten_cons,List.set_append_right _ _ (by rw [h1,Nat.add_mul]; omega),h1,show (i+1) * sz+j - sz=i * sz+j by rw [Nat.add_mul]; omega,List.set_cons_succ,List.flatten_cons,ih (fun cs hcs=>h cs (aj _ hcs)) hi]
section
variable {α:Type} {R:gN α} {sz:Nat} {el:TypeId} {d w d1 w1:World} {l:List α} {g n c:Nat}
theorem LoopL.set1 (h:LoopL R sz el d w d1 w1 (.slice (some ⟨g,0,none⟩) n c) l) (hn:l.length=n) {i j:Nat} {y y2:α} {u:Value} (hi:l[i]? = some y) (hj:j < sz) (hR:∀ cs,R d1 cs y→R d1 (cs.set j u) y2) :
    LoopL R sz el d w d1 (w1.setCell ⟨g,i * sz+j,none⟩ u) (.slice (some ⟨g,0,none⟩) n c) (l.set i y2):=by
 obtain ⟨css,o⟩:=h.o
 subst hn
 have hg:=h.n g rfl
 have ho:=o.out g rfl
 have hlt:=(aP.1 hi).1
 obtain ⟨cs,hcs⟩:∃ cs,css[i]? = some cs:=⟨_,aC (by rw [o.len]; exact hlt)⟩
 refine ⟨⟨bX h.g.x hg,h.g.i,fun b o2 u2 hu => ?_,h.g.o⟩,⟨css.set i (cs.set j u),?_,?_,?_,?_,o.out⟩,h.n⟩
 ·refine (Keep.set (b:=g) (o:=i * sz+j) (v:=u) (Keep.refl (M:=fun b _=>b=g) w1) fun _=>rfl).some (h.g.j _ _ _ hu) fun hb => ?_
  subst hb
  rw [ho o2] at hu
  simp at hu
 ·rw [bk,bk,o.len]
 ·have:=bp o.own (i * sz+j) u
  rw [CX o.sz hcs hj] at this
  rw [bk]
  exact this
 ·intro x hx
  rcases List.mem_or_eq_of_mem_set hx with hx | rfl
  ·exact o.sz x hx
  ·rw [bk]; exact o.sz cs (aJ hcs)
 ·intro q x cs2 hx hc
  by_cases hq:q=i
  ·subst hq
   rw [List.getElem?_set_self hlt] at hx
   rw [List.getElem?_set_self (by rw [o.len]; exact hlt)] at hc
   simp only [aK] at hx hc
   subst hx hc
   exact hR cs (o.R q y cs hi hcs)
  ·rw [List.getElem?_set_ne (Ne.symm hq)] at hx hc
   exact o.R q x cs2 hx hc
theorem LoopL.at (h:LoopL R sz el d w d1 w1 (.slice (some ⟨g,0,none⟩) n c) l) (hn:l.length=n) {i:Nat} {x:α} (hi:l[i]? = some x):∃ cs,R d1 cs x∧∀ j u,cs[j]? = some u→w1.cell? ⟨g,i * sz+j,none⟩=some u:=by
 obtain ⟨css,o⟩:=h.o
 subst hn
 have hlt:=(aP.1 hi).1
 obtain ⟨cs,hcs⟩:∃ cs,css[i]? = some cs:=⟨_,aC (by rw [o.len]; exact hlt)⟩
 exact ⟨cs,o.R i x cs hi hcs,fun j u hu=>o.cell hcs hu⟩
theorem LoopL.frozen (h:LoopL R sz el d w d1 w1 (.slice (some ⟨g,0,none⟩) n c) l) (o:Nat):w1.frozen? ⟨g,o,none⟩=false:=by
 obtain ⟨css,oo⟩:=h.o
 exact cS oo.own rfl o
theorem LoopL.block {v:Value} (h:LoopL R sz el d w d1 w1 v l) {i:Nat} (hi:i < l.length):∃ g c,v = .slice (some ⟨g,0,none⟩) l.length c:=by
 obtain ⟨css,o⟩:=h.o
 rcases cY o.own with ⟨rfl,h0,_⟩ | ⟨g,cap,rfl,_,hg⟩
 ·omega
 ·exact ⟨g,cap,rfl⟩
end
end Go.E
namespace Go.Proofs
open Go Go.E Go.Sort
section
variable {k:aq} {d w:World}
end
end Go.Proofs
end
section
namespace Go.E
open Go Go.Sort Go.Proofs Go.Proofs.Tryz
theorem HV {w:World} {v:Value} {l:List K} (h:Sl KE 3 w v l):∀ x ∈ l,x.tr < 18446744073709551616:=fun x hx=>by
 obtain ⟨i,hi,rfl⟩:=aV hx
 obtain ⟨g,f,c,_,_,hat⟩:=h.at (by omega)
 exact (eW (hat i _ (aC hi))).2.2.2
end Go.E
namespace Go.Proofs
open Go Go.E Go.Sort Go.Proofs.Tryz
section
variable {k:aq} {d w:World}
theorem sy {v:Value} {l:List Sp} (hv:Sl dY 3 d v l) (hl:l.length≤100000) (hks:∀ x ∈ l,x.ks.length < 100000) (hinc:bz d w) (hk:∀ d' w' v',Gr d w d' w'→Sl dY 3 d' v' (l.map (iE cH))→k v' w'):aX prog 81 #[v] k w:=by
 obtain ⟨ka,kc,rfl⟩:=hv.form
 refine ai [.tmp 2] func81 ?_
 refine al ?_
 refine bO (fun b:Nat × Value=>[(3,b.2),(6,.slice ka l.length kc),(7,.int .i64 l.length),(8,.int .i64 b.1)])
  (fun b w'=>b.1≤l.length∧∃ d1,LoopL dY 3 46 d w d1 w' b.2 ((l.take b.1).map (iE cH))) (fun b _=>l.length - b.1) (0,.slice none 0 0) (by kernel_rfl) ?_ ⟨aQ _,d,LoopL.nil hinc⟩ ?_
 ·exact bE
 rintro K2 e ⟨i,vo⟩ w1 ⟨i2,d1,i3⟩ hK2
 simp only at i2 i3
 rcases aH i l.length with hi | hi
 rotate_left
 ·have hi':¬ (i:Int) < l.length:=by omega
  refine bf @hi' ?_
  obtain rfl:i=l.length:=by omega
  rw [aT] at i3
  obtain ⟨d4,g4,_,_,s4⟩:=i3.done dY.mono
  exact hk d4 w1 vo g4 s4
 have hi':(i:Int) < l.length:=by omega
 obtain ⟨g,f,c,hv',hc,hat⟩:=(hv.inc dY.mono (i3.g.i.trans i3.g.j)).at (by omega)
 obtain ⟨rfl,rfl⟩:=sEq hv'
 obtain ⟨x,hx⟩:=gEl hi
 have hxl:=hks x (aJ hx)
 obtain ⟨h0,h1,a,cc,h2,hkx⟩:=dI (hat i x hx)
 have hke:=HV hkx
 obtain ⟨B,hB⟩:∃ B,B=w1.heap.size:=⟨_,rfl⟩
 obtain ⟨w4,hw4⟩:∃ w4,w4=w1.alloc (.cells #[.string ⟨x.s.toArray⟩,.string ⟨x.e.toArray⟩,.slice a x.ks.length cc] 46):=⟨_,rfl⟩
 have x4:bY w1 w4:=by rw [hw4]; exact aL _
 have z4:w4.heap.size=B+1:=by rw [hw4,hB,World.size_alloc]
 have c0:w4.cell? ⟨B,0,none⟩=some (.string ⟨x.s.toArray⟩):=by rw [hw4,hB]; exact bb @aA
 have c1:w4.cell? ⟨B,1,none⟩=some (.string ⟨x.e.toArray⟩):=by rw [hw4,hB]; exact bb @aA
 have c2:w4.cell? ⟨B,2,none⟩=some (.slice a x.ks.length cc):=by rw [hw4,hB]; exact bb @aA
 have f4:∀ y,w4.frozen? ⟨B,y,none⟩=false:=fun y=>by rw [hw4,hB]; exact bb @cy
 refine fW @hi' @h0 @h1 @h2 ?_
 rw [← hw4,← hB]
 refine qL (hkx.inc KE.mono x4.inc) (by omega) fun v5 w5 x5 o5 n5 => ?_
 have hB4:=aE c0
 have f5:∀ y,w5.frozen? ⟨B,y,none⟩=false:=fun y=>by rw [x5.frozen _ y hB4]; exact f4 y
 have c0:=x5.cell c0
 have c1:=x5.cell c1
 have c2:=x5.cell c2
 obtain ⟨va,vc,rfl,_⟩:=o5.form
 refine dV @c2 @f5 ?_
 obtain ⟨w6,hw6⟩:∃ w6,w6=w5.setCell ⟨B,2,none⟩ (.slice va (cH x.ks).length vc):=⟨_,rfl⟩
 rw [← hw6]
 have x6:bY w1 w6:=by rw [hw6]; exact bX (x4.trans x5) (by omega)
 have k6:Keep (fun b y=>b=B∧y=2) w5 w6:=by rw [hw6]; exact bR ⟨rfl,rfl⟩
 have e0:=k6.some c0 (by omega)
 have e1:=k6.some c1 (by omega)
 have e2:w6.cell? ⟨B,2,none⟩=some (.slice va (cH x.ks).length vc):=by rw [hw6,cC,c2]; rfl
 have o6:=o5.keep k6 fun g hg o h=>by have:=n5 g hg; omega
 obtain ⟨d5,g5,e5⟩:=nN i3.g.j x6
 have i6:=i3.call dY.mono g5
 have hsl:Sl KE 3 d5 (.slice va (cH x.ks).length vc) (cH x.ks):=o6.slg (fun y hy=>⟨rfl,hke y ((cT _).mem_iff.1 hy)⟩) fun g hg o u hu=>e5 _ _ _ (by have:=n5 g hg; omega) hu
 obtain ⟨vo1,vo2,rfl,_⟩:=i6.form
 obtain ⟨css,oo⟩:=i6.o
 refine gH @c0 @c1 @e0 @e1 @e2 ?_
 refine jI (iE cH x) [.string ⟨x.s.toArray⟩,.string ⟨x.e.toArray⟩,.slice va (cH x.ks).length vc] rw28 oo ⟨_,rfl,hsl⟩ rfl (.inl rfl) rfl rfl (by simp [Value.oneCell']) (by rw [ah,dB i2]; omega) i6.g.j fun v8 w8 o8 k8 n8 j8 _ => ?_
 refine al ?_
 refine hK2 _ _ (i+1,v8) ?_ ⟨hi,d5,by simp only; rw [bn hx,bC]; exact i6.more o8 k8 n8 j8⟩ (by simp only; omega)
 exact bE
theorem mN {v:Value} {l:List Sp} (hv:Sl dY 3 d v l) (hl:l.length≤100000) (hks:∀ x ∈ l,x.ks.length≤2147483647) (hne:∀ x ∈ l,x.ks≠[]) (hinc:bz d w) (hk:∀ d' w' v',Gr d w d' w'→Sl dY 3 d' v' (l.foldl ee [])→k v' w'):aX prog 49 #[v] k w:=by
 obtain ⟨ka,kc,rfl⟩:=hv.form
 refine ai [.tmp 2] func49 ?_
 refine al ?_
 refine bO (fun b:Nat × Value=>[(3,b.2),(7,.slice ka l.length kc),(8,.int .i64 l.length),(9,.int .i64 b.1)])
  (fun b w'=>b.1≤l.length∧∃ d1,LoopL dY 3 46 d w d1 w' b.2 ((l.take b.1).foldl ee [])) (fun b _=>l.length - b.1) (0,.slice none 0 0) (by kernel_rfl) ?_ ⟨aQ _,d,LoopL.nil hinc⟩ ?_
 ·exact bE
 rintro K2 e ⟨i,vo⟩ w1 ⟨i2,d1,i3⟩ hK2
 simp only at i2 i3
 rcases aH i l.length with hi | hi
 rotate_left
 ·have hi':¬ (i:Int) < l.length:=by omega
  refine bf @hi' ?_
  obtain rfl:i=l.length:=by omega
  rw [aT] at i3
  obtain ⟨d4,g4,_,_,s4⟩:=i3.done dY.mono
  exact hk d4 w1 vo g4 s4
 have hi':(i:Int) < l.length:=by omega
 obtain ⟨g,f,c,hv',hc,hat⟩:=(hv.inc dY.mono i3.g.i).at (by omega)
 obtain ⟨rfl,rfl⟩:=sEq hv'
 obtain ⟨x,hx⟩:=gEl hi
 have hxm:=aJ hx
 have hxl:=hks x hxm
 have hxn:=hne x hxm
 obtain ⟨h0,h1,a,cc,h2,hkx⟩:=dI (hat i x hx)
 have h0:=i3.g.j _ _ _ h0
 have h1:=i3.g.j _ _ _ h1
 have h2:=i3.g.j _ _ _ h2
 obtain ⟨out,hout⟩:∃ out,out=(l.take i).foldl ee []:=⟨_,rfl⟩
 have hol:out.length≤i:=by
  have:=wU (l.take i) []
  rw [hout]
  rw [dB i2] at this
  simpa using this
 have more:(l.take (i+1)).foldl ee []=ee out x:=by
  rw [bn hx,List.foldl_append,← hout]
  rfl
 rw [← hout] at i3
 obtain ⟨B,hB⟩:∃ B,B=w1.heap.size:=⟨_,rfl⟩
 obtain ⟨w6,hw6⟩:∃ w6,w6=w1.alloc (.cells #[.string ⟨x.s.toArray⟩,.string ⟨x.e.toArray⟩,.slice a x.ks.length cc] 46):=⟨_,rfl⟩
 have x6:bY w1 w6:=by rw [hw6]; exact aL _
 have c0:w6.cell? ⟨B,0,none⟩=some (.string ⟨x.s.toArray⟩):=by rw [hw6,hB]; exact bb @aA
 have c1:w6.cell? ⟨B,1,none⟩=some (.string ⟨x.e.toArray⟩):=by rw [hw6,hB]; exact bb @aA
 have c2:w6.cell? ⟨B,2,none⟩=some (.slice a x.ks.length cc):=by rw [hw6,hB]; exact bb @aA
 have i6:=i3.ext dY.mono x6
 refine fW @hi' @h0 @h1 @h2 ?_
 rw [← hw6,← hB]
 rcases List.eq_nil_or_concat out with rfl | ⟨o',y,hoy⟩
 ·obtain ⟨vo1,vo2,rfl,_⟩:=i6.form
  have hj0:ee [] x=[]++[x]:=rfl
  have hneg:¬ (0:Int)≤((0:Nat):Int) - 1:=by omega
  simp (disch:=first | exact dZ | fail) only [go_sem,List.length_nil]
  refine ay (sq [0,1,2,3,4,5,6] (.read 7 (sq [8] (.read 9 (sq [10,11,12,13,14,15,16] (.read 17 (sq [18] (.read 19 (.eff 20 [] (sq [21] .done)))))))))) ?_
  refine fW @hneg @c0 @c1 @c2 ?_
  have iA:=i6.ext dY.mono (bY.drew' (bY.refl w6))
  obtain ⟨css,oo⟩:=iA.o
  refine jI x [.string ⟨x.s.toArray⟩,.string ⟨x.e.toArray⟩,.slice a x.ks.length cc] rw28 oo ⟨_,rfl,hkx⟩ rfl (.inl rfl) rfl rfl (by simp [Value.oneCell']) (by omega) iA.g.j fun v8 w8 o8 k8 n8 j8 _ => ?_
  refine al ?_
  refine hK2 _ _ (i+1,v8) ?_ ⟨hi,d1,by simp only; rw [more,hj0]; exact iA.more o8 k8 n8 j8⟩ (by simp only; omega)
  exact bE
 obtain rfl:out=o'++[y]:=by rw [hoy,List.concat_eq_append]
 have hol2:(o'++[y]).length=o'.length+1:=by simp
 obtain ⟨vg,vcap,rfl⟩:=i6.block (i:=0) (by omega)
 have hlast:(o'++[y])[o'.length]? = some y:=by rw [bP (aD _),Nat.sub_self]; rfl
 obtain ⟨cs,⟨ykv,rfl,hyk⟩,hcs⟩:=i6.at rfl hlast
 obtain ⟨yka,ykc,rfl⟩:=hyk.form
 have y1:=hcs 1 _ rfl
 have y2:=hcs 2 _ rfl
 simp only [str] at y1 y2
 have hgl:(o'++[y]).getLast? = some y:=by simp
 have hn1:((o'++[y]).length:Int) - 1=o'.length:=by omega
 have hge:(0:Int)≤(o'.length:Nat):=by omega
 have hlt:((o'.length:Nat):Int) < (o'++[y]).length:=by omega
 have hJ:ee (o'++[y]) x=if y.e=x.s∧x.ks≠[]∧y.ks=x.ks then (o'++[y]).dropLast++[⟨y.s,x.e,y.ks⟩] else (o'++[y])++[x]:=by
  unfold ee
  rw [hgl]
 refine al ?_
 refine ay (sq [0,1,2,3,4,5,6] (.read 7 (sq [8] (.read 9 (sq [10,11,12,13,14,15,16] (.read 17 (sq [18] (.read 19 (.eff 20 [] (sq [21] .done)))))))))) ?_
 by_cases r1:y.e=x.s
 rotate_left
 ·have hj0:=hJ.trans (if_neg fun h=>r1 h.1)
  refine xT @hn1 @hge @hlt @y1 @y2 @c0 @c1 @c2 @r1 ?_
  have iA:=i6.ext dY.mono (bY.drew' (bY.refl w6))
  obtain ⟨css,oo⟩:=iA.o
  refine jI x [.string ⟨x.s.toArray⟩,.string ⟨x.e.toArray⟩,.slice a x.ks.length cc] rw28 oo ⟨_,rfl,hkx⟩ rfl (.inl rfl) rfl rfl (by simp [Value.oneCell']) (by omega) iA.g.j fun v8 w8 o8 k8 n8 j8 _ => ?_
  refine al ?_
  refine hK2 _ _ (i+1,v8) ?_ ⟨hi,d1,by simp only; rw [more,hj0]; exact iA.more o8 k8 n8 j8⟩ (by simp only; omega)
  exact bE
 have xd:=bY.drew' (bY.refl w6)
 refine xT @hn1 @hge @hlt @y1 @y2 @c0 @c1 @c2 @r1 ?_
 refine wV ((hyk.inc KE.mono i6.g.j).inc KE.mono xd.inc) (((hkx.inc KE.mono i3.g.j).inc KE.mono x6.inc).inc KE.mono xd.inc) hxl fun w7 x7 => ?_
 have x67:=xd.trans x7
 have c0:=x67.cell c0
 have c1:=x67.cell c1
 have c2:=x67.cell c2
 have y1:=x67.cell y1
 have y2:=x67.cell y2
 by_cases r3:y.ks=x.ks
 rotate_left
 ·have hj0:=hJ.trans (if_neg fun h=>r3 h.2.2)
  rw [aF r3]
  refine gH @c0 @c1 @c2 @y1 @y2 ?_
  have iA:=i6.ext dY.mono (x67)
  obtain ⟨css,oo⟩:=iA.o
  refine jI x [.string ⟨x.s.toArray⟩,.string ⟨x.e.toArray⟩,.slice a x.ks.length cc] rw28 oo ⟨_,rfl,hkx⟩ rfl (.inl rfl) rfl rfl (by simp [Value.oneCell']) (by omega) iA.g.j fun v8 w8 o8 k8 n8 j8 _ => ?_
  refine al ?_
  refine hK2 _ _ (i+1,v8) ?_ ⟨hi,d1,by simp only; rw [more,hj0]; exact iA.more o8 k8 n8 j8⟩ (by simp only; omega)
  exact bE
 have hj1:=hJ.trans (if_pos ⟨r1,hxn,r3⟩)
 have hset:(o'++[y]).dropLast++[⟨y.s,x.e,y.ks⟩]=(o'++[y]).set o'.length ⟨y.s,x.e,y.ks⟩:=by
  rw [List.dropLast_concat,List.set_append_right _ _ (aD _),Nat.sub_self]
  rfl
 rw [aO r3]
 have i7:=i6.ext dY.mono x67
 have fz:=i7.frozen
 refine xT @c0 @c1 @c2 @hn1 @hge @hlt @y1 @y2 @fz ?_
 refine hK2 _ _ (i+1,.slice (some ⟨vg,0,none⟩) (o'++[y]).length vcap) ?_ ⟨hi,d1,?_⟩ (by simp only; omega)
 ·exact bE
 ·simp only
  rw [more,hj1,hset]
  exact i7.set1 rfl hlast (j:=1) (by decide) fun cs ⟨kv,h1,h2⟩=>⟨kv,by rw [h1]; rfl,h2⟩
end
end Go.Proofs
end
section
namespace Go.E
open Go Go.Sort Go.Proofs
end Go.E
end
section
namespace Go.E
open Go Go.Sort Go.Proofs
section
variable {Lv:List (List Sp)} {n snap:Nat}
theorem Fy {l:List Sp} {sp:Sp} {x:K} (hs:sp ∈ l) (hne:sp.s < sp.e) (hx:x ∈ sp.ks):x ∈ iD l sp.s:=by
 unfold iD
 refine db.2 ⟨sp,hs,?_⟩
 rw [if_pos (show fA sp.s sp=true from aO ⟨bU _,hne⟩)]
 exact hx
theorem LvOk.all (h:LvOk Lv n) {L:List Sp} (hL:L ∈ Lv) {sp:Sp} (hs:sp ∈ L) {x:K} (hx:x ∈ sp.ks):∃ ks,mI ks∧x ∈ ks:=by
 have hw:=h.wf L hL
 obtain ⟨j,hj,e⟩:=aV hs
 have hlt:sp.s < sp.e:=by
  have:=hw.1 j hj
  rwa [aG L j hj,e] at this
 have hm:=Fy (cQ.2 ⟨L,hL,hs⟩) hlt hx
 have hB:=iS h.wf
 have hf:=mG h.wf sp.s (uE (bH Lv.flatten) sp.s) fun i hi=>Dp hB hi sp.s
 rw [← hf] at hm
 have hcv:py Lv.length (de Lv) (bH Lv.flatten) (uE (bH Lv.flatten) sp.s)=true:=by
  unfold cM at hm
  obtain ⟨i,hi,hx⟩:=db.1 hm
  split at hx
  ·rename_i hc; exact ma.2 ⟨i,List.mem_range.1 hi,hc⟩
  ·simp at hx
 have hF:(⟨(bH Lv.flatten)[uE (bH Lv.flatten) sp.s - 1]!,(bH Lv.flatten)[uE (bH Lv.flatten) sp.s]!,cH (cM Lv.length (de Lv) (bH Lv.flatten) (uE (bH Lv.flatten) sp.s))⟩:Sp) ∈ dq Lv.flatten:=by
  rw [pM h.wf fun L hL s hs=>(h.ks L hL s hs).1,bV]
  exact ⟨_,eJ.2 ⟨Ac _ _,hcv⟩,rfl⟩
 exact ⟨_,h.rk _ hF,(cT _).mem_iff.2 hm⟩
theorem LvOk.d9 (h:LvOk Lv n) (u:Nat):∀ x ∈ cM Lv.length (de Lv) (bH Lv.flatten) u,an x.tr=19→x.suf=[]:=fun x hx=>by
 obtain ⟨i,hi,sp,hsp,hk⟩:=kJ hx
 unfold de at hsp
 rw [aG Lv i hi] at hsp
 obtain ⟨ks,h1,h2⟩:=h.all (aS hi) hsp hk
 exact (h1.1 x h2).2.1
end
end Go.E
end
section
namespace Go.E
open Go Go.Sort Go.Proofs
theorem AJ {V:List Sp} (h:Ch V) (φ:List K→List K):Ch (V.map (iE φ)):=by
 refine ⟨fun s hs => ?_,?_⟩
 ·obtain ⟨t,ht,rfl⟩:=bV.1 hs
  exact h.1 t ht
 ·rw [List.pairwise_map]
  exact h.2
theorem Fz {V:List Sp} (h:Ch V):Ch (eu V):=⟨fun s hs=>h.1 s (aN.1 hs).1,h.2.filter _⟩
theorem El {F:List Sp} (h:Ch F) (x:Bytes):iD F x=cu id F x:=by
 induction F with
 | nil=>rfl
 | cons a F ih =>
  have hF:Ch F:=⟨fun s hs=>h.1 s (aj _ hs),h.2.of_cons⟩
  rw [yW]
  by_cases hx:¬ x < a.s∧x < a.e
  ·rw [if_pos (jZ.2 hx),gE hx.1 hx.2,List.map_id]
   have:iD F x=[]:=sj fun s hs=>by
    have h2:=bF h.2 hs
    cases hc:fA x s with
    | false=>rfl
    | true =>
     have h3:=(jZ.1 hc).1
     exact absurd (ct h3 hx.2) h2
   rw [this,au]
  ·have hf:fA x a=false:=by
     cases hc:fA x a with
     | false=>rfl
     | true=>exact absurd (jZ.1 hc) hx
   rw [hf,jM hx,ih hF]
   rfl
theorem s9 {φ:List K→List K} (h0:φ []=[]) (V:List Sp) (x:Bytes):cu id (V.map (iE φ)) x=φ (cu id V x):=by
 induction V with
 | nil=>exact h0.symm
 | cons a V ih =>
  rw [List.map_cons]
  by_cases hx:¬ x < a.s∧x < a.e
  ·rw [gE (a:=iE φ a) hx.1 hx.2,gE hx.1 hx.2,List.map_id,List.map_id]; rfl
  ·rw [jM (a:=iE φ a) hx,jM hx,ih]
theorem wg {β:Type} [DecidableEq β] {π:K→β} {G:List Sp} {s:Sp} (h:s ∈ Vw π G):(∃ j,j < G.length∧s.s=G[j]!.s∧s.ks=G[j]!.ks)∧∃ j,j < G.length∧s.e=G[j]!.e:=by
 obtain ⟨i,hi,rfl⟩:=aV h
 have hi2:i < (cr π G).length:=by rwa [dt] at hi
 rw [← aG (Vw π G) i hi,kF hi2]
 have h1:=(gF (π:=π) hi2).1
 obtain ⟨h3,h2⟩:=eA (π:=π) hi2
 exact ⟨⟨_,h1,rfl,rfl⟩,⟨iG π G i - 1,by omega,rfl⟩⟩
def yl (snaps:List Nat) (Lv:List (List Sp)):List Sp:=(eu ((wo snaps Lv).map (iE cH))).foldl ee []
section
variable {Lv:List (List Sp)} {snaps:List Nat}
theorem Em (hw:∀ L ∈ Lv,Wf L):Ch (wo snaps Lv):=sX.1 (uo (uR (iS hw)))
theorem AK:yl snaps Lv=Vw id (eu ((wo snaps Lv).map (iE cH))):=Fv _
theorem En (hw:∀ L ∈ Lv,Wf L):Ch (eu ((wo snaps Lv).map (iE cH))):=Fz (AJ (Em hw) _)
theorem tA (hw:∀ L ∈ Lv,Wf L):Ch (yl snaps Lv):=by
 rw [AK]
 exact sX.1 (uo (sX.2 (En hw)))
theorem wh (hw:∀ L ∈ Lv,Wf L) (x:Bytes):iD (yl snaps Lv) x=cH (eH snaps.reverse (iD Lv.flatten x)):=by
 have e1:cu id (yl snaps Lv) x=cu id (eu ((wo snaps Lv).map (iE cH))) x:=by
  rw [AK]
  exact pP (sX.2 (En hw)) x
 have e2:cu id (eu ((wo snaps Lv).map (iE cH))) x=cu id ((wo snaps Lv).map (iE cH)) x:=nx (sX.2 (AJ (Em hw) _)) x
 have e3:cu id (wo snaps Lv) x=cu id (Fo snaps Lv) x:=pP (uR (iS hw)) x
 have e4:cu id (Fo snaps Lv) x=(eH snaps.reverse (iD Lv.flatten x)).map id:=ur (sR _) hw x
 rw [El (tA hw),e1,e2,s9 rfl,e3,e4,List.map_id]
theorem lH (hw:∀ L ∈ Lv,Wf L) {f:Sp} (hf:f ∈ yl snaps Lv):f.ks≠[]∧((∃ y ∈ Lv.flatten,f.s=y.s∨f.s=y.e)∧∃ y ∈ Lv.flatten,f.e=y.s∨f.e=y.e)∧∃ u,f.ks=cH (eH snaps.reverse (cM Lv.length (de Lv) (bH Lv.flatten) u)):=by
 have hB:=iS hw
 have hG:∀ j,j < (Fo snaps Lv).length→∃ u,0 < u∧u < (bH Lv.flatten).length∧(Fo snaps Lv)[j]! = jh (eH snaps.reverse) Lv.length (de Lv) (bH Lv.flatten) u:=fun j hj=>by
  rw [cX] at hj
  have e:(cP Lv.length (de Lv) (bH Lv.flatten))[j]? = some (cP Lv.length (de Lv) (bH Lv.flatten))[j]:=aC hj
  obtain ⟨h1,h2⟩:=eJ.1 (aS hj)
  obtain ⟨h3,h4⟩:=nt hB h1 h2
  exact ⟨_,h3,h4,ji e⟩
 have hb:∀ i,i < (bH Lv.flatten).length→∃ y ∈ Lv.flatten,(bH Lv.flatten)[i]! = y.s∨(bH Lv.flatten)[i]! = y.e:=fun i hi=>by
  rw [aG _ i hi]
  exact ((iR _).2 _).1 (aS hi)
 have hV:∀ g ∈ wo snaps Lv,((∃ y ∈ Lv.flatten,g.s=y.s∨g.s=y.e)∧∃ y ∈ Lv.flatten,g.e=y.s∨g.e=y.e)∧∃ u,g.ks=eH snaps.reverse (cM Lv.length (de Lv) (bH Lv.flatten) u):=fun g hg=>by
  obtain ⟨⟨j,hj,e1,e2⟩,j2,hj2,e3⟩:=wg hg
  obtain ⟨u,h1,h2,h3⟩:=hG j hj
  obtain ⟨u2,h4,h5,h6⟩:=hG j2 hj2
  rw [h3] at e1 e2
  rw [h6] at e3
  refine ⟨⟨?_,?_⟩,u,e2⟩
  ·rw [e1]; exact hb (u - 1) (by omega)
  ·rw [e3]; exact hb u2 h5
 have hS:∀ g ∈ eu ((wo snaps Lv).map (iE cH)),((∃ y ∈ Lv.flatten,g.s=y.s∨g.s=y.e)∧∃ y ∈ Lv.flatten,g.e=y.s∨g.e=y.e)∧g.ks≠[]∧∃ u,g.ks=cH (eH snaps.reverse (cM Lv.length (de Lv) (bH Lv.flatten) u)):=fun g hg=>by
  obtain ⟨h1,h2⟩:=aN.1 hg
  obtain ⟨t,ht,rfl⟩:=bV.1 h1
  obtain ⟨h3,u,h4⟩:=hV t ht
  exact ⟨h3,of_decide_eq_true h2,u,by show cH t.ks=_; rw [h4]⟩
 rw [AK] at hf
 obtain ⟨⟨j,hj,e1,e2⟩,j2,hj2,e3⟩:=wg hf
 have m1:=hS _ (aS hj)
 have m2:=hS _ (aS hj2)
 rw [aG _ j hj] at e1 e2
 rw [aG _ j2 hj2] at e3
 obtain ⟨⟨a1,_⟩,a2,u,a3⟩:=m1
 obtain ⟨⟨_,b1⟩,_⟩:=m2
 rw [← e1] at a1
 rw [← e2] at a2 a3
 rw [← e3] at b1
 exact ⟨a2,⟨a1,b1⟩,u,a3⟩
theorem FitOk.key (o:FitOk Lv snaps) (u:Nat):KO (cM Lv.length (de Lv) (bH Lv.flatten) u):=by
 refine ⟨o.lv.d9 u,fun x hx => ?_⟩
 obtain ⟨i,hi,sp,hsp,hk⟩:=kJ hx
 unfold de at hsp
 rw [aG Lv i hi] at hsp
 exact o.k55 sp (cQ.2 ⟨_,aS hi,hsp⟩) x hk
theorem FitOk.sin (o:FitOk Lv snaps) (f2:∀ x ∈ Lv,x.length≤2147483647∧∀ y ∈ x,rG y):SIn Lv:=by
 have r:=Ee (snap:=0) o.lv (by decide) (by decide) f2 qN
 exact ⟨r.n10,r.wf,r.len,r.cd,o.key⟩
theorem FitOk.v55 (o:FitOk Lv snaps) (x:Bytes):v55 (iD Lv.flatten x):=fun y hy=>by
 unfold iD at hy
 obtain ⟨f,hf,hy⟩:=db.1 hy
 split at hy
 ·exact o.k55 f hf y hy
 ·simp at hy
theorem FitOk.desc (o:FitOk Lv snaps):snaps.reverse.Pairwise fun a b=>b < a:=by
 rw [List.pairwise_reverse]
 exact o.rise
theorem FitOk.len (o:FitOk Lv snaps):∀ f ∈ yl snaps Lv,f.ks.length≤240:=fun f hf=>by
 obtain ⟨_,_,u,h⟩:=lH o.lv.wf hf
 rw [h,(cT _).length_eq]
 have h1:=jl snaps.reverse (cM Lv.length (de Lv) (bH Lv.flatten) u)
 have h2:=pQ (m:=40) (fun L hL s hs=>(o.lv.ks L hL s hs).2) (bH Lv.flatten) u
 have h3:=o.lv.n6
 have h4:Lv.length * 40≤6 * 40:=bK _ h3
 omega
theorem FitOk.v (o:FitOk Lv snaps) {s:Nat} (hs:s < 18446744073709551616) (f2:∀ x ∈ Lv,x.length≤2147483647∧∀ y ∈ x,rG y):VOk [yl snaps Lv] s:=by
 have hw:=o.lv.wf
 have hfl:=o.lv.flat
 have hch:=tA (snaps:=snaps) hw
 have hl:=z8 hch fun f hf=>(lH hw hf).2.1.1
 refine JP (l:=Lv.flatten) hch (fun f hf=>(lH hw hf).1) (fun x => ?_) (fun f hf=>(lH hw hf).2.1) (fun f hf k hk => ?_) (by omega) (fun f hf=>by have:=o.len f hf; omega) hs fun x hx => ?_
 ·rw [wh hw]
  exact Cd.perm (pY (o.lv.cd x)) (cT _).symm
 ·obtain ⟨_,_,u,h⟩:=lH hw hf
  rw [h,(cT _).mem_iff] at hk
  obtain ⟨i,hi,sp,hsp,hk⟩:=kJ (fT hk)
  unfold de at hsp
  rw [aG Lv i hi] at hsp
  exact ⟨sp,cQ.2 ⟨_,aS hi,hsp⟩,hk⟩
 ·obtain ⟨L,hL,hx⟩:=cQ.1 hx
  exact (f2 L hL).2 x hx
theorem FitOk.tf (o:FitOk Lv snaps) {s:Nat} (hs:s ∈ snaps∨s=72057594037927935) (x:Bytes):(Tf s (iD Lv.flatten x)).map K.sv=(Tf s (iD (yl snaps Lv) x)).map K.sv:=by
 rw [wh o.lv.wf,← JL (pY (o.lv.cd x)) (cT _).symm,Ax o.desc (o.lv.cd x) (o.v55 x)]
 rcases hs with h | h
 ·exact .inl (List.mem_reverse.2 h)
 ·refine .inr fun y hy => ?_
  have:=o.v55 x y hy
  unfold ef
  rw [h,decide_eq_true_eq]
  omega
end
end Go.E
end
section
namespace Go.E
open Go Go.Sort Go.Proofs Go.Proofs.Tryz
section
variable {Lv:List (List Sp)} {snaps:List Nat}
theorem CY (o:FitOk Lv snaps):(wo snaps Lv).length≤97∧∀ g ∈ wo snaps Lv,g.ks.length≤240:=by
 have hfl:=o.lv.flat
 have hb:=eT Lv.flatten
 have h1:(wo snaps Lv).length≤(Fo snaps Lv).length:=by
  rw [dt]
  unfold cr
  exact aU (az _ _) (by rw [List.length_range]; exact aD _)
 have h2:(Fo snaps Lv).length≤(bH Lv.flatten).length+1:=by
  rw [cX]
  unfold cP
  exact aU (az _ _) (by simp)
 refine ⟨by omega,fun g hg => ?_⟩
 obtain ⟨⟨j,hj,_,e2⟩,_⟩:=wg hg
 obtain ⟨u,_,e⟩:=rR hj
 rw [e2,e]
 have h1:=jl snaps.reverse (cM Lv.length (de Lv) (bH Lv.flatten) u)
 have h2:=pQ (m:=40) (fun L hL s hs=>(o.lv.ks L hL s hs).2) (bH Lv.flatten) u
 have h4:Lv.length * 40≤6 * 40:=bK _ o.lv.n6
 show (eH snaps.reverse (cM Lv.length (de Lv) (bH Lv.flatten) u)).length≤240
 omega
end
theorem HX {β:Type} [DecidableEq β] {π:K→β} (g:Sp):Vw π [g]=[g]:=by
 have h:cr π [g]=[0]:=by
  unfold cr
  have h0:gJ π [g] 0=true:=aO (Or.inl rfl)
  rw [show (List.range [g].length)=[0] from rfl,List.filter_cons_of_pos h0]
  rfl
 unfold Vw
 rw [h]
 rfl
theorem KV:SIn n9:=by
 refine ⟨Ei.n10,Ei.wf,Ei.len,Ei.cd,fun u=>⟨vA.d9 u,fun x hx => ?_⟩⟩
 obtain ⟨i,hi,sp,hsp,hk⟩:=kJ hx
 have hi:i < 1:=hi
 obtain rfl:i=0:=by omega
 have:sp=Ay:=by simpa [de,n9] using hsp
 subst this
 have:x=⟨277,[115],[]⟩:=by simpa [Ay] using hk
 subst this
 decide
theorem KW:∃ g,wo [] n9=[g]∧g.ks.length=1:=by
 have hc:cP n9.length (de n9) (bH n9.flatten)=[1]:=by decide +kernel
 have hf:cM n9.length (de n9) (bH n9.flatten) 1=[⟨277,[115],[]⟩]:=by decide +kernel
 refine ⟨jh (eH []) n9.length (de n9) (bH n9.flatten) 1,?_,?_⟩
 ·show Vw id (GL (eH []) n9.length (de n9) (bH n9.flatten))=_
  unfold GL
  rw [hc]
  exact HX _
 ·show (eH [] (cM n9.length (de n9) (bH n9.flatten) 1)).length=1
  rw [hf]
  have h1:=jl [] [(⟨277,[115],[]⟩:K)]
  have h2:(⟨277,[115],[]⟩:K) ∈ eH [] [(⟨277,[115],[]⟩:K)]:=by
   refine JM (s:=72057594037927935) .nil (fun x hx => ?_) (.inr fun y hy => ?_) aR (by decide) (by decide) fun y hy _ => ?_
   ·rw [ae.1 hx]; decide
   ·rw [ae.1 hy]; decide
   ·rw [ae.1 hy]
    exact ⟨fun h=>by simp [an] at h,fun _ _=>aD _⟩
  have h3:=List.length_pos_of_mem h2
  simp only [aY] at h1
  omega
end Go.E
namespace Go.Proofs
open Go Go.E Go.Sort Go.Proofs.Tryz
section
variable {k:aq} {d w:World}
theorem rJ (hk:k (.slice none 0 0) w):aX prog 53 #[.slice none 0 0] k w:=by
 refine ai [.tmp 2] func53 ?_
 refine al ?_
 refine bO (fun _:Unit=>[(3,.slice none 0 0),(7,.int .i64 ((0:Nat):Int)),(8,.int .i64 0)]) (fun _ w'=>w'=w) (fun _ _=>0) () (by kernel_rfl) ?_ rfl ?_
 ·exact bE
 rintro K e _ w1 rfl hK
 have z:¬ (0:Int) < ((0:Nat):Int):=by decide
 refine bf @z ?_
 exact hk
theorem tC {lv sv:Value} {Lv:List (List Sp)} {snaps:List Nat} (hv:Sl jx 1 d lv Lv) (hs:Sl Cj 1 d sv snaps) (o:FitOk Lv snaps) (f2:∀ x ∈ Lv,x.length≤2147483647∧∀ y ∈ x,rG y) (hinc:bz d w) (hk:∀ d' w' v',Gr d w d' w'→Sl dY 3 d' v' (yl snaps Lv)→k v' w') :
    aX prog 47 #[lv,sv,.bool true,.slice none 0 0] k w:=by
 obtain ⟨la,lc,rfl⟩:=hv.form
 obtain ⟨sa,sc,rfl⟩:=hs.form
 have lo:=o.lv
 obtain ⟨hw1,hw2⟩:=CY o
 refine ai [.tmp 8] func47 ?_
 refine al ?_
 refine pZ hv (by have:=lo.n6; omega) (fun x hx=>⟨by have:=lo.sz x hx; omega,fun y hy=>by have:=(lo.ks x hx y hy).2; omega⟩) hinc fun d1 w1 v1 g1 s1 => ?_
 refine al ?_
 refine rJ ?_
 refine al ?_
 refine mM s1 (hs.inc dJ g1.i) (by have:=o.n12; omega) g1.j (o.sin f2) fun d2 w2 v2 g2 s2 => ?_
 have g12:=g1.trans g2
 obtain ⟨a2,c2,rfl⟩:=s2.form
 refine al ?_
 refine ye s2 (by omega) (fun x hx=>by have:=hw2 x hx; omega) g12.j fun d3 w3 v3 g3 s3 => ?_
 have g13:=g12.trans g3
 refine al ?_
 refine sy s3 (by omega) (fun x hx=>by have:=hw2 x hx; omega) g13.j fun d4 w4 v4 g4 s4 => ?_
 have g14:=g13.trans g4
 obtain ⟨M,hM⟩:∃ M,M=(wo snaps Lv).map (iE cH):=⟨_,rfl⟩
 have hMl:M.length≤97:=by rw [hM,ah]; omega
 have hMk:∀ x ∈ M,x.ks.length≤240:=fun x hx=>by
  rw [hM] at hx
  obtain ⟨y,hy,rfl⟩:=bV.1 hx
  have:=hw2 y hy
  rw [show (iE cH y).ks=cH y.ks from rfl,(cT _).length_eq]
  exact this
 have hsk:yl snaps Lv=(M.filter gl).foldl ee []:=by rw [hM]; rfl
 rw [← hM] at s4
 rw [hsk] at hk
 obtain ⟨va,vc,rfl⟩:=s4.form
 refine al ?_
 refine bO (fun b:Nat × Value=>[(9,b.2),(20,.slice va M.length vc),(21,.int .i64 M.length),(22,.int .i64 b.1)])
  (fun b w'=>b.1≤M.length∧∃ d1,LoopL dY 3 46 d4 w4 d1 w' b.2 ((M.take b.1).filter gl)) (fun b _=>M.length - b.1) (0,.slice none 0 0) (by kernel_rfl) ?_ ⟨aQ _,d4,LoopL.nil g14.j⟩ ?_
 ·exact bE
 rintro K2 e ⟨i,vo⟩ w5 ⟨i2,d5,i3⟩ hK2
 simp only at i2 i3
 rcases aH i M.length with hi | hi
 rotate_left
 ·have hi':¬ (i:Int) < M.length:=by omega
  obtain rfl:i=M.length:=by omega
  rw [aT] at i3
  obtain ⟨d6,g6,_,_,s6⟩:=i3.done dY.mono
  have g16:=g14.trans g6
  have hfl:(M.filter gl).length≤M.length:=az _ _
  obtain ⟨wa,wc,rfl⟩:=s6.form
  refine bf @hi' ?_
  refine mN s6 (by omega) (fun x hx=>by have:=hMk x (aN.1 hx).1; omega) (fun x hx=>of_decide_eq_true (aN.1 hx).2) g16.j fun d7 w7 v7 g7 s7 => ?_
  refine al ?_
  exact hk d7 w7 v7 (g16.trans g7) s7
 have hi':(i:Int) < M.length:=by omega
 obtain ⟨g,f,c,hv',hc,hat⟩:=(s4.inc dY.mono i3.g.i).at (by omega)
 obtain ⟨rfl,rfl⟩:=sEq hv'
 obtain ⟨x,hx⟩:=gEl hi
 obtain ⟨h0,h1,a,cc,h2,hkx⟩:=dI (hat i x hx)
 have h0:=i3.g.j _ _ _ h0
 have h1:=i3.g.j _ _ _ h1
 have h2:=i3.g.j _ _ _ h2
 have hmore:(M.take (i+1)).filter gl=(M.take i).filter gl++if gl x then [x] else []:=by
  rw [bn hx,List.filter_append]
  cases h:gl x <;> simp [List.filter_cons,h]
 obtain ⟨T,hT⟩:∃ T,T=w5.heap.size:=⟨_,rfl⟩
 obtain ⟨w6,hw6⟩:∃ w6,w6=w5.alloc (.cells #[.string ⟨x.s.toArray⟩,.string ⟨x.e.toArray⟩,.slice a x.ks.length cc] 46):=⟨_,rfl⟩
 have x4:bY w5 w6:=by rw [hw6]; exact aL _
 have a0:w6.cell? ⟨T,0,none⟩=some (.string ⟨x.s.toArray⟩):=by rw [hw6,hT]; exact bb @aA
 have a1:w6.cell? ⟨T,1,none⟩=some (.string ⟨x.e.toArray⟩):=by rw [hw6,hT]; exact bb @aA
 have a2:w6.cell? ⟨T,2,none⟩=some (.slice a x.ks.length cc):=by rw [hw6,hT]; exact bb @aA
 have i5:=i3.ext dY.mono x4
 refine fW @hi' @h0 @h1 @h2 ?_
 rw [← hw6,← hT]
 by_cases hz:x.ks=[]
 ·have hz1:¬ (0:Int) < x.ks.length:=by rw [hz]; simp
  have hz2:gl x=false:=aF fun h=>h hz
  rw [hz2] at hmore
  refine dV @a2 @hz1 ?_
  refine hK2 _ _ (i+1,vo) ?_ ⟨hi,d5,?_⟩ (by simp only; omega)
  ·exact bE
  ·simp only
   rw [hmore,if_neg (by decide),au]
   exact i5
 ·have hz0:x.ks.length≠0:=fun h=>hz (ao.1 h)
  have hz1:(0:Int) < x.ks.length:=by omega
  have hz2:gl x=true:=aO hz
  rw [hz2] at hmore
  obtain ⟨css,o5⟩:=i5.o
  obtain ⟨wa,wcap,rfl,_⟩:=i5.form
  have hfl2:((M.take i).filter gl).length≤i:=by
   refine aU (az _ _) ?_
   rw [ar]; omega
  refine fW @a0 @a1 @a2 @hz1 ?_
  refine jI x [.string ⟨x.s.toArray⟩,.string ⟨x.e.toArray⟩,.slice a x.ks.length cc] rw28 o5 ⟨_,rfl,hkx⟩ rfl (.inl rfl) rfl rfl (by simp [Value.oneCell']) (by omega) i5.g.j fun v8 w8 o8 k8 n8 j8 _ => ?_
  refine al ?_
  refine hK2 _ _ (i+1,v8) ?_ ⟨hi,d5,?_⟩ (by simp only; omega)
  ·exact bE
  ·simp only
   rw [hmore,if_pos rfl]
   exact i5.more o8 k8 n8 j8
theorem vB (hinc:bz d w) (hk:∀ w2,bY w w2→k (.bool true) w2):aX prog 46 #[] k w:=by
 refine ai [.tmp 0] func46 ?_
 refine al ?_
 obtain ⟨A,hA⟩:∃ A,A=w.heap.size:=⟨_,rfl⟩
 obtain ⟨W,hW⟩:∃ W,W=(((w.alloc (.cells #[.int .u64 277,.string ⟨#[115]⟩,.string ByteArray.empty] 62)).alloc (.cells #[.string ⟨#[97]⟩,.string ⟨#[98]⟩,.slice (some ⟨w.heap.size,0,none⟩) 1 1] 56)).alloc (.cells #[.slice (some ⟨w.heap.size+1,0,none⟩) 1 1] 74)):=⟨_,rfl⟩
 have xW:bY w W:=by rw [hW]; exact ((aL _).trans (aL _)).trans (aL _)
 have k0:W.cell? ⟨A,0,none⟩=some (.int .u64 277):=by rw [hW,hA]; exact bb @aA
 have k1:W.cell? ⟨A,1,none⟩=some (.string ⟨#[115]⟩):=by rw [hW,hA]; exact bb @aA
 have k2:W.cell? ⟨A,2,none⟩=some (.string ByteArray.empty):=by rw [hW,hA]; exact bb @aA
 have s0:W.cell? ⟨A+1,0,none⟩=some (.string ⟨#[97]⟩):=by rw [hW,hA]; exact bb @aA
 have s1:W.cell? ⟨A+1,1,none⟩=some (.string ⟨#[98]⟩):=by rw [hW,hA]; exact bb @aA
 have s2:W.cell? ⟨A+1,2,none⟩=some (.slice (some ⟨A,0,none⟩) 1 1):=by rw [hW,hA]; exact bb @aA
 have l0:W.cell? ⟨A+1+1,0,none⟩=some (.slice (some ⟨A+1,0,none⟩) 1 1):=by rw [hW,hA]; exact bb @aA
 rw [← hW,← hA]
 obtain ⟨d4,g4,e4⟩:=nN hinc xW
 have sk:Sl KE 3 d4 (.slice (some ⟨A,0,none⟩) 1 1) [⟨277,[115],[]⟩]:=yZ (cs:=[.int .u64 277,str [115],str []]) rfl (fun j u hu=>by
  match j,hu with
  | 0,hu=>obtain rfl:=bQ hu; exact e4 _ _ _ (by omega) k0
  | 1,hu=>obtain rfl:=bQ hu; exact e4 _ _ _ (by omega) k1
  | 2,hu=>obtain rfl:=bQ hu; exact e4 _ _ _ (by omega) k2) ⟨rfl,by decide⟩
 have ss:Sl dY 3 d4 (.slice (some ⟨A+1,0,none⟩) 1 1) [Ay]:=LG (e4 _ _ _ (by omega) s0) (e4 _ _ _ (by omega) s1) (e4 _ _ _ (by omega) s2) sk
 have sl:Sl jx 1 d4 (.slice (some ⟨A+1+1,0,none⟩) 1 1) n9:=yZ (cs:=[.slice (some ⟨A+1,0,none⟩) 1 1]) rfl (fun j u hu=>by
  match j,hu with
  | 0,hu=>obtain rfl:=bQ hu; exact e4 _ _ _ (by omega) l0) ⟨_,rfl,ss⟩
 refine mM sl (Sl.nil:Sl Cj 1 d4 (.slice none 0 0) []) (by decide) g4.j KV fun d5 w5 v g5 s5 => ?_
 obtain ⟨x,hg,hgl⟩:=KW
 rw [hg] at s5
 have s6:=s5.inc dY.mono g5.j
 obtain ⟨va,vc,rfl⟩:=s6.form
 obtain ⟨g,f,c,hv',hc,hat⟩:=s6.at (by simp)
 obtain ⟨rfl,rfl⟩:=sEq hv'
 obtain ⟨_,_,xa,xc,p2,_⟩:=dI (hat 0 x rfl)
 simp only [Nat.zero_mul,Nat.add_zero,hgl] at p2
 have e1:(((1:Nat):Int) == 1)=true:=rfl
 have e2:(0:Int) < ((1:Nat):Int):=by decide
 simp (disch:=first | exact dZ | fail) only [go_sem,p2,aY,e1,e2,Int.toNat_zero,Nat.zero_mul,Nat.add_zero]
 exact hk _ (xW.trans g5.x)
end
end Go.Proofs
end
