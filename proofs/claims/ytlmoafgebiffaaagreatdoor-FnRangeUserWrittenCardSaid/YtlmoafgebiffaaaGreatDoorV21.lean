/- Parts of the proof: Wl, Vj, Vm, Vn, Vo, Ob. -/
import Derived.Test.YtlmoafgebiffaaaGreatDoorV20
set_option linter.all false
set_option maxRecDepth 10000
section
namespace Go.E
open Go Go.Sort Go.Proofs Go.Proofs.Tryz
def GC (lo hi:Option Bytes) (steps:List (Nat × Bytes)):Prop:=∀ x ∈ steps,(x.1=0→lo=none)∧(x.1=1∨x.1=3→False)∧(x.1=4∨x.1=5→False)∧x.2.length≤4294967296
end Go.E
namespace Go.Proofs
open Go Go.E Go.Sort Go.Proofs.Tryz
section
variable {k:aq} {d w:World}
set_option maxHeartbeats 4000000 in
theorem Ej {sv:Value} {Lv:List (List Sp)} {snap:Nat} {kl kh:Bytes} {bl bh:Bool} {steps:List (Nat × Bytes)} {q:UQ} {KS:List K→List K→Prop} (hKL:∀ a b,KS a b→a.length=b.length) (hKS:∀ ks b,(q.F ks).map q.π=b.map q.π→KS (q.F ks) b) (r:RIn Lv snap (ou kl bl) (ou kh bh)) (qc:QC q snap Lv) (hs:Sl Cp 2 d sv steps)
    (hst:GC (ou kl bl) (ou kh bh) steps) (hsl:steps.length < 1000000) {d5 w5:World} {C U Bf:Nat} {lov hiv fv:Value} {Ls:List Lvl} {n:Nat} {K:aq} (g:Gr d w d5 w5) (hU:UOk d5 w5 U) (hC:sQ d5 C) (hL:OB d5 lov (ou kl bl)) (hH:OB d5 hiv (ou kh bh)) (hB:BfOk d5 w5 Bf) (hF:qp n d5 w5 fv Ls) (hne:Bf≠U) (hUn:U < n) (hU0:w.heap.size≤U) (hB0:w.heap.size≤Bf) (hBI:∀ x ∈ Ls,x.I≠Bf) (hm:Ls.map Lvl.L=Lv)
    (hK:∀ w6,(∀ K2:aq,(∀ d2 w2 v l,Gr d w d2 w2→Sl zY 5 d2 v l→Pw (mm (qV q Lv (ou kl bl) (ou kh bh)) KS) (pX (qV q Lv (ou kl bl) (ou kh bh)) (-2) false 0 steps) l→K2 v w2)→ai prog 65 #[.iface 235 (.pointer (some ⟨U,81,none⟩)),sv] K2 w6)→K (.iface 235 (.pointer (some ⟨U,81,none⟩))) w6) :
    ai prog 66 #[.pointer (some ⟨U,0,none⟩),.pointer (some ⟨C,0,none⟩),.int .u64 snap,lov,hiv,.pointer none,.pointer none,.bool q.it,.pointer (some ⟨Bf,0,none⟩),fv] K w5:=by
 have hn:Ls.length≤10:=by have:=r.n10; rw [← hm,aR] at this; exact this
 refine Eh hF.1 g.j hU.o hB.o hn hne hU.c hU.f (hB.c 1 (by omega)) hB.c2 (hB.c 4 (by omega)) hB.f hL hH hC.1 hC.2.1 hC.2.2 fun w6 k6 m6 u6=>hK w6 fun K2 hK2 => ?_
 have uc:=Js r qc hC hB hU hF hne hUn hBI hm hL hH
 have hd6:cM d5 w6:=g.j.keep k6 fun b x h=>by
  rcases h with rfl | ⟨rfl,_⟩
  ·exact hU.o x
  ·exact hB.o x
 have fU:∀ x,w6.frozen? ⟨U,x,none⟩=false:=fun x=>by rw [k6.frozen U x hU.lt]; exact hU.f x
 have fB:∀ x,w6.frozen? ⟨Bf,x,none⟩=false:=fun x=>by rw [k6.frozen Bf x (aC hB.c2)]; exact hB.f x
 have cB:∀ x u,x≠1→x≠2→x≠4→w5.cell? ⟨Bf,x,none⟩=some u→w6.cell? ⟨Bf,x,none⟩=some u:=fun x u h1 h2 h3 hu=>k6.some hu fun h=>by
  rcases h with h | ⟨_,h⟩
  ·exact hne h
  ·omega
 have hF6:qp n d5 w6 fv Ls:=⟨hF.1,hF.2.keep k6 (fun x hx o h=>by
  rcases h with h | ⟨h,_⟩
  ·have:=(hF.2.at_ x hx).2.2.2.1; omega
  ·exact hBI x hx h) (cM.refl _) fun b h _=>h⟩
 have h0:=Ei rfl hd6 uc m6 u6 hF6 hne fU fB (fun x hx=>cB x _ (by omega) (by omega) (by omega) (hB.c x (by omega))) (cB 3 _ (by omega) (by omega) (by omega) hB.c3) (cB 9 _ (by omega) (by omega) (by omega) hB.c9) hL hH
 have eG:GB (uG (q.k U) Ls.toArray (cN Lv.flatten)) (ou kl bl) (ou kh bh)=GB (GL q.F Lv.length (fR Lv) (cN Lv.flatten)) (ou kl bl) (ou kh bh):=by
  unfold uG
  rw [sR hm]
  congr 2
  rw [← hm]; simp
 refine tW (uc.wi hKL hKS) h0 (hs.inc Cp.mono g.i) (fun x hx => ?_) hsl fun a w7 v l b1 b2 b3 b4 b5 b6 => ?_
 ·obtain ⟨s1,s2,s3,s4⟩:=hst x hx
  exact ⟨fun h=>⟨trivial,s1 h⟩,s2,s3,s4⟩
 ·have hx:bp w w6:=g.x.tr k6 fun b o hb h=>by
    rcases h with h | ⟨h,_⟩ <;> omega
  refine hK2 a w7 v l ⟨hx.tr b4 fun b o hb h => ?_,g.i.trans b1,b2,fun b hb ho=>b3 b (aL hb hx.size) (g.o b hb ho)⟩ b5 ?_
  ·rcases h with h | h | ⟨y,h⟩ | h | h
   ·omega
   ·omega
   ·rcases h with (⟨h,_⟩ | ⟨h,_⟩ | ⟨i,hi,h⟩ | ⟨h,_⟩ | ⟨h,_⟩) | ⟨h,_⟩
    ·omega
    ·omega
    ·have hat:Ls.toArray[i]! ∈ Ls:=by rw [aI Ls.toArray i hi]; simpa using an (by simpa using hi)
     have:=(hF.2.at_ _ hat).2.2.2.1
     omega
    ·omega
    ·omega
    ·omega
   ·exact h
   ·exact h
  ·have eV:uV (q.k U) Ls.toArray (cN Lv.flatten) (ou kl bl) (ou kh bh)=qV q Lv (ou kl bl) (ou kh bh):=congrArg (Vw q.π) eG
   rw [← eV]; exact b6
set_option maxHeartbeats 4000000 in
theorem mo {lv sv:Value} {Lv:List (List Sp)} {snap:Nat} {kl kh:Bytes} {bl bh:Bool} {steps:List (Nat × Bytes)} (hv:Sl pe 1 d lv Lv) (hs:Sl Cp 2 d sv steps) (hinc:cM d w) (r:RIn Lv snap (ou kl bl) (ou kh bh)) (hkl:kl.length≤4294967296) (hkh:kh.length≤4294967296)
    (hst:GC (ou kl bl) (ou kh bh) steps) (hsl:steps.length < 1000000)
    (hk:∀ d2 w2 v l,Gr d w d2 w2→Sl zY 5 d2 v l→Pw (mm (rV Lv snap (ou kl bl) (ou kh bh)) (FB pY)) (pX (rV Lv snap (ou kl bl) (ou kh bh)) (-2) false 0 steps) l→k v w2) :
    ai prog 37 #[lv,.int .u64 snap,.agg #[.string ⟨kl.toArray⟩,.bool bl],.agg #[.string ⟨kh.toArray⟩,.bool bh],sv] k w:=by
 have fin:=fun {d5 w5:World} {C U Bf:Nat} {lov hiv fv:Value} {Ls:List Lvl} {n:Nat} {K:aq}=>Ej (w:=w) (q:=LU snap) (KS:=FB pY) F2 (fun ks b=>Hs snap ks b) r (GA r.snap) hs hst hsl (d5:=d5) (w5:=w5) (C:=C) (U:=U) (Bf:=Bf) (lov:=lov) (hiv:=hiv) (fv:=fv) (Ls:=Ls) (n:=n) (K:=K)
 obtain ⟨la,lc,rfl⟩:=hv.form
 obtain ⟨sa,sc,rfl⟩:=hs.form
 refine al [.tmp 10] func37 ?_
 refine bA ?_
 refine bF (sq [1] (.read 2 (.read 4 (sq [7,10] (.alt (.eff 0 [2,4] (.alt (.eff 3 [4] (.alt (.eff 5 [] (.alt (.eff 6 [2,4] (.eff 8 [] (.eff 9 [] (.eff 11 [] (sq [12] .done))))) (.eff 8 [] (.eff 6 [2,4] (.eff 9 [] (.eff 11 [] (sq [12] .done))))))) (.eff 6 [2,4] (.eff 5 [] (.eff 8 [] (.eff 9 [] (.eff 11 [] (sq [12] .done)))))))) (.eff 6 [2,4] (.eff 3 [4] (.eff 5 [] (.eff 8 [] (.eff 9 [] (.eff 11 [] (sq [12] .done))))))))) (.eff 6 [2,4] (.eff 0 [2,4] (.eff 3 [4] (.eff 5 [] (.eff 8 [] (.eff 9 [] (.eff 11 [] (sq [12] .done))))))))))))) ?_
 generalize hO:Obj.cells _ 184=O
 obtain ⟨wc,hw1⟩:∃ wc,wc=(((w.alloc (.cells #[.string ⟨kl.toArray⟩,.bool bl] 88)).alloc (.cells #[.string ⟨kh.toArray⟩,.bool bh] 88)).alloc O).drew:=⟨_,rfl⟩
 rw [← hw1]
 have x1:bp w wc:=by rw [hw1]; exact Keep.drew (((aJ _).trans (aJ _)).trans (aJ _))
 have hz:w.heap.size+3≤wc.heap.size:=by rw [hw1,World.size_drew,World.size_alloc,World.size_alloc,World.size_alloc]; omega
 obtain ⟨dc,hdc⟩:∃ dc,dc=d:=⟨_,rfl⟩
 have t:Gr d w dc wc:=by rw [hdc]; exact Gr.ext hinc x1
 have p0:wc.cell? ⟨w.heap.size,0,none⟩=some (.string ⟨kl.toArray⟩):=by rw [hw1]; exact bX @aA
 have p1:wc.cell? ⟨w.heap.size,1,none⟩=some (.bool bl):=by rw [hw1]; exact bX @aA
 have q0:wc.cell? ⟨w.heap.size+1,0,none⟩=some (.string ⟨kh.toArray⟩):=by rw [hw1]; exact bX @aA
 have q1:wc.cell? ⟨w.heap.size+1,1,none⟩=some (.bool bh):=by rw [hw1]; exact bX @aA
 have hU:UOk dc wc (w.heap.size+2):=by
  refine ⟨fun x hx => ?_,fun x => ?_,by rw [hdc]; exact hinc.out (by omega)⟩
  rotate_left
  ·have key:∀ (v:World) (c:Array Value) (t:TypeId),v.heap.size=w.heap.size+2→(v.alloc (.cells c t)).drew.frozen? ⟨w.heap.size+2,x,none⟩=false:=fun v c t hv=>by rw [← hv]; exact World.frozen?_alloc_new v c t x
   rw [hw1,← hO]
   exact key _ _ _ (by rw [World.size_alloc,World.size_alloc])
  rw [hw1,← hO]
  refine bu @aA ?_
  exact ⟨_,aD (show x < 95 from hx)⟩
 have hlen:∀ x ∈ Lv,x.length < 1000000∧∀ s ∈ x,xh s:=fun x hx=>by
  obtain ⟨a,b⟩:=r.len x hx
  refine ⟨by omega,fun s hs => ?_⟩
  obtain ⟨b1,b2,b3,_,b5⟩:=b s hs
  exact ⟨by omega,by omega,by omega,b5⟩
 clear hw1 x1 hdc
 refine eO @p0 @p1 @q0 @q1 ?_
 refine ⟨?_,?_⟩
 ·
  refine ov t.j fun dc wc C g _ hC0 hC1 hC5 => ?_
  have t:=t.trans g
  have hz:=ah hz g.x.size
  have p0:=g.x.cell p0
  have p1:=g.x.cell p1
  have q0:=g.x.cell q0
  have q1:=g.x.cell q1
  have hU:=hU.gr g
  (try have hC:=hC.gr g)
  (try have hL:=OB.inc hL g.i)
  (try have hH:=OB.inc hH g.i)
  (try have hB:=hB.gr g)
  (try have hBl:=aL hBl g.x.size)
  (try have hF:=hF.gr g)
  have hC:sQ dc C:=⟨hC0,hC1,hC5⟩
  refine eO @p0 @p1 @q0 @q1 ?_
  refine ⟨?_,?_⟩
  ·
   refine dw t.j hkl fun dc wc lov g hLn => ?_
   have t:=t.trans g
   have hz:=ah hz g.x.size
   have p0:=g.x.cell p0
   have p1:=g.x.cell p1
   have q0:=g.x.cell q0
   have q1:=g.x.cell q1
   have hU:=hU.gr g
   (try have hC:=hC.gr g)
   (try have hL:=OB.inc hL g.i)
   (try have hH:=OB.inc hH g.i)
   (try have hB:=hB.gr g)
   (try have hBl:=aL hBl g.x.size)
   (try have hF:=hF.gr g)
   have hL:=hLn
   refine eO @p0 @p1 @q0 @q1 ?_
   refine ⟨?_,?_⟩
   ·
    refine dw t.j hkh fun dc wc hiv g hHn => ?_
    have t:=t.trans g
    have hz:=ah hz g.x.size
    have p0:=g.x.cell p0
    have p1:=g.x.cell p1
    have q0:=g.x.cell q0
    have q1:=g.x.cell q1
    have hU:=hU.gr g
    (try have hC:=hC.gr g)
    (try have hL:=OB.inc hL g.i)
    (try have hH:=OB.inc hH g.i)
    (try have hB:=hB.gr g)
    (try have hBl:=aL hBl g.x.size)
    (try have hF:=hF.gr g)
    have hH:=hHn
    refine eO @p0 @p1 @q0 @q1 ?_
    refine ⟨?_,?_⟩
    ·
     generalize hO2:Obj.cells _ 200=O2
     obtain ⟨Bf,hBe⟩:∃ b,b=wc.heap.size:=⟨_,rfl⟩
     (try rw [← hBe])
     have hBU:w.heap.size+3≤Bf:=by omega
     have hBn:BfOk dc (wc.alloc O2) Bf:=by
      rw [hBe,← hO2]
      exact ⟨fun x hx=>by (rcases hx with rfl | rfl | hx | rfl); exact aA (aF _) (by omega); exact aA (aF _) (by omega); (have h:x=4∨x=5∨x=6∨x=7∨x=8:=by omega); (rcases h with rfl | rfl | rfl | rfl | rfl <;> exact aA (aF _) (by omega)); exact aA (aF _) (by omega),aA (aF _) (by omega),aA (aF _) (by omega),aA (aF _) (by omega),fun x=>by simp (disch:=first | exact dZ | fail) only [go_sem],t.j.out (aF _)⟩
     have g:Gr dc wc dc (wc.alloc O2):=Gr.ext t.j (aJ _)
     (try have hBI:∀ x ∈ Ls,x.I≠Bf:=fun x hx=>by have:=(hF.2.at_ x hx).2.2.2.2; omega)
     have hBl:Bf < (wc.alloc O2).heap.size:=by rw [World.size_alloc]; omega
     have t:=t.trans g
     have hz:=ah hz g.x.size
     have p0:=g.x.cell p0
     have p1:=g.x.cell p1
     have q0:=g.x.cell q0
     have q1:=g.x.cell q1
     have hU:=hU.gr g
     (try have hC:=hC.gr g)
     (try have hL:=OB.inc hL g.i)
     (try have hH:=OB.inc hH g.i)
     (try have hB:=hB.gr g)
     (try have hBl:=aL hBl g.x.size)
     (try have hF:=hF.gr g)
     have hB:=hBn
     obtain ⟨wd,hwd⟩:∃ wd,wd=wc.alloc O2:=⟨_,rfl⟩
     rw [← hwd] at t hz p0 p1 q0 q1 hU hB hBl ⊢
     (try rw [← hwd] at hF)
     obtain ⟨nF,hnF⟩:∃ n,n=wd.heap.size:=⟨_,rfl⟩
     have hUn:w.heap.size+2 < nF:=by omega
     refine gS (hv.inc pe.mono t.i) (by have:=r.n10; omega) hlen t.j fun dc wc fv Ls g f1 f2 hm => ?_
     rw [← hnF] at f2
     (try have hBl:Bf < nF:=by omega)
     (try have hBI:∀ x ∈ Ls,x.I≠Bf:=fun x hx=>by have:=(f2.at_ x hx).2.2.2.1; omega)
     have t:=t.trans g
     have hz:=ah hz g.x.size
     have p0:=g.x.cell p0
     have p1:=g.x.cell p1
     have q0:=g.x.cell q0
     have q1:=g.x.cell q1
     have hU:=hU.gr g
     (try have hC:=hC.gr g)
     (try have hL:=OB.inc hL g.i)
     (try have hH:=OB.inc hH g.i)
     (try have hB:=hB.gr g)
     (try have hBl:=aL hBl g.x.size)
     (try have hF:=hF.gr g)
     have hF:qp nF dc wc fv Ls:=⟨f1,f2⟩
     refine eO @p0 @p1 @q0 @q1 ?_
     refine fin t hU hC hL hH hB hF (by omega) hUn (by omega) (by omega) hBI hm fun w6 hw6 => ?_
     refine bA ?_
     refine hw6 _ fun d8 w8 v l g8 s8 p8 => ?_
     refine bA ?_
     exact hk d8 w8 v l g8 s8 p8
    ·
     obtain ⟨nF,hnF⟩:∃ n,n=wc.heap.size:=⟨_,rfl⟩
     have hUn:w.heap.size+2 < nF:=by omega
     refine gS (hv.inc pe.mono t.i) (by have:=r.n10; omega) hlen t.j fun dc wc fv Ls g f1 f2 hm => ?_
     rw [← hnF] at f2
     (try have hBl:Bf < nF:=by omega)
     (try have hBI:∀ x ∈ Ls,x.I≠Bf:=fun x hx=>by have:=(f2.at_ x hx).2.2.2.1; omega)
     have t:=t.trans g
     have hz:=ah hz g.x.size
     have p0:=g.x.cell p0
     have p1:=g.x.cell p1
     have q0:=g.x.cell q0
     have q1:=g.x.cell q1
     have hU:=hU.gr g
     (try have hC:=hC.gr g)
     (try have hL:=OB.inc hL g.i)
     (try have hH:=OB.inc hH g.i)
     (try have hB:=hB.gr g)
     (try have hBl:=aL hBl g.x.size)
     (try have hF:=hF.gr g)
     have hF:qp nF dc wc fv Ls:=⟨f1,f2⟩
     refine eO @p0 @p1 @q0 @q1 ?_
     generalize hO2:Obj.cells _ 200=O2
     obtain ⟨Bf,hBe⟩:∃ b,b=wc.heap.size:=⟨_,rfl⟩
     (try rw [← hBe])
     have hBU:w.heap.size+3≤Bf:=by omega
     have hBn:BfOk dc (wc.alloc O2) Bf:=by
      rw [hBe,← hO2]
      exact ⟨fun x hx=>by (rcases hx with rfl | rfl | hx | rfl); exact aA (aF _) (by omega); exact aA (aF _) (by omega); (have h:x=4∨x=5∨x=6∨x=7∨x=8:=by omega); (rcases h with rfl | rfl | rfl | rfl | rfl <;> exact aA (aF _) (by omega)); exact aA (aF _) (by omega),aA (aF _) (by omega),aA (aF _) (by omega),aA (aF _) (by omega),fun x=>by simp (disch:=first | exact dZ | fail) only [go_sem],t.j.out (aF _)⟩
     have g:Gr dc wc dc (wc.alloc O2):=Gr.ext t.j (aJ _)
     (try have hBI:∀ x ∈ Ls,x.I≠Bf:=fun x hx=>by have:=(hF.2.at_ x hx).2.2.2.2; omega)
     have hBl:Bf < (wc.alloc O2).heap.size:=by rw [World.size_alloc]; omega
     have t:=t.trans g
     have hz:=ah hz g.x.size
     have p0:=g.x.cell p0
     have p1:=g.x.cell p1
     have q0:=g.x.cell q0
     have q1:=g.x.cell q1
     have hU:=hU.gr g
     (try have hC:=hC.gr g)
     (try have hL:=OB.inc hL g.i)
     (try have hH:=OB.inc hH g.i)
     (try have hB:=hB.gr g)
     (try have hBl:=aL hBl g.x.size)
     (try have hF:=hF.gr g)
     have hB:=hBn
     obtain ⟨wd,hwd⟩:∃ wd,wd=wc.alloc O2:=⟨_,rfl⟩
     rw [← hwd] at t hz p0 p1 q0 q1 hU hB hBl ⊢
     (try rw [← hwd] at hF)
     refine fin t hU hC hL hH hB hF (by omega) hUn (by omega) (by omega) hBI hm fun w6 hw6 => ?_
     refine bA ?_
     refine hw6 _ fun d8 w8 v l g8 s8 p8 => ?_
     refine bA ?_
     exact hk d8 w8 v l g8 s8 p8
   ·
    generalize hO2:Obj.cells _ 200=O2
    obtain ⟨Bf,hBe⟩:∃ b,b=wc.heap.size:=⟨_,rfl⟩
    (try rw [← hBe])
    have hBU:w.heap.size+3≤Bf:=by omega
    have hBn:BfOk dc (wc.alloc O2) Bf:=by
     rw [hBe,← hO2]
     exact ⟨fun x hx=>by (rcases hx with rfl | rfl | hx | rfl); exact aA (aF _) (by omega); exact aA (aF _) (by omega); (have h:x=4∨x=5∨x=6∨x=7∨x=8:=by omega); (rcases h with rfl | rfl | rfl | rfl | rfl <;> exact aA (aF _) (by omega)); exact aA (aF _) (by omega),aA (aF _) (by omega),aA (aF _) (by omega),aA (aF _) (by omega),fun x=>by simp (disch:=first | exact dZ | fail) only [go_sem],t.j.out (aF _)⟩
    have g:Gr dc wc dc (wc.alloc O2):=Gr.ext t.j (aJ _)
    (try have hBI:∀ x ∈ Ls,x.I≠Bf:=fun x hx=>by have:=(hF.2.at_ x hx).2.2.2.2; omega)
    have hBl:Bf < (wc.alloc O2).heap.size:=by rw [World.size_alloc]; omega
    have t:=t.trans g
    have hz:=ah hz g.x.size
    have p0:=g.x.cell p0
    have p1:=g.x.cell p1
    have q0:=g.x.cell q0
    have q1:=g.x.cell q1
    have hU:=hU.gr g
    (try have hC:=hC.gr g)
    (try have hL:=OB.inc hL g.i)
    (try have hH:=OB.inc hH g.i)
    (try have hB:=hB.gr g)
    (try have hBl:=aL hBl g.x.size)
    (try have hF:=hF.gr g)
    have hB:=hBn
    obtain ⟨wd,hwd⟩:∃ wd,wd=wc.alloc O2:=⟨_,rfl⟩
    rw [← hwd] at t hz p0 p1 q0 q1 hU hB hBl ⊢
    (try rw [← hwd] at hF)
    refine dw t.j hkh fun dc wc hiv g hHn => ?_
    have t:=t.trans g
    have hz:=ah hz g.x.size
    have p0:=g.x.cell p0
    have p1:=g.x.cell p1
    have q0:=g.x.cell q0
    have q1:=g.x.cell q1
    have hU:=hU.gr g
    (try have hC:=hC.gr g)
    (try have hL:=OB.inc hL g.i)
    (try have hH:=OB.inc hH g.i)
    (try have hB:=hB.gr g)
    (try have hBl:=aL hBl g.x.size)
    (try have hF:=hF.gr g)
    have hH:=hHn
    refine eO @p0 @p1 @q0 @q1 ?_
    obtain ⟨nF,hnF⟩:∃ n,n=wc.heap.size:=⟨_,rfl⟩
    have hUn:w.heap.size+2 < nF:=by omega
    refine gS (hv.inc pe.mono t.i) (by have:=r.n10; omega) hlen t.j fun dc wc fv Ls g f1 f2 hm => ?_
    rw [← hnF] at f2
    (try have hBl:Bf < nF:=by omega)
    (try have hBI:∀ x ∈ Ls,x.I≠Bf:=fun x hx=>by have:=(f2.at_ x hx).2.2.2.1; omega)
    have t:=t.trans g
    have hz:=ah hz g.x.size
    have p0:=g.x.cell p0
    have p1:=g.x.cell p1
    have q0:=g.x.cell q0
    have q1:=g.x.cell q1
    have hU:=hU.gr g
    (try have hC:=hC.gr g)
    (try have hL:=OB.inc hL g.i)
    (try have hH:=OB.inc hH g.i)
    (try have hB:=hB.gr g)
    (try have hBl:=aL hBl g.x.size)
    (try have hF:=hF.gr g)
    have hF:qp nF dc wc fv Ls:=⟨f1,f2⟩
    refine eO @p0 @p1 @q0 @q1 ?_
    refine fin t hU hC hL hH hB hF (by omega) hUn (by omega) (by omega) hBI hm fun w6 hw6 => ?_
    refine bA ?_
    refine hw6 _ fun d8 w8 v l g8 s8 p8 => ?_
    refine bA ?_
    exact hk d8 w8 v l g8 s8 p8
  ·
   generalize hO2:Obj.cells _ 200=O2
   obtain ⟨Bf,hBe⟩:∃ b,b=wc.heap.size:=⟨_,rfl⟩
   (try rw [← hBe])
   have hBU:w.heap.size+3≤Bf:=by omega
   have hBn:BfOk dc (wc.alloc O2) Bf:=by
    rw [hBe,← hO2]
    exact ⟨fun x hx=>by (rcases hx with rfl | rfl | hx | rfl); exact aA (aF _) (by omega); exact aA (aF _) (by omega); (have h:x=4∨x=5∨x=6∨x=7∨x=8:=by omega); (rcases h with rfl | rfl | rfl | rfl | rfl <;> exact aA (aF _) (by omega)); exact aA (aF _) (by omega),aA (aF _) (by omega),aA (aF _) (by omega),aA (aF _) (by omega),fun x=>by simp (disch:=first | exact dZ | fail) only [go_sem],t.j.out (aF _)⟩
   have g:Gr dc wc dc (wc.alloc O2):=Gr.ext t.j (aJ _)
   (try have hBI:∀ x ∈ Ls,x.I≠Bf:=fun x hx=>by have:=(hF.2.at_ x hx).2.2.2.2; omega)
   have hBl:Bf < (wc.alloc O2).heap.size:=by rw [World.size_alloc]; omega
   have t:=t.trans g
   have hz:=ah hz g.x.size
   have p0:=g.x.cell p0
   have p1:=g.x.cell p1
   have q0:=g.x.cell q0
   have q1:=g.x.cell q1
   have hU:=hU.gr g
   (try have hC:=hC.gr g)
   (try have hL:=OB.inc hL g.i)
   (try have hH:=OB.inc hH g.i)
   (try have hB:=hB.gr g)
   (try have hBl:=aL hBl g.x.size)
   (try have hF:=hF.gr g)
   have hB:=hBn
   obtain ⟨wd,hwd⟩:∃ wd,wd=wc.alloc O2:=⟨_,rfl⟩
   rw [← hwd] at t hz p0 p1 q0 q1 hU hB hBl ⊢
   (try rw [← hwd] at hF)
   refine dw t.j hkl fun dc wc lov g hLn => ?_
   have t:=t.trans g
   have hz:=ah hz g.x.size
   have p0:=g.x.cell p0
   have p1:=g.x.cell p1
   have q0:=g.x.cell q0
   have q1:=g.x.cell q1
   have hU:=hU.gr g
   (try have hC:=hC.gr g)
   (try have hL:=OB.inc hL g.i)
   (try have hH:=OB.inc hH g.i)
   (try have hB:=hB.gr g)
   (try have hBl:=aL hBl g.x.size)
   (try have hF:=hF.gr g)
   have hL:=hLn
   refine eO @p0 @p1 @q0 @q1 ?_
   refine dw t.j hkh fun dc wc hiv g hHn => ?_
   have t:=t.trans g
   have hz:=ah hz g.x.size
   have p0:=g.x.cell p0
   have p1:=g.x.cell p1
   have q0:=g.x.cell q0
   have q1:=g.x.cell q1
   have hU:=hU.gr g
   (try have hC:=hC.gr g)
   (try have hL:=OB.inc hL g.i)
   (try have hH:=OB.inc hH g.i)
   (try have hB:=hB.gr g)
   (try have hBl:=aL hBl g.x.size)
   (try have hF:=hF.gr g)
   have hH:=hHn
   refine eO @p0 @p1 @q0 @q1 ?_
   obtain ⟨nF,hnF⟩:∃ n,n=wc.heap.size:=⟨_,rfl⟩
   have hUn:w.heap.size+2 < nF:=by omega
   refine gS (hv.inc pe.mono t.i) (by have:=r.n10; omega) hlen t.j fun dc wc fv Ls g f1 f2 hm => ?_
   rw [← hnF] at f2
   (try have hBl:Bf < nF:=by omega)
   (try have hBI:∀ x ∈ Ls,x.I≠Bf:=fun x hx=>by have:=(f2.at_ x hx).2.2.2.1; omega)
   have t:=t.trans g
   have hz:=ah hz g.x.size
   have p0:=g.x.cell p0
   have p1:=g.x.cell p1
   have q0:=g.x.cell q0
   have q1:=g.x.cell q1
   have hU:=hU.gr g
   (try have hC:=hC.gr g)
   (try have hL:=OB.inc hL g.i)
   (try have hH:=OB.inc hH g.i)
   (try have hB:=hB.gr g)
   (try have hBl:=aL hBl g.x.size)
   (try have hF:=hF.gr g)
   have hF:qp nF dc wc fv Ls:=⟨f1,f2⟩
   refine eO @p0 @p1 @q0 @q1 ?_
   refine fin t hU hC hL hH hB hF (by omega) hUn (by omega) (by omega) hBI hm fun w6 hw6 => ?_
   refine bA ?_
   refine hw6 _ fun d8 w8 v l g8 s8 p8 => ?_
   refine bA ?_
   exact hk d8 w8 v l g8 s8 p8
 ·
  generalize hO2:Obj.cells _ 200=O2
  obtain ⟨Bf,hBe⟩:∃ b,b=wc.heap.size:=⟨_,rfl⟩
  (try rw [← hBe])
  have hBU:w.heap.size+3≤Bf:=by omega
  have hBn:BfOk dc (wc.alloc O2) Bf:=by
   rw [hBe,← hO2]
   exact ⟨fun x hx=>by (rcases hx with rfl | rfl | hx | rfl); exact aA (aF _) (by omega); exact aA (aF _) (by omega); (have h:x=4∨x=5∨x=6∨x=7∨x=8:=by omega); (rcases h with rfl | rfl | rfl | rfl | rfl <;> exact aA (aF _) (by omega)); exact aA (aF _) (by omega),aA (aF _) (by omega),aA (aF _) (by omega),aA (aF _) (by omega),fun x=>by simp (disch:=first | exact dZ | fail) only [go_sem],t.j.out (aF _)⟩
  have g:Gr dc wc dc (wc.alloc O2):=Gr.ext t.j (aJ _)
  (try have hBI:∀ x ∈ Ls,x.I≠Bf:=fun x hx=>by have:=(hF.2.at_ x hx).2.2.2.2; omega)
  have hBl:Bf < (wc.alloc O2).heap.size:=by rw [World.size_alloc]; omega
  have t:=t.trans g
  have hz:=ah hz g.x.size
  have p0:=g.x.cell p0
  have p1:=g.x.cell p1
  have q0:=g.x.cell q0
  have q1:=g.x.cell q1
  have hU:=hU.gr g
  (try have hC:=hC.gr g)
  (try have hL:=OB.inc hL g.i)
  (try have hH:=OB.inc hH g.i)
  (try have hB:=hB.gr g)
  (try have hBl:=aL hBl g.x.size)
  (try have hF:=hF.gr g)
  have hB:=hBn
  obtain ⟨wd,hwd⟩:∃ wd,wd=wc.alloc O2:=⟨_,rfl⟩
  rw [← hwd] at t hz p0 p1 q0 q1 hU hB hBl ⊢
  (try rw [← hwd] at hF)
  refine ov t.j fun dc wc C g _ hC0 hC1 hC5 => ?_
  have t:=t.trans g
  have hz:=ah hz g.x.size
  have p0:=g.x.cell p0
  have p1:=g.x.cell p1
  have q0:=g.x.cell q0
  have q1:=g.x.cell q1
  have hU:=hU.gr g
  (try have hC:=hC.gr g)
  (try have hL:=OB.inc hL g.i)
  (try have hH:=OB.inc hH g.i)
  (try have hB:=hB.gr g)
  (try have hBl:=aL hBl g.x.size)
  (try have hF:=hF.gr g)
  have hC:sQ dc C:=⟨hC0,hC1,hC5⟩
  refine eO @p0 @p1 @q0 @q1 ?_
  refine dw t.j hkl fun dc wc lov g hLn => ?_
  have t:=t.trans g
  have hz:=ah hz g.x.size
  have p0:=g.x.cell p0
  have p1:=g.x.cell p1
  have q0:=g.x.cell q0
  have q1:=g.x.cell q1
  have hU:=hU.gr g
  (try have hC:=hC.gr g)
  (try have hL:=OB.inc hL g.i)
  (try have hH:=OB.inc hH g.i)
  (try have hB:=hB.gr g)
  (try have hBl:=aL hBl g.x.size)
  (try have hF:=hF.gr g)
  have hL:=hLn
  refine eO @p0 @p1 @q0 @q1 ?_
  refine dw t.j hkh fun dc wc hiv g hHn => ?_
  have t:=t.trans g
  have hz:=ah hz g.x.size
  have p0:=g.x.cell p0
  have p1:=g.x.cell p1
  have q0:=g.x.cell q0
  have q1:=g.x.cell q1
  have hU:=hU.gr g
  (try have hC:=hC.gr g)
  (try have hL:=OB.inc hL g.i)
  (try have hH:=OB.inc hH g.i)
  (try have hB:=hB.gr g)
  (try have hBl:=aL hBl g.x.size)
  (try have hF:=hF.gr g)
  have hH:=hHn
  refine eO @p0 @p1 @q0 @q1 ?_
  obtain ⟨nF,hnF⟩:∃ n,n=wc.heap.size:=⟨_,rfl⟩
  have hUn:w.heap.size+2 < nF:=by omega
  refine gS (hv.inc pe.mono t.i) (by have:=r.n10; omega) hlen t.j fun dc wc fv Ls g f1 f2 hm => ?_
  rw [← hnF] at f2
  (try have hBl:Bf < nF:=by omega)
  (try have hBI:∀ x ∈ Ls,x.I≠Bf:=fun x hx=>by have:=(f2.at_ x hx).2.2.2.1; omega)
  have t:=t.trans g
  have hz:=ah hz g.x.size
  have p0:=g.x.cell p0
  have p1:=g.x.cell p1
  have q0:=g.x.cell q0
  have q1:=g.x.cell q1
  have hU:=hU.gr g
  (try have hC:=hC.gr g)
  (try have hL:=OB.inc hL g.i)
  (try have hH:=OB.inc hH g.i)
  (try have hB:=hB.gr g)
  (try have hBl:=aL hBl g.x.size)
  (try have hF:=hF.gr g)
  have hF:qp nF dc wc fv Ls:=⟨f1,f2⟩
  refine eO @p0 @p1 @q0 @q1 ?_
  refine fin t hU hC hL hH hB hF (by omega) hUn (by omega) (by omega) hBI hm fun w6 hw6 => ?_
  refine bA ?_
  refine hw6 _ fun d8 w8 v l g8 s8 p8 => ?_
  refine bA ?_
  exact hk d8 w8 v l g8 s8 p8
end
end Go.Proofs
end
section
namespace Go.E
open Go Go.Sort Go.Proofs
theorem wF (G:List Sp):GB G none none=G:=by
 show (G.take G.length).drop 0=G
 rw [ag,List.drop_zero]
theorem pA (x:Sp):(cW x).ks=x.ks.map fun y=>iD y.sv:=by unfold cW; rw [cv]; rfl
theorem CM (V:List Sp):(V.map cW).filter (fun s=>decide (s.ks≠[]))=(gU V).map cW:=by
 unfold gU
 rw [List.filter_map]
 congr 1
 refine List.filter_congr fun s _ => ?_
 rw [Function.comp_apply,pA,decide_eq_decide,ne_eq,ne_eq,List.map_eq_nil_iff]
def H0 (m:Nat):List (Nat × Bytes):=(0,[]) :: List.replicate m (2,[])
def LW (m:Nat):List (Nat × Bytes):=(1,[]) :: List.replicate m (3,[])
theorem CN {V:List Sp} {KS:List K→Prop} {m:Nat} {l:List An} (hm:V.length≤m+1) (h:Pw (mm V (FB KS)) (pX V (-2) false 0 (H0 m)) l):(mE l).map cW=V.map cW:=by
 rw [(EY h).1]
 unfold H0
 rw [CF V m hm]
 exact vt V
theorem zr {V l:List Sp} {m:Nat} (h:l.map cW=V.map cW) (hm:∀ x ∈ V,x.ks.length≤m):∀ x ∈ l,x.ks.length≤m:=fun x hx=>by
 have h1:cW x ∈ V.map cW:=by rw [← h]; exact List.mem_map_of_mem hx
 obtain ⟨y,hy,e⟩:=bj.1 h1
 have:=congrArg (fun s:Sp=>s.ks.length) e
 simp only [pA,aR] at this
 rw [← this]
 exact hm y hy
section
variable {Lv:List (List Sp)} {n snap:Nat} {x:Bytes}
end
section
variable {Lv:List (List Sp)} {n snap:Nat}
theorem H1 (lo:LvOk Lv n) (hn:n≤900) (hsn:snap < 18446744073709551616) (f2:∀ x ∈ Lv,x.length≤2147483647∧∀ y ∈ x,xp y) {l h:Option Bytes} (hb:BY l h):RIn Lv snap l h :=
 ⟨by have:=lo.n6; omega,hsn,lo.wf,fun L h=>⟨by have:=lo.sz L h; omega,fun s hs=>by
  obtain ⟨q1,q2,q3,q4⟩:=(f2 L h).2 s hs
  refine ⟨by omega,by omega,by have:=(lo.ks L h s hs).2; omega,(lo.ks L h s hs).1,fun x hx => ?_⟩
  obtain ⟨q5,q6⟩:=q4 x hx
  exact ⟨by omega,by omega⟩⟩,lo.cdF,hb⟩
theorem uj:BY none none:=fun l h hl=>by cases hl
theorem CO (Lv:List (List Sp)) (snap:Nat):(rV Lv snap none none).length≤2 * Lv.flatten.length+1:=by
 rw [rV,wF]
 exact yH Lv snap
theorem Jt {m:Nat} (r:RIn Lv snap none none) (hm:∀ L ∈ Lv,∀ s ∈ L,s.ks.length≤m):∀ x ∈ rV Lv snap none none,x.ks.length≤Lv.flatten.length * m:=fun x hx=>by
 have hv:ud Lv.flatten snap none none=(rV Lv snap none none).map cW:=AZ r.wf (fun L h s hs=>((r.len L h).2 s hs).2.2.2.1) r.cd none none
 have:=Eg (l:=Lv.flatten) (snap:=snap) (m:=m) (lo:=none) (hi:=none) (fun y hy=>by
  obtain ⟨L,hL,hy⟩:=du.1 hy
  exact hm L hL y hy) (cW x) (by rw [hv]; exact List.mem_map_of_mem hx)
 rw [pA,aR] at this
 exact this
theorem Ju (m:Nat):GC none none (H0 m)∧True:=by
 refine ⟨fun x hx => ?_,trivial⟩
 have h:x=(0,[])∨x=(2,[]):=by
  rcases av.1 hx with h | h
  ·exact .inl h
  ·exact .inr (List.eq_of_mem_replicate h)
 rcases h with rfl | rfl
 ·exact ⟨fun _=>rfl,fun h=>by simp at h,fun h=>by simp at h,by decide⟩
 ·exact ⟨fun _=>rfl,fun h=>by simp at h,fun h=>by simp at h,by decide⟩
theorem uk (m:Nat):(H0 m).length=m+1∧(LW m).length=m+1:=by simp [H0,LW]
end
end Go.E
end
section
namespace Go.E
open Go Go.Sort Go.Proofs
def cG (l:List Sp):List K:=l.flatMap Sp.ks
def sU (b:Sp) (l:List Sp):List Sp:=(l.drop (l.countP fun x=>decide (x.e=b.e))).map fun x=>⟨b.e,x.e,x.ks⟩
def yN (l:List K):Prop:=l.Pairwise fun x y=>y.tr≤x.tr
inductive FlR:List Sp→List Sp→Prop
 | nil:FlR [] []
 | cons {b f:Sp} {r out:List Sp} (h1:f.s=b.s) (h2:f.e=b.e) (h3:f.ks.Perm (cG (b :: r))) (h5:yN f.ks) (h4:FlR (sU b (b :: r)) out):FlR (b :: r) (f :: out)
structure Alike (q:Bytes) (l:List Sp):Prop where
 s:∀ x ∈ l,x.s=q
 lt:∀ x ∈ l,x.s < x.e
 ne:∀ x ∈ l,x.ks≠[]
def qA (l:List Sp):Prop:=l.Pairwise fun a b=>¬ b.e < a.e
theorem sV (a:Sp) (l:List Sp) (x:Bytes):fh (a :: l) x=(if et x a then a.ks else [])++fh l x:=by unfold fh; rw [ae]
theorem yO {a b:List Sp} (h:a.Perm b) (x:Bytes):(fh a x).Perm (fh b x):=h.flatMap_right _
theorem pB {l:List Sp} {x:Bytes} (h:∀ s ∈ l,et x s=false):fh l x=[]:=by
 unfold fh
 exact List.flatMap_eq_nil_iff.2 fun s hs=>by rw [h s hs]; rfl
theorem Ak {l:List Sp} {x:Bytes} (h:∀ s ∈ l,et x s=true):fh l x=cG l:=by
 unfold fh cG
 exact kF fun s hs=>by rw [h s hs]; rfl
theorem yP {b:Sp}:∀ {l:List Sp},qA l→(∀ x ∈ l,¬ x.e < b.e)→(∀ x ∈ l.take (l.countP fun x=>decide (x.e=b.e)),x.e=b.e)∧∀ x ∈ l.drop (l.countP fun x=>decide (x.e=b.e)),b.e < x.e:=by
 intro l
 induction l with
 | nil=>intro _ _; exact ⟨by simp,by simp⟩
 | cons a l ih =>
  intro hs hb
  have hs':=hs.of_cons
  obtain ⟨i1,i2⟩:=ih hs' fun x hx=>hb x (aW _ hx)
  by_cases ha:a.e=b.e
  ·rw [List.countP_cons_of_pos (by simpa using ha),List.take_succ_cons,List.drop_succ_cons]
   refine ⟨fun x hx => ?_,i2⟩
   rcases av.1 hx with rfl | hx
   ·exact ha
   ·exact i1 x hx
  ·have hba:b.e < a.e:=by
     rcases gV a.e b.e with h | h | h
     ·exact absurd h (hb a aK)
     ·exact absurd h ha
     ·exact h
   have h0:l.countP (fun x=>decide (x.e=b.e))=0:=by
    rw [List.countP_eq_zero]
    intro x hx he
    have he:=of_decide_eq_true he
    have:=bI hs hx
    rw [he] at this
    exact this hba
   rw [List.countP_cons_of_neg (by simpa using ha),h0]
   refine ⟨by simp,fun x hx => ?_⟩
   rcases av.1 hx with rfl | hx
   ·exact hba
   ·exact cY hba (bI hs hx)
theorem CQ {b:Sp} {l:List Sp} (hs:qA l) (hb:∀ x ∈ l,¬ x.e < b.e) (hn:∀ x ∈ l,x.ks≠[]):Alike b.e (sU b l)∧qA (sU b l):=by
 obtain ⟨_,h2⟩:=yP hs hb
 unfold sU
 refine ⟨⟨fun x hx => ?_,fun x hx => ?_,fun x hx => ?_⟩,?_⟩
 ·obtain ⟨y,hy,rfl⟩:=bj.1 hx; rfl
 ·obtain ⟨y,hy,rfl⟩:=bj.1 hx; exact h2 y hy
 ·obtain ⟨y,hy,rfl⟩:=bj.1 hx; exact hn y (List.mem_of_mem_drop hy)
 ·unfold qA
  rw [List.pairwise_map]
  exact List.Pairwise.sublist (List.drop_sublist _ _) hs
theorem yQ {l out:List Sp} (h:FlR l out):∀ {q:Bytes},Alike q l→qA l→Ch out∧(∀ f ∈ out,¬ f.s < q∧(f.ks≠[]∧yN f.ks)∧(f.s=q∨∃ y ∈ l,f.s=y.e)∧∃ y ∈ l,f.e=y.e)∧(∀ x,(fh out x).Perm (fh l x))∧out.length≤l.length∧∀ f ∈ out,∀ k ∈ f.ks,∃ y ∈ l,k ∈ y.ks:=by
 induction h with
 | nil=>intro q _ _; exact ⟨⟨by simp,.nil⟩,by simp,fun x => .refl _,aF _,by simp⟩
 | @cons b f r out h1 h2 h3 h5 h4 ih =>
  intro q ha hs
  have hb:∀ x ∈ b :: r,¬ x.e < b.e:=fun x hx=>by
   rcases av.1 hx with rfl | hx
   ·exact bQ _
   ·exact bI hs hx
  obtain ⟨n1,n2⟩:=CQ hs hb ha.ne
  obtain ⟨e1,e2⟩:=yP hs hb
  obtain ⟨c1,c2,c3,c4,c5⟩:=ih n1 n2
  have hbq:=ha.s b aK
  have hlt:=ha.lt b aK
  rw [hbq] at hlt
  have hmem:∀ y ∈ sU b (b :: r),∃ z ∈ b :: r,y.e=z.e∧y.ks=z.ks:=fun y hy=>by
   unfold sU at hy
   obtain ⟨z,hz,rfl⟩:=bj.1 hy
   exact ⟨z,List.mem_of_mem_drop hz,rfl,rfl⟩
  refine ⟨⟨fun x hx => ?_,List.pairwise_cons.2 ⟨fun x hx=>by rw [h2]; exact (c2 x hx).1,c1.2⟩⟩,fun x hx => ?_,fun x => ?_,?_,fun x hx k hk => ?_⟩
  ·rcases av.1 hx with rfl | hx
   ·rw [h1,h2,hbq]; exact hlt
   ·exact c1.1 x hx
  ·rcases av.1 hx with rfl | hx
   ·refine ⟨by rw [h1,hbq]; exact bQ _,⟨fun h0 => ?_,h5⟩,.inl (by rw [h1,hbq]),b,aK,h2⟩
    have h5:=h3.length_eq
    rw [h0] at h5
    have h6:cG (b :: r)=b.ks++cG r:=by unfold cG; rw [ae]
    rw [h6,aE] at h5
    exact ha.ne b aK (ak.1 (by simp at h5; omega))
   ·obtain ⟨d1,d2,d3,y,hy,d4⟩:=c2 x hx
    obtain ⟨z,hz,e3,_⟩:=hmem y hy
    refine ⟨fun h=>d1 (List.lt_trans h hlt),d2,.inr ?_,z,hz,by rw [d4,e3]⟩
    rcases d3 with d3 | ⟨y2,hy2,d3⟩
    ·exact ⟨b,aK,d3⟩
    ·obtain ⟨z2,hz2,e4,_⟩:=hmem y2 hy2
     exact ⟨z2,hz2,by rw [d3,e4]⟩
  ·rw [sV]
   have hf:et x f=true↔¬ x < q∧x < b.e:=by rw [eu,h1,h2,hbq]
   by_cases g1:x < q
   ·have z1:et x f=false:=Bool.eq_false_iff.2 fun h=>(hf.1 h).1 g1
    rw [z1,if_neg (by decide),List.nil_append,pB (l:=b :: r) fun s hs=>Bool.eq_false_iff.2 fun h=>(eu.1 h).1 (by rw [ha.s s hs]; exact g1)]
    rw [pB (l:=out) fun s hs=>Bool.eq_false_iff.2 fun h=>(eu.1 h).1 (cY (List.lt_trans g1 hlt) (c2 s hs).1)]
   by_cases g2:x < b.e
   ·have z1:et x f=true:=hf.2 ⟨g1,g2⟩
    rw [z1,if_pos rfl,pB (l:=out) fun s hs=>Bool.eq_false_iff.2 fun h=>(eu.1 h).1 (cY g2 (c2 s hs).1),ao]
    rw [Ak (l:=b :: r) fun s hs=>eu.2 ⟨by rw [ha.s s hs]; exact g1,cY g2 (hb s hs)⟩]
    exact h3
   ·have z1:et x f=false:=Bool.eq_false_iff.2 fun h=>g2 (hf.1 h).2
    rw [z1,if_neg (by decide),List.nil_append]
    refine (c3 x).trans (.of_eq ?_)
    have hsp:fh (b :: r) x=fh ((b :: r).take ((b :: r).countP fun x=>decide (x.e=b.e))) x++fh ((b :: r).drop ((b :: r).countP fun x=>decide (x.e=b.e))) x:=by rw [← dz,cT]
    rw [hsp,pB (l:=(b :: r).take _) fun s hs=>Bool.eq_false_iff.2 fun h=>g2 (by rw [← e1 s hs]; exact (eu.1 h).2),List.nil_append]
    unfold sU fh
    rw [List.flatMap_map]
    refine kF fun s hs => ?_
    have:et x ⟨b.e,s.e,s.ks⟩=et x s:=by
     rw [bG,eu,eu,ha.s s (List.mem_of_mem_drop hs)]
     exact ⟨fun h=>⟨g1,h.2⟩,fun h=>⟨g2,h.2⟩⟩
    rw [this]
  ·have hn:(sU b (b :: r)).length≤r.length:=by
     unfold sU
     rw [aR,List.length_drop,List.countP_cons_of_pos (by simp),aZ]
     omega
   rw [aZ,aZ]
   omega
  ·rcases av.1 hx with rfl | hx
   ·have:=h3.mem_iff.1 hk
    unfold cG at this
    exact cu.1 this
   ·obtain ⟨y,hy,hky⟩:=c5 x hx k hk
    obtain ⟨z,hz,_,e5⟩:=hmem y hy
    exact ⟨z,hz,by rw [← e5]; exact hky⟩
end Go.E
end
section
namespace Go.E
open Go Go.Sort Go.Proofs
def jA (key:Bytes) (P:List Sp):List Sp:=P.flatMap fun p=>if key < p.e then (if p.s < key then [⟨p.s,key,p.ks⟩] else []) else [p]
def il (key:Bytes) (P:List Sp):List Sp:=P.flatMap fun p=>if key < p.e then [⟨key,p.e,p.ks⟩] else []
structure FrJ (l P out:List Sp) (q:Bytes):Prop where
 pa:Alike q P
 ch:Ch out
 oe:∀ f ∈ out,¬ q < f.e
 on:∀ f ∈ out,f.ks≠[]∧yN f.ks
 str:∀ f ∈ out++P,(∃ y ∈ l,f.s=y.s∨f.s=y.e)∧∃ y ∈ l,f.e=y.s∨f.e=y.e
 key:∀ f ∈ out++P,∀ k ∈ f.ks,∃ y ∈ l,k ∈ y.ks
structure FrI (l P out:List Sp) (q:Bytes):Prop where
 j:FrJ l P out q
 pt:∀ x,(fh out x++fh P x).Perm (fh l x)
 len:P.length≤l.length
theorem Al (q:Bytes):FrI [] [] [] q:=⟨⟨⟨by simp,by simp,by simp⟩,⟨by simp,.nil⟩,by simp,by simp,by simp,by simp⟩,fun x => .refl _,aF _⟩
section
variable {l P out:List Sp} {q:Bytes} {s:Sp}
theorem yR (h:FrI l P out q) (hs:s.s=q) (hl:s.s < s.e) (hn:s.ks≠[]):FrI (l++[s]) (P++[s]) out q:=by
 have m1:∀ y ∈ l,y ∈ l++[s]:=fun y hy=>List.mem_append_left _ hy
 have m2:s ∈ l++[s]:=by simp
 refine ⟨⟨⟨fun x hx => ?_,fun x hx => ?_,fun x hx => ?_⟩,h.j.ch,h.j.oe,h.j.on,fun f hf => ?_,fun f hf k hk => ?_⟩,fun x => ?_,by have:=h.len; simp; omega⟩
 ·rcases aS.1 hx with hx | hx
  ·exact h.j.pa.s x hx
  ·rw [aM.1 hx]; exact hs
 ·rcases aS.1 hx with hx | hx
  ·exact h.j.pa.lt x hx
  ·rw [aM.1 hx]; exact hl
 ·rcases aS.1 hx with hx | hx
  ·exact h.j.pa.ne x hx
  ·rw [aM.1 hx]; exact hn
 ·rw [← ax] at hf
  rcases aS.1 hf with hf | hf
  ·obtain ⟨⟨y,hy,e⟩,z,hz,e2⟩:=h.j.str f hf
   exact ⟨⟨y,m1 y hy,e⟩,z,m1 z hz,e2⟩
  ·rw [aM.1 hf]
   exact ⟨⟨s,m2,.inl rfl⟩,s,m2,.inr rfl⟩
 ·rw [← ax] at hf
  rcases aS.1 hf with hf | hf
  ·obtain ⟨y,hy,e⟩:=h.j.key f hf k hk
   exact ⟨y,m1 y hy,e⟩
  ·rw [aM.1 hf] at hk
   exact ⟨s,m2,hk⟩
 ·rw [dz,dz,← ax]
  exact (h.pt x).append_right _
theorem CR (h:FrJ l P out q) {D o2:List Sp} {key:Bytes} (hk:∀ p ∈ D,¬ key < p.e) (hkey:∃ y ∈ l,key=y.s∨key=y.e) (hD:Alike q D) (hs:qA D) (hf:FlR D o2) (hm:∀ p ∈ D,(p.e=key∨∃ y ∈ P,p.e=y.e)∧∃ y ∈ P,p.ks=y.ks) :
    Ch (out++o2)∧(∀ f ∈ out++o2,f.ks≠[]∧yN f.ks)∧(∀ f ∈ o2,¬ key < f.e)∧(∀ x,(fh o2 x).Perm (fh D x))∧(∀ f ∈ o2,(∃ y ∈ l,f.s=y.s∨f.s=y.e)∧∃ y ∈ l,f.e=y.s∨f.e=y.e)∧∀ f ∈ o2,∀ k ∈ f.ks,∃ y ∈ l,k ∈ y.ks:=by
 obtain ⟨c1,c2,c3,c4,c5⟩:=yQ hf hD hs
 have hst:∀ p ∈ D,∃ y ∈ l,p.e=y.s∨p.e=y.e:=fun p hp=>by
  rcases (hm p hp).1 with e | ⟨y,hy,e⟩
  ·rw [e]; exact hkey
  ·rw [e]; exact (h.str y (List.mem_append_right _ hy)).2
 refine ⟨⟨fun f hf => ?_,List.pairwise_append.2 ⟨h.ch.2,c1.2,fun a ha b hb => ?_⟩⟩,fun f hf => ?_,fun f hf => ?_,c3,fun f hf => ?_,fun f hf k hk => ?_⟩
 ·rcases aS.1 hf with hf | hf
  ·exact h.ch.1 f hf
  ·exact c1.1 f hf
 ·exact fun h3=>(c2 b hb).1 (cY h3 (h.oe a ha))
 ·rcases aS.1 hf with hf | hf
  ·exact h.on f hf
  ·exact (c2 f hf).2.1
 ·obtain ⟨_,_,_,y,hy,e⟩:=c2 f hf
  rw [e]; exact hk y hy
 ·obtain ⟨_,_,e1,y,hy,e2⟩:=c2 f hf
  refine ⟨?_,by rw [e2]; exact hst y hy⟩
  rcases e1 with e1 | ⟨z,hz,e1⟩
  ·obtain ⟨p,hp,_⟩:=(hm y hy).2
   obtain ⟨a,_⟩:=h.str p (List.mem_append_right _ hp)
   rw [h.pa.s p hp] at a
   rw [e1]; exact a
  ·rw [e1]; exact hst z hz
 ·obtain ⟨y,hy,hky⟩:=c5 f hf k hk
  obtain ⟨p,hp,e⟩:=(hm y hy).2
  rw [e] at hky
  exact h.key p (List.mem_append_right _ hp) k hky
theorem Ek (h:FrI l P out q) (hq:q < s.s) (hl:s.s < s.e) (hn:s.ks≠[]) {D o2:List Sp} (hD:D.Perm (jA s.s P)) (hs:qA D) (hf:FlR D o2):FrI (l++[s]) (il s.s P++[s]) (out++o2) s.s:=by
 have m1:∀ y ∈ l,y ∈ l++[s]:=fun y hy=>List.mem_append_left _ hy
 have m2:s ∈ l++[s]:=by simp
 have hd:∀ p ∈ D,p.s=q∧¬ s.s < p.e∧q < p.e∧(p.e=s.s∨∃ y ∈ P,p.e=y.e)∧∃ y ∈ P,p.ks=y.ks:=fun p hp=>by
  have hp:=hD.mem_iff.1 hp
  unfold jA at hp
  obtain ⟨y,hy,hp⟩:=cu.1 hp
  split at hp
  ·split at hp
   ·rw [aM.1 hp]
    exact ⟨h.j.pa.s y hy,bQ _,hq,.inl rfl,y,hy,rfl⟩
   ·simp at hp
  ·rename_i hlt
   rw [aM.1 hp]
   exact ⟨h.j.pa.s y hy,hlt,by rw [← h.j.pa.s y hy]; exact h.j.pa.lt y hy,.inr ⟨y,hy,rfl⟩,y,hy,rfl⟩
 have hr:∀ p ∈ il s.s P,p.s=s.s∧s.s < p.e∧∃ y ∈ P,p.e=y.e∧p.ks=y.ks:=fun p hp=>by
  unfold il at hp
  obtain ⟨y,hy,hp⟩:=cu.1 hp
  split at hp
  ·rename_i hlt
   rw [aM.1 hp]
   exact ⟨rfl,hlt,y,hy,rfl,rfl⟩
  ·simp at hp
 have hA:Alike q D:=⟨fun p hp=>(hd p hp).1,fun p hp=>by rw [(hd p hp).1]; exact (hd p hp).2.2.1,fun p hp=>by
  obtain ⟨y,hy,e⟩:=(hd p hp).2.2.2.2
  rw [e]; exact h.j.pa.ne y hy⟩
 have h':FrJ (l++[s]) P out q:=⟨h.j.pa,h.j.ch,h.j.oe,h.j.on,fun f hf=>by
     obtain ⟨⟨y,hy,e⟩,z,hz,e2⟩:=h.j.str f hf
     exact ⟨⟨y,m1 y hy,e⟩,z,m1 z hz,e2⟩,fun f hf k hk=>by
     obtain ⟨y,hy,e⟩:=h.j.key f hf k hk
     exact ⟨y,m1 y hy,e⟩⟩
 obtain ⟨c1,c2,c3,c4,c5,c6⟩:=CR h' (fun p hp=>(hd p hp).2.1) ⟨s,m2,.inl rfl⟩ hA hs hf fun p hp=>(hd p hp).2.2.2
 have hsplit:∀ x,(fh (jA s.s P) x++fh (il s.s P) x).Perm (fh P x):=fun x=>by
  have hps:=h.j.pa.s
  generalize P=Q at hps
  induction Q with
  | nil=>exact .refl _
  | cons p Q ih =>
   have ih:=ih fun y hy=>hps y (aW _ hy)
   have hp:=hps p aK
   have e1:jA s.s (p :: Q)=(if s.s < p.e then (if p.s < s.s then [⟨p.s,s.s,p.ks⟩] else []) else [p])++jA s.s Q:=by unfold jA; rw [ae]
   have e2:il s.s (p :: Q)=(if s.s < p.e then [⟨s.s,p.e,p.ks⟩] else [])++il s.s Q:=by unfold il; rw [ae]
   rw [e1,e2,dz,dz,sV p Q]
   have swap:∀ (a b c d:List K),((a++b)++(c++d)).Perm ((a++c)++(b++d)):=fun a b c d=>by
    rw [ax,ax]
    refine List.Perm.append_left a ?_
    rw [← ax,← ax]
    exact List.Perm.append_right d List.perm_append_comm
   refine (swap _ _ _ _).trans ((List.Perm.of_eq ?_).append ih)
   have one:∀ y:Sp,fh [y] x=if et x y then y.ks else []:=fun y=>by rw [sV]; simp [fh]
   by_cases g:s.s < p.e
   ·rw [if_pos g,if_pos g,if_pos (by rw [hp]; exact hq),one,one]
    have A:et x ⟨p.s,s.s,p.ks⟩=true↔¬ x < p.s∧x < s.s:=eu
    have B:et x ⟨s.s,p.e,p.ks⟩=true↔¬ x < s.s∧x < p.e:=eu
    have C:et x p=true↔¬ x < p.s∧x < p.e:=eu
    by_cases h5:et x p=true
    ·rw [if_pos h5]
     have h5:=C.1 h5
     by_cases h6:x < s.s
     ·rw [if_pos (A.2 ⟨h5.1,h6⟩),if_neg fun h7=>(B.1 h7).1 h6,ao]
     ·rw [if_neg fun h7=>h6 (A.1 h7).2,if_pos (B.2 ⟨h6,h5.2⟩),List.nil_append]
    ·rw [if_neg h5,if_neg fun h6=>h5 (C.2 ⟨(A.1 h6).1,List.lt_trans (A.1 h6).2 g⟩),if_neg fun h6=>h5 (C.2 ⟨fun h7=>(B.1 h6).1 (List.lt_trans (by rw [hp] at h7; exact h7) hq),(B.1 h6).2⟩)]
     rfl
   ·rw [if_neg g,if_neg g,one,show fh [] x=[] from rfl,ao]
 refine ⟨⟨⟨fun x hx => ?_,fun x hx => ?_,fun x hx => ?_⟩,c1,fun f hf => ?_,c2,fun f hf => ?_,fun f hf k hk => ?_⟩,fun x => ?_,?_⟩
 ·rcases aS.1 hx with hx | hx
  ·exact (hr x hx).1
  ·rw [aM.1 hx]
 ·rcases aS.1 hx with hx | hx
  ·rw [(hr x hx).1]; exact (hr x hx).2.1
  ·rw [aM.1 hx]; exact hl
 ·rcases aS.1 hx with hx | hx
  ·obtain ⟨_,_,y,hy,_,e⟩:=hr x hx
   rw [e]; exact h.j.pa.ne y hy
  ·rw [aM.1 hx]; exact hn
 ·rcases aS.1 hf with hf | hf
  ·exact fun h3=>h.j.oe f hf (List.lt_trans hq h3)
  ·exact c3 f hf
 ·rcases aS.1 hf with hf | hf
  ·rcases aS.1 hf with hf | hf
   ·exact h'.str f (List.mem_append_left _ hf)
   ·exact c5 f hf
  ·rcases aS.1 hf with hf | hf
   ·obtain ⟨e1,_,y,hy,e2,_⟩:=hr f hf
    refine ⟨⟨s,m2,.inl e1⟩,?_⟩
    rw [e2]
    exact (h'.str y (List.mem_append_right _ hy)).2
   ·rw [aM.1 hf]
    exact ⟨⟨s,m2,.inl rfl⟩,s,m2,.inr rfl⟩
 ·rcases aS.1 hf with hf | hf
  ·rcases aS.1 hf with hf | hf
   ·exact h'.key f (List.mem_append_left _ hf) k hk
   ·exact c6 f hf k hk
  ·rcases aS.1 hf with hf | hf
   ·obtain ⟨_,_,y,hy,_,e2⟩:=hr f hf
    rw [e2] at hk
    exact h'.key y (List.mem_append_right _ hy) k hk
   ·rw [aM.1 hf] at hk
    exact ⟨s,m2,hk⟩
 ·rw [dz,dz,dz,← ax]
  refine List.Perm.append_right _ (.trans ?_ (h.pt x))
  rw [ax]
  refine List.Perm.append_left _ (.trans ?_ (hsplit x))
  exact List.Perm.append_right _ ((c4 x).trans (yO hD x))
 ·rw [aE,aE,ar]
  have:(il s.s P).length≤P.length:=by
   unfold il
   generalize P=Q
   induction Q with
   | nil=>simp
   | cons p Q ih =>
    rw [ae,aE,aZ]
    split
    ·rw [ar]; omega
    ·rw [List.length_nil]; omega
  have:=h.len
  omega
theorem GD (h:FrI l P out q) {D o2:List Sp} (hD:D.Perm P) (hs:qA D) (hf:FlR D o2):Ch (out++o2)∧(∀ f ∈ out++o2,f.ks≠[]∧yN f.ks)∧(∀ x,(fh (out++o2) x).Perm (fh l x)) ∧
    (∀ f ∈ out++o2,(∃ y ∈ l,f.s=y.s∨f.s=y.e)∧∃ y ∈ l,f.e=y.s∨f.e=y.e)∧∀ f ∈ out++o2,∀ k ∈ f.ks,∃ y ∈ l,k ∈ y.ks:=by
 have hA:Alike q D:=⟨fun p hp=>h.j.pa.s p (hD.mem_iff.1 hp),fun p hp=>h.j.pa.lt p (hD.mem_iff.1 hp),fun p hp=>h.j.pa.ne p (hD.mem_iff.1 hp)⟩
 obtain ⟨c1,c2,c3,c4,c5⟩:=yQ hf hA hs
 have hst:∀ p ∈ D,∃ y ∈ l,p.e=y.s∨p.e=y.e:=fun p hp=>(h.j.str p (List.mem_append_right _ (hD.mem_iff.1 hp))).2
 refine ⟨⟨fun f hf => ?_,List.pairwise_append.2 ⟨h.j.ch.2,c1.2,fun a ha b hb => ?_⟩⟩,fun f hf => ?_,fun x => ?_,fun f hf => ?_,fun f hf k hk => ?_⟩
 ·rcases aS.1 hf with hf | hf
  ·exact h.j.ch.1 f hf
  ·exact c1.1 f hf
 ·exact fun h3=>(c2 b hb).1 (cY h3 (h.j.oe a ha))
 ·rcases aS.1 hf with hf | hf
  ·exact h.j.on f hf
  ·exact (c2 f hf).2.1
 ·rw [dz]
  exact (List.Perm.append_left _ ((c3 x).trans (yO hD x))).trans (h.pt x)
 ·rcases aS.1 hf with hf | hf
  ·exact h.j.str f (List.mem_append_left _ hf)
  ·obtain ⟨_,_,e1,y,hy,e2⟩:=c2 f hf
   refine ⟨?_,by rw [e2]; exact hst y hy⟩
   rcases e1 with e1 | ⟨z,hz,e1⟩
   ·have hp:=hD.mem_iff.1 hy
    obtain ⟨a,_⟩:=h.j.str y (List.mem_append_right _ hp)
    rw [h.j.pa.s y hp] at a
    rw [e1]; exact a
   ·rw [e1]; exact hst z hz
 ·rcases aS.1 hf with hf | hf
  ·exact h.j.key f (List.mem_append_left _ hf) k hk
  ·obtain ⟨y,hy,hky⟩:=c5 f hf k hk
   exact h.j.key y (List.mem_append_right _ (hD.mem_iff.1 hy)) k hky
end
end Go.E
end
section
namespace Go.E
open Go Go.Sort Go.Proofs
theorem CS {α:Type} [DecidableEq α]:∀ {A B:List α},A.Pairwise (· ≠ ·)→(∀ a ∈ A,a ∈ B)→A.length≤B.length:=by
 intro A
 induction A with
 | nil=>intro B _ _; exact aT _
 | cons a A ih =>
  intro B h hB
  have ha:=hB a aK
  have h1:=ih (B:=B.erase a) h.of_cons fun x hx=>(List.mem_erase_of_ne (bI h hx).symm).2 (hB x (aW _ hx))
  have h2:=List.length_erase_of_mem ha
  have h3:=List.length_pos_of_mem ha
  rw [aZ]
  omega
theorem Em {l out:List Sp} (h:Ch out) (hs:∀ f ∈ out,∃ y ∈ l,f.s=y.s∨f.s=y.e):out.length≤2 * l.length:=by
 refine ah ?_ (gE l)
 rw [← aR (f:=Sp.s)]
 refine CS ?_ fun x hx => ?_
 ·rw [List.pairwise_map]
  refine (List.Pairwise.and_mem.1 h.2).imp ?_
  rintro a b ⟨ha,_,hab⟩ he
  have:=h.1 a ha
  rw [he] at this
  exact hab this
 ·obtain ⟨f,hf,rfl⟩:=bj.1 hx
  exact ((ku l).2 _).2 (hs f hf)
structure FrOut (l F:List Sp):Prop where
 ch:Ch F
 ne:∀ f ∈ F,f.ks≠[]∧yN f.ks
 pt:∀ x,(fh F x).Perm (fh l x)
 str:∀ f ∈ F,(∃ y ∈ l,f.s=y.s∨f.s=y.e)∧∃ y ∈ l,f.e=y.s∨f.e=y.e
 key:∀ f ∈ F,∀ k ∈ f.ks,∃ y ∈ l,k ∈ y.ks
theorem GE {F:List Sp} {f:Sp} (h:Ch F) (hf:f ∈ F):f.ks.Sublist (fh F f.s):=by
 unfold fh
 induction F with
 | nil=>cases hf
 | cons a F ih =>
  rw [ae]
  rcases av.1 hf with rfl | hf
  ·rw [if_pos (eu.2 ⟨bQ _,h.1 f aK⟩)]
   exact List.sublist_append_left _ _
  ·exact (ih ⟨fun t ht=>h.1 t (aW _ ht),h.2.of_cons⟩ hf).trans (List.sublist_append_right _ _)
theorem H2 {F:List Sp} {f:Sp} (h:Ch F) (hf:f ∈ F):f.ks.length≤(fh F f.s).length:=(GE h hf).length_le
theorem CT {l P out:List Sp} {q:Bytes} (h:FrI l P out q):(cG P).length≤(cG l).length:=by
 have h1:fh P q=cG P:=Ak fun s hs=>eu.2 ⟨by rw [h.j.pa.s s hs]; exact bQ _,by
  have:=h.j.pa.lt s hs
  rw [h.j.pa.s s hs] at this
  exact this⟩
 have h2:=(h.pt q).length_eq
 rw [aE,h1] at h2
 have h3:∀ (L:List Sp),(fh L q).length≤(cG L).length:=fun L=>by
  unfold fh cG
  induction L with
  | nil=>simp
  | cons a L ih =>
   rw [ae,ae,aE,aE]
   split
   ·omega
   ·rw [List.length_nil]; omega
 have:=h3 l
 omega
theorem CU {a b:List K} (p:a.Perm b):dy a=dy b:=by
 have h1:(dy a).Perm (dy b):=(eh a).trans (p.trans (eh b).symm)
 have s1:=jJ pj a
 have s2:=jJ pj b
 refine List.Perm.eq_of_pairwise (fun x y _ _ q1 q2 => ?_) s1 s2 h1
 have q1:=gi.1 q1
 have q2:=gi.1 q2
 obtain ⟨xt,xs,xv⟩:=x
 obtain ⟨yt,ys,yv⟩:=y
 simp only at q1 q2
 rcases q1 with q1 | ⟨t1,q1⟩
 ·rcases q2 with q2 | ⟨t2,_⟩ <;> omega
 rcases q2 with q2 | ⟨_,q2⟩
 ·omega
 rcases q1 with q1 | ⟨e1,q1⟩
 ·rcases q2 with q2 | ⟨e2,_⟩
  ·exact absurd q2 (iw q1)
  ·rw [e2] at q1; exact absurd q1 (bQ _)
 rcases q2 with q2 | ⟨_,q2⟩
 ·rw [e1] at q2; exact absurd q2 (bQ _)
 have e3:xv=yv:=eY q2 q1
 subst t1 e1 e3
 rfl
theorem Jv {snap:Nat} {a b:List K} (h:Cd a) (p:a.Perm b):(Tf snap a).map K.sv=(Tf snap b).map K.sv:=by
 rw [← sF h,← sF (h.perm p),CU p]
theorem Eo {Lv:List (List Sp)} {F:List Sp} {snap:Nat} (hw:∀ L ∈ Lv,Wf L) (hF:Wf F) (hp:∀ x,(Tf snap (fh Lv.flatten x)).map K.sv=(Tf snap (fh F x)).map K.sv):(gU (rV Lv snap none none)).map cW=(gU (rV [F] snap none none)).map cW:=by
 have hw2:∀ L ∈ [F],Wf L:=fun L hL=>by rw [aM.1 hL]; exact hF
 rw [rV,rV,wF,wF]
 refine yE (xN (kz hw)) (xN (kz hw2)) fun x => ?_
 rw [yG hw,yG hw2,hp x,show [F].flatten=F by simp]
end Go.E
end
section
namespace Go.E
open Go Go.Sort Go.Proofs
def qq (x:K):Bool:=au x.tr == 21
def qQ (x:K):Bool:=au x.tr == 20
def kJ (x:K):Bool:=au x.tr == 19
def kK (ks:List K):Prop:=(∀ x ∈ ks,(au x.tr=19∨au x.tr=20∨au x.tr=21)∧(au x.tr=20→x.val=[])∧(au x.tr=19→x.suf=[]∧x.val=[]))∧ks.Pairwise fun x k=>¬ x.tr < k.tr∧¬ (x.tr=k.tr∧x.suf=k.suf)
def dI (s:Sp) (cur:List K):List Sp :=
 (if cur.filter qq=[] then [] else [⟨s.s,s.e,cur.filter qq⟩])++(if cur.filter qQ=[] then [] else [⟨s.s,s.e,cur.filter qQ⟩]) ++
 (if cur.filter kJ=[] then [] else [⟨s.s,s.e,[⟨(cur.filter kJ).head!.tr,[],[]⟩]⟩])
def fI (s:Sp) (a:List Sp × List K) (k:K):List Sp × List K :=
 if a.2≠[]∧a.2.head!.tr / 256=k.tr / 256 then (a.1,a.2++[k]) else (a.1++dI s a.2,[k])
def fT (s:Sp):List Sp:=(s.ks.foldl (fI s) ([],[])).1++dI s (s.ks.foldl (fI s) ([],[])).2
def dW (l:List Sp):List K:=l.flatMap Sp.ks
theorem GF {a b:Nat} (h:a / 256=b / 256) (h2:au a=au b):a=b:=by
 unfold au at h2
 omega
def LX (cur:List K):Prop:=∀ x ∈ cur,∀ y ∈ cur,x.tr / 256=y.tr / 256
theorem sX {s:Sp} {cur:List K} (h:kK cur) (h1:LX cur):(dW (dI s cur)).Perm cur:=by
 have e1:dW (if cur.filter qq=[] then [] else [(⟨s.s,s.e,cur.filter qq⟩:Sp)])=cur.filter qq:=by
  split
  ·rename_i h0; rw [h0]; rfl
  ·simp [dW]
 have e2:dW (if cur.filter qQ=[] then [] else [(⟨s.s,s.e,cur.filter qQ⟩:Sp)])=cur.filter qQ:=by
  split
  ·rename_i h0; rw [h0]; rfl
  ·simp [dW]
 have e3:dW (if cur.filter kJ=[] then [] else [(⟨s.s,s.e,[⟨(cur.filter kJ).head!.tr,[],[]⟩]⟩:Sp)])=cur.filter kJ:=by
  split
  ·rename_i h0; rw [h0]; rfl
  ·rename_i h0
   obtain ⟨z,l,hl⟩:=List.exists_cons_of_ne_nil h0
   have hz:z ∈ cur.filter kJ:=by rw [hl]; exact aK
   obtain ⟨hz1,hz2⟩:=bH.1 hz
   have hz9:au z.tr=19:=by simpa [kJ] using hz2
   have hfz:=(h.1 z hz1).2.2 hz9
   have hln:l=[]:=by
    cases l with
    | nil=>rfl
    | cons y l =>
     exfalso
     have hp:(cur.filter kJ).Pairwise fun x k=>¬ x.tr < k.tr∧¬ (x.tr=k.tr∧x.suf=k.suf):=h.2.filter _
     rw [hl] at hp
     have hzy:=bI hp aK
     have hy:y ∈ cur.filter kJ:=by rw [hl]; exact aW _ aK
     obtain ⟨hy1,hy2⟩:=bH.1 hy
     have hy9:au y.tr=19:=by simpa [kJ] using hy2
     have hfy:=(h.1 y hy1).2.2 hy9
     exact hzy.2 ⟨GF (h1 z hz1 y hy1) (by rw [hz9,hy9]),by rw [hfz.1,hfy.1]⟩
   subst hln
   rw [hl]
   cases z
   simp_all [dW]
   rfl
 have eA:dW (dI s cur)=cur.filter qq++cur.filter qQ++cur.filter kJ:=by
  unfold dI dW
  rw [ay,ay]
  have e1':=e1; have e2':=e2; have e3':=e3
  unfold dW at e1' e2' e3'
  rw [e1',e2',e3']
 rw [eA]
 have aux:∀ l:List K,(∀ x ∈ l,au x.tr=19∨au x.tr=20∨au x.tr=21)→(l.filter qq++l.filter qQ++l.filter kJ).Perm l:=by
  intro l
  induction l with
  | nil=>intro _; exact List.Perm.refl _
  | cons x l ih =>
   intro hk
   have ih:=ih fun y hy=>hk y (aW _ hy)
   rcases hk x aK with h9 | h9 | h9
   ·rw [List.filter_cons_of_neg (by simp [qq,h9]),List.filter_cons_of_neg (by simp [qQ,h9]),List.filter_cons_of_pos (by simp [kJ,h9])]
    exact List.perm_middle.trans (ih.cons x)
   ·rw [List.filter_cons_of_neg (by simp [qq,h9]),List.filter_cons_of_pos (by simp [qQ,h9]),List.filter_cons_of_neg (by simp [kJ,h9]),ax,List.cons_append]
    rw [ax] at ih
    exact List.perm_middle.trans (ih.cons x)
   ·rw [List.filter_cons_of_pos (by simp [qq,h9]),List.filter_cons_of_neg (by simp [qQ,h9]),List.filter_cons_of_neg (by simp [kJ,h9]),List.cons_append,List.cons_append]
    exact ih.cons x
 exact aux cur fun x hx=>(h.1 x hx).1
theorem kK.sub {a b:List K} (h:kK a) (s:b.Sublist a):kK b:=⟨fun x hx=>h.1 x (s.subset hx),h.2.sublist s⟩
theorem mG {s:Sp} (h:kK s.ks):(dW (fT s)).Perm s.ks:=by
 have key:∀ (l:List K) (a:List Sp × List K) (done:List K),kK (done++a.2++l)→LX a.2→(dW a.1).Perm done→(dW ((l.foldl (fI s) a).1++dI s (l.foldl (fI s) a).2)).Perm (done++a.2++l):=by
  intro l
  induction l with
  | nil =>
   intro a done hf h1 hp
   have e:dW (a.1++dI s a.2)=dW a.1++dW (dI s a.2):=by unfold dW; rw [ay]
   rw [List.foldl_nil,e,ao]
   refine List.Perm.append hp (sX (hf.sub ?_) h1)
   rw [ao]
   exact List.sublist_append_right _ _
  | cons k l ih =>
   intro a done hf h1 hp
   rw [List.foldl_cons]
   by_cases hc:a.2≠[]∧a.2.head!.tr / 256=k.tr / 256
   ·have e:fI s a k=(a.1,a.2++[k]):=if_pos hc
    rw [e]
    have:=ih (a.1,a.2++[k]) done (by simpa using hf) (fun x hx y hy => ?_) hp
    ·simpa using this
    ·obtain ⟨z,r,hr⟩:=List.exists_cons_of_ne_nil hc.1
     have hz:z ∈ a.2:=by rw [hr]; exact aK
     have hzk:z.tr / 256=k.tr / 256:=by have:=hc.2; rw [hr] at this; exact this
     have hx':x.tr / 256=k.tr / 256:=by
      rcases aS.1 hx with h | h
      ·rw [h1 x h z hz,hzk]
      ·rw [aM.1 h]
     have hy':y.tr / 256=k.tr / 256:=by
      rcases aS.1 hy with h | h
      ·rw [h1 y h z hz,hzk]
      ·rw [aM.1 h]
     rw [hx',hy']
   ·have e:fI s a k=(a.1++dI s a.2,[k]):=if_neg hc
    rw [e]
    have hfa:kK a.2:=hf.sub ((List.sublist_append_right done a.2).trans (List.sublist_append_left _ _))
    have e2:dW (a.1++dI s a.2)=dW a.1++dW (dI s a.2):=by unfold dW; rw [ay]
    have:=ih (a.1++dI s a.2,[k]) (done++a.2) (by simpa using hf) (fun x hx y hy=>by rw [aM.1 hx,aM.1 hy]) (by rw [e2]; exact List.Perm.append hp (sX hfa h1))
    simpa using this
 have:=key s.ks ([],[]) [] (by simpa using h) (fun x hx=>by simp at hx) (List.Perm.refl _)
 simpa [fT] using this
theorem jK {s f:Sp} (h:f ∈ fT s):f.s=s.s∧f.e=s.e∧f.ks≠[]:=by
 have hfl:∀ cur,∀ f ∈ dI s cur,f.s=s.s∧f.e=s.e∧f.ks≠[]:=by
  intro cur f hf
  unfold dI at hf
  rcases aS.1 hf with hf | hf
  ·rcases aS.1 hf with hf | hf
   ·split at hf
    ·simp at hf
    ·rename_i h0; rw [aM.1 hf]; exact ⟨rfl,rfl,h0⟩
   ·split at hf
    ·simp at hf
    ·rename_i h0; rw [aM.1 hf]; exact ⟨rfl,rfl,h0⟩
  ·split at hf
   ·simp at hf
   ·rw [aM.1 hf]; exact ⟨rfl,rfl,by simp⟩
 have key:∀ (l:List K) (a:List Sp × List K),(∀ f ∈ a.1,f.s=s.s∧f.e=s.e∧f.ks≠[])→∀ f ∈ (l.foldl (fI s) a).1,f.s=s.s∧f.e=s.e∧f.ks≠[]:=by
  intro l
  induction l with
  | nil=>intro a ha; exact ha
  | cons k l ih =>
   intro a ha
   rw [List.foldl_cons]
   refine ih _ ?_
   unfold fI
   split
   ·exact ha
   ·intro f hf
    rcases aS.1 hf with hf | hf
    ·exact ha f hf
    ·exact hfl _ f hf
 unfold fT at h
 rcases aS.1 h with h | h
 ·exact key s.ks ([],[]) (by simp) f h
 ·exact hfl _ f h
theorem H3 {l:List Sp} (h:∀ s ∈ l,kK s.ks) (x:Bytes):(fh (l.flatMap fT) x).Perm (fh l x):=by
 have one:∀ s:Sp,kK s.ks→(fh (fT s) x).Perm (if et x s then s.ks else []):=fun s hs=>by
  have hh:∀ f ∈ fT s,et x f=et x s:=fun f hf=>by
   obtain ⟨e1,e2,_⟩:=jK hf
   unfold et
   rw [e1,e2]
  have e:fh (fT s) x=if et x s then dW (fT s) else []:=by
   unfold fh dW
   cases hc:et x s with
   | true =>
    simp only [if_true]
    rw [List.flatMap_def,List.flatMap_def]
    congr 1
    refine List.map_congr_left fun f hf => ?_
    rw [hh f hf,hc]; rfl
   | false =>
    simp only [Bool.false_eq_true,if_false]
    refine List.flatMap_eq_nil_iff.2 fun f hf => ?_
    rw [hh f hf,hc]
    rfl
  rw [e]
  split
  ·exact mG hs
  ·exact List.Perm.refl _
 induction l with
 | nil=>exact List.Perm.refl _
 | cons s l ih =>
  rw [ae,dz]
  have e:fh (s :: l) x=(if et x s then s.ks else [])++fh l x:=by unfold fh; rw [ae]
  rw [e]
  exact List.Perm.append (one s (h s aK)) (ih fun t ht=>h t (aW _ ht))
end Go.E
end
