/- Parts of the proof: Wl, Kg, Kh, Ki, Xa, Xb. -/
import Derived.Test.YtjcbeinpkafjiaaGreatR17
import Derived.Test.YtjcbeinpkafjiaaGreatR20
import Derived.Test.YtjcbeinpkafjiaaGreatR21
import Derived.Test.YtjcbeinpkafjiaaGreatR22
set_option linter.all false
set_option maxRecDepth 10000
section
namespace Go.E
open Go Go.Sort Go.Proofs Go.Proofs.Tryz
def Fl (lo hi:Option Bytes) (steps:List (Nat × Bytes)):Prop:=∀ x ∈ steps,(x.1=0→lo=none)∧(x.1=1→False)∧(x.1=4∨x.1=5→False)∧x.2.length≤4294967296
end Go.E
namespace Go.Proofs
open Go Go.E Go.Sort Go.Proofs.Tryz
section
variable {k:aq} {d w:World}
set_option maxHeartbeats 4000000 in
theorem EW {sv:Value} {Lv:List (List Sp)} {snap:Nat} {kl kh:Bytes} {bl bh:Bool} {steps:List (Nat × Bytes)} {q:UQ} {KS:List K→List K→Prop} (hKL:∀ a b,KS a b→a.length=b.length) (hKS:∀ ks b,(q.F ks).map q.π=b.map q.π→KS (q.F ks) b) (r:RIn Lv snap (pI kl bl) (pI kh bh)) (qc:QC q snap Lv) (hs:Sl Ci 2 d sv steps)
    (hst:Fl (pI kl bl) (pI kh bh) steps) (hsl:steps.length < 1000000) {d5 w5:World} {C U Bf:Nat} {lov hiv fv:Value} {Ls:List Lvl} {n:Nat} {K:aq} (g:Gr d w d5 w5) (hU:UOk d5 w5 U) (hC:pR d5 C) (hL:OB d5 lov (pI kl bl)) (hH:OB d5 hiv (pI kh bh)) (hB:BfOk d5 w5 Bf) (hF:kO n d5 w5 fv Ls) (hne:Bf≠U) (hUn:U < n) (hU0:w.heap.size≤U) (hB0:w.heap.size≤Bf) (hBI:∀ x ∈ Ls,x.I≠Bf) (hm:Ls.map Lvl.L=Lv)
    (hK:∀ w6,(∀ K2:aq,(∀ d2 w2 v l,Gr d w d2 w2→Sl zZ 5 d2 v l→Pw (mz (qV q Lv (pI kl bl) (pI kh bh)) KS) (qE (qV q Lv (pI kl bl) (pI kh bh)) (-2) false 0 steps) l→K2 v w2)→aX prog 64 #[.iface 229 (.pointer (some ⟨U,81,none⟩)),sv] K2 w6)→K (.iface 229 (.pointer (some ⟨U,81,none⟩))) w6) :
    aX prog 65 #[.pointer (some ⟨U,0,none⟩),.pointer (some ⟨C,0,none⟩),.int .u64 snap,lov,hiv,.pointer none,.pointer none,.bool q.it,.pointer (some ⟨Bf,0,none⟩),fv] K w5:=by
 have hn:Ls.length≤10:=by have:=r.n10; rw [← hm,ah] at this; exact this
 refine EJ hF.1 g.j hU.o hB.o hn hne hU.c hU.f (hB.c 1 (by omega)) hB.c2 (hB.c 4 (by omega)) hB.f hL hH hC.1 hC.2.1 hC.2.2 fun w6 k6 m6 u6=>hK w6 fun K2 hK2 => ?_
 have uc:=JD r qc hC hB hU hF hne hUn hBI hm hL hH
 have hd6:bz d5 w6:=g.j.keep k6 fun b x h=>by
  rcases h with rfl | ⟨rfl,_⟩
  ·exact hU.o x
  ·exact hB.o x
 have fU:∀ x,w6.frozen? ⟨U,x,none⟩=false:=fun x=>by rw [k6.frozen U x hU.lt]; exact hU.f x
 have fB:∀ x,w6.frozen? ⟨Bf,x,none⟩=false:=fun x=>by rw [k6.frozen Bf x (aE hB.c2)]; exact hB.f x
 have cB:∀ x u,x≠1→x≠2→x≠4→w5.cell? ⟨Bf,x,none⟩=some u→w6.cell? ⟨Bf,x,none⟩=some u:=fun x u h1 h2 h3 hu=>k6.some hu fun h=>by
  rcases h with h | ⟨_,h⟩
  ·exact hne h
  ·omega
 have hF6:kO n d5 w6 fv Ls:=⟨hF.1,hF.2.keep k6 (fun x hx o h=>by
  rcases h with h | ⟨h,_⟩
  ·have:=(hF.2.at_ x hx).2.2.2.1; omega
  ·exact hBI x hx h) (bz.refl _) fun b h _=>h⟩
 have h0:=EV rfl hd6 uc m6 u6 hF6 hne fU fB (fun x hx=>cB x _ (by omega) (by omega) (by omega) (hB.c x (by omega))) (cB 3 _ (by omega) (by omega) (by omega) hB.c3) (cB 9 _ (by omega) (by omega) (by omega) hB.c9) hL hH
 have eG:GB (uG (q.k U) Ls.toArray (bH Lv.flatten)) (pI kl bl) (pI kh bh)=GB (GL q.F Lv.length (de Lv) (bH Lv.flatten)) (pI kl bl) (pI kh bh):=by
  unfold uG
  rw [ja hm]
  congr 2
  rw [← hm]; simp
 refine tW (uc.wi hKL hKS) h0 (hs.inc Ci.mono g.i) (fun x hx => ?_) hsl fun a w7 v l b1 b2 b3 b4 b5 b6 => ?_
 ·obtain ⟨s1,s2,s3,s4⟩:=hst x hx
  exact ⟨fun h=>⟨trivial,s1 h⟩,s2,s3,s4⟩
 ·have hx:bY w w6:=g.x.tr k6 fun b o hb h=>by
    rcases h with h | ⟨h,_⟩ <;> omega
  refine hK2 a w7 v l ⟨hx.tr b4 fun b o hb h => ?_,g.i.trans b1,b2,fun b hb ho=>b3 b (aI hb hx.size) (g.o b hb ho)⟩ b5 ?_
  ·rcases h with h | h | ⟨y,h⟩ | h | h
   ·omega
   ·omega
   ·rcases h with (⟨h,_⟩ | ⟨h,_⟩ | ⟨i,hi,h⟩ | ⟨h,_⟩ | ⟨h,_⟩) | ⟨h,_⟩
    ·omega
    ·omega
    ·have hat:Ls.toArray[i]! ∈ Ls:=by rw [aG Ls.toArray i hi]; simpa using aS (by simpa using hi)
     have:=(hF.2.at_ _ hat).2.2.2.1
     omega
    ·omega
    ·omega
    ·omega
   ·exact h
   ·exact h
  ·have eV:uV (q.k U) Ls.toArray (bH Lv.flatten) (pI kl bl) (pI kh bh)=qV q Lv (pI kl bl) (pI kh bh):=congrArg (Vw q.π) eG
   rw [← eV]; exact b6
set_option maxHeartbeats 4000000 in
theorem nO {lv sv:Value} {Lv:List (List Sp)} {snap:Nat} {kl kh:Bytes} {bl bh:Bool} {steps:List (Nat × Bytes)} (hv:Sl jx 1 d lv Lv) (hs:Sl Ci 2 d sv steps) (hinc:bz d w) (r:RIn Lv snap (pI kl bl) (pI kh bh)) (hkl:kl.length≤4294967296) (hkh:kh.length≤4294967296)
    (hst:Fl (pI kl bl) (pI kh bh) steps) (hsl:steps.length < 1000000)
    (hk:∀ d2 w2 v l,Gr d w d2 w2→Sl zZ 5 d2 v l→Pw (mz (rV Lv snap (pI kl bl) (pI kh bh)) (E1 qG)) (qE (rV Lv snap (pI kl bl) (pI kh bh)) (-2) false 0 steps) l→k v w2) :
    aX prog 18 #[lv,.int .u64 snap,.agg #[.string ⟨kl.toArray⟩,.bool bl],.agg #[.string ⟨kh.toArray⟩,.bool bh],sv] k w:=by
 have fin:=fun {d5 w5:World} {C U Bf:Nat} {lov hiv fv:Value} {Ls:List Lvl} {n:Nat} {K:aq}=>EW (w:=w) (q:=K9 snap) (KS:=E1 qG) Fe (fun ks b=>HB snap ks b) r (Fj r.snap) hs hst hsl (d5:=d5) (w5:=w5) (C:=C) (U:=U) (Bf:=Bf) (lov:=lov) (hiv:=hiv) (fv:=fv) (Ls:=Ls) (n:=n) (K:=K)
 obtain ⟨la,lc,rfl⟩:=hv.form
 obtain ⟨sa,sc,rfl⟩:=hs.form
 refine ai [.tmp 10] func18 ?_
 refine al ?_
 refine ay (sq [1] (.read 2 (.read 4 (sq [7,10] (.alt (.eff 0 [2,4] (.alt (.eff 3 [4] (.alt (.eff 5 [] (.alt (.eff 6 [2,4] (.eff 8 [] (.eff 9 [] (.eff 11 [] (sq [12] .done))))) (.eff 8 [] (.eff 6 [2,4] (.eff 9 [] (.eff 11 [] (sq [12] .done))))))) (.eff 6 [2,4] (.eff 5 [] (.eff 8 [] (.eff 9 [] (.eff 11 [] (sq [12] .done)))))))) (.eff 6 [2,4] (.eff 3 [4] (.eff 5 [] (.eff 8 [] (.eff 9 [] (.eff 11 [] (sq [12] .done))))))))) (.eff 6 [2,4] (.eff 0 [2,4] (.eff 3 [4] (.eff 5 [] (.eff 8 [] (.eff 9 [] (.eff 11 [] (sq [12] .done))))))))))))) ?_
 generalize hO:Obj.cells _ 154=O
 obtain ⟨wc,hw1⟩:∃ wc,wc=(((w.alloc (.cells #[.string ⟨kl.toArray⟩,.bool bl] 37)).alloc (.cells #[.string ⟨kh.toArray⟩,.bool bh] 37)).alloc O).drew:=⟨_,rfl⟩
 rw [← hw1]
 have x1:bY w wc:=by rw [hw1]; exact Keep.drew (((aL _).trans (aL _)).trans (aL _))
 have hz:w.heap.size+3≤wc.heap.size:=by rw [hw1,World.size_drew,World.size_alloc,World.size_alloc,World.size_alloc]; omega
 obtain ⟨dc,hdc⟩:∃ dc,dc=d:=⟨_,rfl⟩
 have t:Gr d w dc wc:=by rw [hdc]; exact Gr.ext hinc x1
 have p0:wc.cell? ⟨w.heap.size,0,none⟩=some (.string ⟨kl.toArray⟩):=by rw [hw1]; exact bb @aA
 have p1:wc.cell? ⟨w.heap.size,1,none⟩=some (.bool bl):=by rw [hw1]; exact bb @aA
 have q0:wc.cell? ⟨w.heap.size+1,0,none⟩=some (.string ⟨kh.toArray⟩):=by rw [hw1]; exact bb @aA
 have q1:wc.cell? ⟨w.heap.size+1,1,none⟩=some (.bool bh):=by rw [hw1]; exact bb @aA
 have hU:UOk dc wc (w.heap.size+2):=by
  refine ⟨fun x hx => ?_,fun x => ?_,by rw [hdc]; exact hinc.out (by omega)⟩
  rotate_left
  ·have key:∀ (v:World) (c:Array Value) (t:TypeId),v.heap.size=w.heap.size+2→(v.alloc (.cells c t)).drew.frozen? ⟨w.heap.size+2,x,none⟩=false:=fun v c t hv=>by rw [← hv]; exact World.frozen?_alloc_new v c t x
   rw [hw1,← hO]
   exact key _ _ _ (by rw [World.size_alloc,World.size_alloc])
  rw [hw1,← hO]
  refine bf @aA ?_
  exact ⟨_,aC (show x < 95 from hx)⟩
 have hlen:∀ x ∈ Lv,x.length < 1000000∧∀ s ∈ x,EF s:=fun x hx=>by
  obtain ⟨a,b⟩:=r.len x hx
  refine ⟨by omega,fun s hs => ?_⟩
  obtain ⟨b1,b2,b3,_,b5⟩:=b s hs
  exact ⟨by omega,by omega,by omega,b5⟩
 clear hw1 x1 hdc
 refine fW @p0 @p1 @q0 @q1 ?_
 refine ⟨?_,?_⟩
 ·
  refine kz t.j fun dc wc C g _ hC0 hC1 hC5 => ?_
  have t:=t.trans g
  have hz:=aU hz g.x.size
  have p0:=g.x.cell p0
  have p1:=g.x.cell p1
  have q0:=g.x.cell q0
  have q1:=g.x.cell q1
  have hU:=hU.gr g
  (try have hC:=hC.gr g)
  (try have hL:=OB.inc hL g.i)
  (try have hH:=OB.inc hH g.i)
  (try have hB:=hB.gr g)
  (try have hBl:=aI hBl g.x.size)
  (try have hF:=hF.gr g)
  have hC:pR dc C:=⟨hC0,hC1,hC5⟩
  refine fW @p0 @p1 @q0 @q1 ?_
  refine ⟨?_,?_⟩
  ·
   refine eL t.j hkl fun dc wc lov g hLn => ?_
   have t:=t.trans g
   have hz:=aU hz g.x.size
   have p0:=g.x.cell p0
   have p1:=g.x.cell p1
   have q0:=g.x.cell q0
   have q1:=g.x.cell q1
   have hU:=hU.gr g
   (try have hC:=hC.gr g)
   (try have hL:=OB.inc hL g.i)
   (try have hH:=OB.inc hH g.i)
   (try have hB:=hB.gr g)
   (try have hBl:=aI hBl g.x.size)
   (try have hF:=hF.gr g)
   have hL:=hLn
   refine fW @p0 @p1 @q0 @q1 ?_
   refine ⟨?_,?_⟩
   ·
    refine eL t.j hkh fun dc wc hiv g hHn => ?_
    have t:=t.trans g
    have hz:=aU hz g.x.size
    have p0:=g.x.cell p0
    have p1:=g.x.cell p1
    have q0:=g.x.cell q0
    have q1:=g.x.cell q1
    have hU:=hU.gr g
    (try have hC:=hC.gr g)
    (try have hL:=OB.inc hL g.i)
    (try have hH:=OB.inc hH g.i)
    (try have hB:=hB.gr g)
    (try have hBl:=aI hBl g.x.size)
    (try have hF:=hF.gr g)
    have hH:=hHn
    refine fW @p0 @p1 @q0 @q1 ?_
    refine ⟨?_,?_⟩
    ·
     generalize hO2:Obj.cells _ 172=O2
     obtain ⟨Bf,hBe⟩:∃ b,b=wc.heap.size:=⟨_,rfl⟩
     (try rw [← hBe])
     have hBU:w.heap.size+3≤Bf:=by omega
     have hBn:BfOk dc (wc.alloc O2) Bf:=by
      rw [hBe,← hO2]
      exact ⟨fun x hx=>by (rcases hx with rfl | rfl | hx | rfl); exact aA (aD _) (by omega); exact aA (aD _) (by omega); (have h:x=4∨x=5∨x=6∨x=7∨x=8:=by omega); (rcases h with rfl | rfl | rfl | rfl | rfl <;> exact aA (aD _) (by omega)); exact aA (aD _) (by omega),aA (aD _) (by omega),aA (aD _) (by omega),aA (aD _) (by omega),fun x=>by simp (disch:=first | exact dZ | fail) only [go_sem],t.j.out (aD _)⟩
     have g:Gr dc wc dc (wc.alloc O2):=Gr.ext t.j (aL _)
     (try have hBI:∀ x ∈ Ls,x.I≠Bf:=fun x hx=>by have:=(hF.2.at_ x hx).2.2.2.2; omega)
     have hBl:Bf < (wc.alloc O2).heap.size:=by rw [World.size_alloc]; omega
     have t:=t.trans g
     have hz:=aU hz g.x.size
     have p0:=g.x.cell p0
     have p1:=g.x.cell p1
     have q0:=g.x.cell q0
     have q1:=g.x.cell q1
     have hU:=hU.gr g
     (try have hC:=hC.gr g)
     (try have hL:=OB.inc hL g.i)
     (try have hH:=OB.inc hH g.i)
     (try have hB:=hB.gr g)
     (try have hBl:=aI hBl g.x.size)
     (try have hF:=hF.gr g)
     have hB:=hBn
     obtain ⟨wd,hwd⟩:∃ wd,wd=wc.alloc O2:=⟨_,rfl⟩
     rw [← hwd] at t hz p0 p1 q0 q1 hU hB hBl ⊢
     (try rw [← hwd] at hF)
     obtain ⟨nF,hnF⟩:∃ n,n=wd.heap.size:=⟨_,rfl⟩
     have hUn:w.heap.size+2 < nF:=by omega
     refine df (hv.inc jx.mono t.i) (by have:=r.n10; omega) hlen t.j fun dc wc fv Ls g f1 f2 hm => ?_
     rw [← hnF] at f2
     (try have hBl:Bf < nF:=by omega)
     (try have hBI:∀ x ∈ Ls,x.I≠Bf:=fun x hx=>by have:=(f2.at_ x hx).2.2.2.1; omega)
     have t:=t.trans g
     have hz:=aU hz g.x.size
     have p0:=g.x.cell p0
     have p1:=g.x.cell p1
     have q0:=g.x.cell q0
     have q1:=g.x.cell q1
     have hU:=hU.gr g
     (try have hC:=hC.gr g)
     (try have hL:=OB.inc hL g.i)
     (try have hH:=OB.inc hH g.i)
     (try have hB:=hB.gr g)
     (try have hBl:=aI hBl g.x.size)
     (try have hF:=hF.gr g)
     have hF:kO nF dc wc fv Ls:=⟨f1,f2⟩
     refine fW @p0 @p1 @q0 @q1 ?_
     refine fin t hU hC hL hH hB hF (by omega) hUn (by omega) (by omega) hBI hm fun w6 hw6 => ?_
     refine al ?_
     refine hw6 _ fun d8 w8 v l g8 s8 p8 => ?_
     refine al ?_
     exact hk d8 w8 v l g8 s8 p8
    ·
     obtain ⟨nF,hnF⟩:∃ n,n=wc.heap.size:=⟨_,rfl⟩
     have hUn:w.heap.size+2 < nF:=by omega
     refine df (hv.inc jx.mono t.i) (by have:=r.n10; omega) hlen t.j fun dc wc fv Ls g f1 f2 hm => ?_
     rw [← hnF] at f2
     (try have hBl:Bf < nF:=by omega)
     (try have hBI:∀ x ∈ Ls,x.I≠Bf:=fun x hx=>by have:=(f2.at_ x hx).2.2.2.1; omega)
     have t:=t.trans g
     have hz:=aU hz g.x.size
     have p0:=g.x.cell p0
     have p1:=g.x.cell p1
     have q0:=g.x.cell q0
     have q1:=g.x.cell q1
     have hU:=hU.gr g
     (try have hC:=hC.gr g)
     (try have hL:=OB.inc hL g.i)
     (try have hH:=OB.inc hH g.i)
     (try have hB:=hB.gr g)
     (try have hBl:=aI hBl g.x.size)
     (try have hF:=hF.gr g)
     have hF:kO nF dc wc fv Ls:=⟨f1,f2⟩
     refine fW @p0 @p1 @q0 @q1 ?_
     generalize hO2:Obj.cells _ 172=O2
     obtain ⟨Bf,hBe⟩:∃ b,b=wc.heap.size:=⟨_,rfl⟩
     (try rw [← hBe])
     have hBU:w.heap.size+3≤Bf:=by omega
     have hBn:BfOk dc (wc.alloc O2) Bf:=by
      rw [hBe,← hO2]
      exact ⟨fun x hx=>by (rcases hx with rfl | rfl | hx | rfl); exact aA (aD _) (by omega); exact aA (aD _) (by omega); (have h:x=4∨x=5∨x=6∨x=7∨x=8:=by omega); (rcases h with rfl | rfl | rfl | rfl | rfl <;> exact aA (aD _) (by omega)); exact aA (aD _) (by omega),aA (aD _) (by omega),aA (aD _) (by omega),aA (aD _) (by omega),fun x=>by simp (disch:=first | exact dZ | fail) only [go_sem],t.j.out (aD _)⟩
     have g:Gr dc wc dc (wc.alloc O2):=Gr.ext t.j (aL _)
     (try have hBI:∀ x ∈ Ls,x.I≠Bf:=fun x hx=>by have:=(hF.2.at_ x hx).2.2.2.2; omega)
     have hBl:Bf < (wc.alloc O2).heap.size:=by rw [World.size_alloc]; omega
     have t:=t.trans g
     have hz:=aU hz g.x.size
     have p0:=g.x.cell p0
     have p1:=g.x.cell p1
     have q0:=g.x.cell q0
     have q1:=g.x.cell q1
     have hU:=hU.gr g
     (try have hC:=hC.gr g)
     (try have hL:=OB.inc hL g.i)
     (try have hH:=OB.inc hH g.i)
     (try have hB:=hB.gr g)
     (try have hBl:=aI hBl g.x.size)
     (try have hF:=hF.gr g)
     have hB:=hBn
     obtain ⟨wd,hwd⟩:∃ wd,wd=wc.alloc O2:=⟨_,rfl⟩
     rw [← hwd] at t hz p0 p1 q0 q1 hU hB hBl ⊢
     (try rw [← hwd] at hF)
     refine fin t hU hC hL hH hB hF (by omega) hUn (by omega) (by omega) hBI hm fun w6 hw6 => ?_
     refine al ?_
     refine hw6 _ fun d8 w8 v l g8 s8 p8 => ?_
     refine al ?_
     exact hk d8 w8 v l g8 s8 p8
   ·
    generalize hO2:Obj.cells _ 172=O2
    obtain ⟨Bf,hBe⟩:∃ b,b=wc.heap.size:=⟨_,rfl⟩
    (try rw [← hBe])
    have hBU:w.heap.size+3≤Bf:=by omega
    have hBn:BfOk dc (wc.alloc O2) Bf:=by
     rw [hBe,← hO2]
     exact ⟨fun x hx=>by (rcases hx with rfl | rfl | hx | rfl); exact aA (aD _) (by omega); exact aA (aD _) (by omega); (have h:x=4∨x=5∨x=6∨x=7∨x=8:=by omega); (rcases h with rfl | rfl | rfl | rfl | rfl <;> exact aA (aD _) (by omega)); exact aA (aD _) (by omega),aA (aD _) (by omega),aA (aD _) (by omega),aA (aD _) (by omega),fun x=>by simp (disch:=first | exact dZ | fail) only [go_sem],t.j.out (aD _)⟩
    have g:Gr dc wc dc (wc.alloc O2):=Gr.ext t.j (aL _)
    (try have hBI:∀ x ∈ Ls,x.I≠Bf:=fun x hx=>by have:=(hF.2.at_ x hx).2.2.2.2; omega)
    have hBl:Bf < (wc.alloc O2).heap.size:=by rw [World.size_alloc]; omega
    have t:=t.trans g
    have hz:=aU hz g.x.size
    have p0:=g.x.cell p0
    have p1:=g.x.cell p1
    have q0:=g.x.cell q0
    have q1:=g.x.cell q1
    have hU:=hU.gr g
    (try have hC:=hC.gr g)
    (try have hL:=OB.inc hL g.i)
    (try have hH:=OB.inc hH g.i)
    (try have hB:=hB.gr g)
    (try have hBl:=aI hBl g.x.size)
    (try have hF:=hF.gr g)
    have hB:=hBn
    obtain ⟨wd,hwd⟩:∃ wd,wd=wc.alloc O2:=⟨_,rfl⟩
    rw [← hwd] at t hz p0 p1 q0 q1 hU hB hBl ⊢
    (try rw [← hwd] at hF)
    refine eL t.j hkh fun dc wc hiv g hHn => ?_
    have t:=t.trans g
    have hz:=aU hz g.x.size
    have p0:=g.x.cell p0
    have p1:=g.x.cell p1
    have q0:=g.x.cell q0
    have q1:=g.x.cell q1
    have hU:=hU.gr g
    (try have hC:=hC.gr g)
    (try have hL:=OB.inc hL g.i)
    (try have hH:=OB.inc hH g.i)
    (try have hB:=hB.gr g)
    (try have hBl:=aI hBl g.x.size)
    (try have hF:=hF.gr g)
    have hH:=hHn
    refine fW @p0 @p1 @q0 @q1 ?_
    obtain ⟨nF,hnF⟩:∃ n,n=wc.heap.size:=⟨_,rfl⟩
    have hUn:w.heap.size+2 < nF:=by omega
    refine df (hv.inc jx.mono t.i) (by have:=r.n10; omega) hlen t.j fun dc wc fv Ls g f1 f2 hm => ?_
    rw [← hnF] at f2
    (try have hBl:Bf < nF:=by omega)
    (try have hBI:∀ x ∈ Ls,x.I≠Bf:=fun x hx=>by have:=(f2.at_ x hx).2.2.2.1; omega)
    have t:=t.trans g
    have hz:=aU hz g.x.size
    have p0:=g.x.cell p0
    have p1:=g.x.cell p1
    have q0:=g.x.cell q0
    have q1:=g.x.cell q1
    have hU:=hU.gr g
    (try have hC:=hC.gr g)
    (try have hL:=OB.inc hL g.i)
    (try have hH:=OB.inc hH g.i)
    (try have hB:=hB.gr g)
    (try have hBl:=aI hBl g.x.size)
    (try have hF:=hF.gr g)
    have hF:kO nF dc wc fv Ls:=⟨f1,f2⟩
    refine fW @p0 @p1 @q0 @q1 ?_
    refine fin t hU hC hL hH hB hF (by omega) hUn (by omega) (by omega) hBI hm fun w6 hw6 => ?_
    refine al ?_
    refine hw6 _ fun d8 w8 v l g8 s8 p8 => ?_
    refine al ?_
    exact hk d8 w8 v l g8 s8 p8
  ·
   generalize hO2:Obj.cells _ 172=O2
   obtain ⟨Bf,hBe⟩:∃ b,b=wc.heap.size:=⟨_,rfl⟩
   (try rw [← hBe])
   have hBU:w.heap.size+3≤Bf:=by omega
   have hBn:BfOk dc (wc.alloc O2) Bf:=by
    rw [hBe,← hO2]
    exact ⟨fun x hx=>by (rcases hx with rfl | rfl | hx | rfl); exact aA (aD _) (by omega); exact aA (aD _) (by omega); (have h:x=4∨x=5∨x=6∨x=7∨x=8:=by omega); (rcases h with rfl | rfl | rfl | rfl | rfl <;> exact aA (aD _) (by omega)); exact aA (aD _) (by omega),aA (aD _) (by omega),aA (aD _) (by omega),aA (aD _) (by omega),fun x=>by simp (disch:=first | exact dZ | fail) only [go_sem],t.j.out (aD _)⟩
   have g:Gr dc wc dc (wc.alloc O2):=Gr.ext t.j (aL _)
   (try have hBI:∀ x ∈ Ls,x.I≠Bf:=fun x hx=>by have:=(hF.2.at_ x hx).2.2.2.2; omega)
   have hBl:Bf < (wc.alloc O2).heap.size:=by rw [World.size_alloc]; omega
   have t:=t.trans g
   have hz:=aU hz g.x.size
   have p0:=g.x.cell p0
   have p1:=g.x.cell p1
   have q0:=g.x.cell q0
   have q1:=g.x.cell q1
   have hU:=hU.gr g
   (try have hC:=hC.gr g)
   (try have hL:=OB.inc hL g.i)
   (try have hH:=OB.inc hH g.i)
   (try have hB:=hB.gr g)
   (try have hBl:=aI hBl g.x.size)
   (try have hF:=hF.gr g)
   have hB:=hBn
   obtain ⟨wd,hwd⟩:∃ wd,wd=wc.alloc O2:=⟨_,rfl⟩
   rw [← hwd] at t hz p0 p1 q0 q1 hU hB hBl ⊢
   (try rw [← hwd] at hF)
   refine eL t.j hkl fun dc wc lov g hLn => ?_
   have t:=t.trans g
   have hz:=aU hz g.x.size
   have p0:=g.x.cell p0
   have p1:=g.x.cell p1
   have q0:=g.x.cell q0
   have q1:=g.x.cell q1
   have hU:=hU.gr g
   (try have hC:=hC.gr g)
   (try have hL:=OB.inc hL g.i)
   (try have hH:=OB.inc hH g.i)
   (try have hB:=hB.gr g)
   (try have hBl:=aI hBl g.x.size)
   (try have hF:=hF.gr g)
   have hL:=hLn
   refine fW @p0 @p1 @q0 @q1 ?_
   refine eL t.j hkh fun dc wc hiv g hHn => ?_
   have t:=t.trans g
   have hz:=aU hz g.x.size
   have p0:=g.x.cell p0
   have p1:=g.x.cell p1
   have q0:=g.x.cell q0
   have q1:=g.x.cell q1
   have hU:=hU.gr g
   (try have hC:=hC.gr g)
   (try have hL:=OB.inc hL g.i)
   (try have hH:=OB.inc hH g.i)
   (try have hB:=hB.gr g)
   (try have hBl:=aI hBl g.x.size)
   (try have hF:=hF.gr g)
   have hH:=hHn
   refine fW @p0 @p1 @q0 @q1 ?_
   obtain ⟨nF,hnF⟩:∃ n,n=wc.heap.size:=⟨_,rfl⟩
   have hUn:w.heap.size+2 < nF:=by omega
   refine df (hv.inc jx.mono t.i) (by have:=r.n10; omega) hlen t.j fun dc wc fv Ls g f1 f2 hm => ?_
   rw [← hnF] at f2
   (try have hBl:Bf < nF:=by omega)
   (try have hBI:∀ x ∈ Ls,x.I≠Bf:=fun x hx=>by have:=(f2.at_ x hx).2.2.2.1; omega)
   have t:=t.trans g
   have hz:=aU hz g.x.size
   have p0:=g.x.cell p0
   have p1:=g.x.cell p1
   have q0:=g.x.cell q0
   have q1:=g.x.cell q1
   have hU:=hU.gr g
   (try have hC:=hC.gr g)
   (try have hL:=OB.inc hL g.i)
   (try have hH:=OB.inc hH g.i)
   (try have hB:=hB.gr g)
   (try have hBl:=aI hBl g.x.size)
   (try have hF:=hF.gr g)
   have hF:kO nF dc wc fv Ls:=⟨f1,f2⟩
   refine fW @p0 @p1 @q0 @q1 ?_
   refine fin t hU hC hL hH hB hF (by omega) hUn (by omega) (by omega) hBI hm fun w6 hw6 => ?_
   refine al ?_
   refine hw6 _ fun d8 w8 v l g8 s8 p8 => ?_
   refine al ?_
   exact hk d8 w8 v l g8 s8 p8
 ·
  generalize hO2:Obj.cells _ 172=O2
  obtain ⟨Bf,hBe⟩:∃ b,b=wc.heap.size:=⟨_,rfl⟩
  (try rw [← hBe])
  have hBU:w.heap.size+3≤Bf:=by omega
  have hBn:BfOk dc (wc.alloc O2) Bf:=by
   rw [hBe,← hO2]
   exact ⟨fun x hx=>by (rcases hx with rfl | rfl | hx | rfl); exact aA (aD _) (by omega); exact aA (aD _) (by omega); (have h:x=4∨x=5∨x=6∨x=7∨x=8:=by omega); (rcases h with rfl | rfl | rfl | rfl | rfl <;> exact aA (aD _) (by omega)); exact aA (aD _) (by omega),aA (aD _) (by omega),aA (aD _) (by omega),aA (aD _) (by omega),fun x=>by simp (disch:=first | exact dZ | fail) only [go_sem],t.j.out (aD _)⟩
  have g:Gr dc wc dc (wc.alloc O2):=Gr.ext t.j (aL _)
  (try have hBI:∀ x ∈ Ls,x.I≠Bf:=fun x hx=>by have:=(hF.2.at_ x hx).2.2.2.2; omega)
  have hBl:Bf < (wc.alloc O2).heap.size:=by rw [World.size_alloc]; omega
  have t:=t.trans g
  have hz:=aU hz g.x.size
  have p0:=g.x.cell p0
  have p1:=g.x.cell p1
  have q0:=g.x.cell q0
  have q1:=g.x.cell q1
  have hU:=hU.gr g
  (try have hC:=hC.gr g)
  (try have hL:=OB.inc hL g.i)
  (try have hH:=OB.inc hH g.i)
  (try have hB:=hB.gr g)
  (try have hBl:=aI hBl g.x.size)
  (try have hF:=hF.gr g)
  have hB:=hBn
  obtain ⟨wd,hwd⟩:∃ wd,wd=wc.alloc O2:=⟨_,rfl⟩
  rw [← hwd] at t hz p0 p1 q0 q1 hU hB hBl ⊢
  (try rw [← hwd] at hF)
  refine kz t.j fun dc wc C g _ hC0 hC1 hC5 => ?_
  have t:=t.trans g
  have hz:=aU hz g.x.size
  have p0:=g.x.cell p0
  have p1:=g.x.cell p1
  have q0:=g.x.cell q0
  have q1:=g.x.cell q1
  have hU:=hU.gr g
  (try have hC:=hC.gr g)
  (try have hL:=OB.inc hL g.i)
  (try have hH:=OB.inc hH g.i)
  (try have hB:=hB.gr g)
  (try have hBl:=aI hBl g.x.size)
  (try have hF:=hF.gr g)
  have hC:pR dc C:=⟨hC0,hC1,hC5⟩
  refine fW @p0 @p1 @q0 @q1 ?_
  refine eL t.j hkl fun dc wc lov g hLn => ?_
  have t:=t.trans g
  have hz:=aU hz g.x.size
  have p0:=g.x.cell p0
  have p1:=g.x.cell p1
  have q0:=g.x.cell q0
  have q1:=g.x.cell q1
  have hU:=hU.gr g
  (try have hC:=hC.gr g)
  (try have hL:=OB.inc hL g.i)
  (try have hH:=OB.inc hH g.i)
  (try have hB:=hB.gr g)
  (try have hBl:=aI hBl g.x.size)
  (try have hF:=hF.gr g)
  have hL:=hLn
  refine fW @p0 @p1 @q0 @q1 ?_
  refine eL t.j hkh fun dc wc hiv g hHn => ?_
  have t:=t.trans g
  have hz:=aU hz g.x.size
  have p0:=g.x.cell p0
  have p1:=g.x.cell p1
  have q0:=g.x.cell q0
  have q1:=g.x.cell q1
  have hU:=hU.gr g
  (try have hC:=hC.gr g)
  (try have hL:=OB.inc hL g.i)
  (try have hH:=OB.inc hH g.i)
  (try have hB:=hB.gr g)
  (try have hBl:=aI hBl g.x.size)
  (try have hF:=hF.gr g)
  have hH:=hHn
  refine fW @p0 @p1 @q0 @q1 ?_
  obtain ⟨nF,hnF⟩:∃ n,n=wc.heap.size:=⟨_,rfl⟩
  have hUn:w.heap.size+2 < nF:=by omega
  refine df (hv.inc jx.mono t.i) (by have:=r.n10; omega) hlen t.j fun dc wc fv Ls g f1 f2 hm => ?_
  rw [← hnF] at f2
  (try have hBl:Bf < nF:=by omega)
  (try have hBI:∀ x ∈ Ls,x.I≠Bf:=fun x hx=>by have:=(f2.at_ x hx).2.2.2.1; omega)
  have t:=t.trans g
  have hz:=aU hz g.x.size
  have p0:=g.x.cell p0
  have p1:=g.x.cell p1
  have q0:=g.x.cell q0
  have q1:=g.x.cell q1
  have hU:=hU.gr g
  (try have hC:=hC.gr g)
  (try have hL:=OB.inc hL g.i)
  (try have hH:=OB.inc hH g.i)
  (try have hB:=hB.gr g)
  (try have hBl:=aI hBl g.x.size)
  (try have hF:=hF.gr g)
  have hF:kO nF dc wc fv Ls:=⟨f1,f2⟩
  refine fW @p0 @p1 @q0 @q1 ?_
  refine fin t hU hC hL hH hB hF (by omega) hUn (by omega) (by omega) hBI hm fun w6 hw6 => ?_
  refine al ?_
  refine hw6 _ fun d8 w8 v l g8 s8 p8 => ?_
  refine al ?_
  exact hk d8 w8 v l g8 s8 p8
end
end Go.Proofs
end
section
namespace Go.E
open Go Go.Sort Go.Proofs Go.Proofs.Tryz
structure XD (d:World) (XB SB QB LB AB:Nat) (sv:Value) (snaps:List Nat):Prop where
 x:d.cell? ⟨XB,0,none⟩=some (.func (.func 136) #[] #[.pointer (some ⟨LB,0,none⟩),.pointer (some ⟨AB,0,none⟩)])
 a:d.cell? ⟨AB,0,none⟩=some (.bool true)
 l:d.cell? ⟨LB,0,none⟩=some (.slice none 0 0)
 s:d.cell? ⟨SB,0,none⟩=some sv
 q:d.cell? ⟨QB,0,none⟩=some (.func (.func 103) #[] #[])
 sn:Sl Cj 1 d sv snaps
 len:snaps.length < 1000000
theorem XD.inc {d d2:World} {XB SB QB LB AB:Nat} {sv:Value} {snaps:List Nat} (h:XD d XB SB QB LB AB sv snaps) (i:bz d d2):XD d2 XB SB QB LB AB sv snaps:=⟨i _ _ _ h.x,i _ _ _ h.a,i _ _ _ h.l,i _ _ _ h.s,i _ _ _ h.q,h.sn.inc dJ i,h.len⟩
def HI (XB SB QB:Nat):Value := .func (.func 144) #[] #[.pointer (some ⟨XB,0,none⟩),.pointer (some ⟨SB,0,none⟩),.pointer (some ⟨QB,0,none⟩)]
def EX (snaps:List Nat) (XB SB QB:Nat):TX where
 F:=eH snaps.reverse
 ord:=0
 rt:=274
 rv:=HI XB SB QB
 T:=fun _ _=>False
 X:=fun _ S=>S=fun _=>False
 dr h:=h
def KO (ks:List K):Prop:=(∀ x ∈ ks,an x.tr=19→x.suf=[])∧∀ x ∈ ks,x.tr / 256 < 36028797018963968
theorem HJ {d:World} {U o Bf XB SB QB LB AB:Nat} {sv:Value} {snaps:List Nat} (xd:XD d XB SB QB LB AB sv snaps):TI d U o Bf KO (EX snaps XB SB QB) where
 keep h _ _:=h
 outS h b hb:=by rw [show _=_ from h] at hb; exact hb.elim
 tT h:=h.elim
 tl _ h:=h.elim
 run {w S l ks ka sa ea cap sn sc en ec k} hX q6 q7 q8 q9 hkey fP fB hinc oP oB ne hv hS hdk hl hp hcd hHK hq:=by
  show bu prog (.iface 274 (HI XB SB QB)) "Transform" _ _ _
  rw [Tryz.iv274_Transform]
  unfold HI
  refine ai [.tmp 8] func281 ?_
  refine bf @aA ?_
  have x1:bY w (w.alloc (.cells #[.slice sa sn sc,.slice ea en ec,.slice ka l.length cap,.int .i8 0] 114)):=aL _
  have hPs:=aE q6
  have hHs:=aE hkey.hd
  refine zm (d:=d) xd.x xd.a xd.l xd.s xd.sn xd.len xd.q (x1.cell q6) (x1.cell q7) (x1.cell q8) (x1.cell q9) ⟨x1.cell hkey.hd,aZ hkey.own x1 (fun _ _ _ h=>h),hkey.good⟩ (fun x=>by rw [x1.frozen _ x hPs]; exact fP x) (hinc.trans x1.inc) oP oB ne (fun g hg=>⟨(hv g hg).1,(hv g hg).2.1,(hv g hg).2.2.1⟩) hdk hl hp hcd hHK.1 hHK.2 fun w' c R r6 r7 r8 r9 rk hc hR hF kk => ?_
  refine al ?_
  refine hq w' (fun _=>False) c _ r6 r7 r8 r9 rk hc ⟨ka,l.length,cap,c,R,rfl,by have:=rk.own; rwa [hc] at this,hc,hR,rk.good,hF,fun g hg => .inl hg⟩ rfl (fun b h=>h.elim) (x1.keep.trans (kk.mono fun b x _ h => ?_))
  rcases h with h | h
  ·exact .inl h
  ·exact .inr (.inr (.inl h))
end Go.E
namespace Go.Proofs
open Go Go.E Go.Sort Go.Proofs.Tryz
section
variable {k:aq} {d w:World}
theorem sZ (hinc:bz d w) (hk:∀ d2 w2 LB AB,Gr d w d2 w2→d2.cell? ⟨AB,0,none⟩=some (.bool true)→d2.cell? ⟨LB,0,none⟩=some (.slice none 0 0)→k (.func (.func 136) #[] #[.pointer (some ⟨LB,0,none⟩),.pointer (some ⟨AB,0,none⟩)]) w2):aX prog 115 #[.bool true,.slice none 0 0] k w:=by
 refine ai [.tmp 4] func115 ?_
 refine al ?_
 generalize hO:Obj.cells #[.bool true] _=O
 generalize hO2:Obj.cells #[.slice none 0 0] _=O2
 have x2:bY w ((w.alloc O).alloc O2):=(aL _).trans (aL _)
 obtain ⟨d2,g2,e2⟩:=nN hinc x2
 have c0:((w.alloc O).alloc O2).cell? ⟨w.heap.size,0,none⟩=some (.bool true):=by rw [← hO,← hO2]; exact bb @aA
 have c1:((w.alloc O).alloc O2).cell? ⟨w.heap.size+1,0,none⟩=some (.slice none 0 0):=by rw [← hO,← hO2]; exact bb @aA
 exact hk d2 _ _ _ g2 (e2 _ _ _ (aD _) c0) (e2 _ _ _ (by omega) c1)
theorem qK {sv:Value} {LB AB:Nat} {snaps:List Nat} (hinc:bz d w) (hs:Sl Cj 1 d sv snaps) (hl:snaps.length < 1000000) (hA:d.cell? ⟨AB,0,none⟩=some (.bool true)) (hL:d.cell? ⟨LB,0,none⟩=some (.slice none 0 0))
    (hk:∀ d2 w2 XB SB QB,Gr d w d2 w2→XD d2 XB SB QB LB AB sv snaps→k (.iface 274 (HI XB SB QB)) w2) :
    aX prog 114 #[.func (.func 103) #[] #[],sv,.func (.func 136) #[] #[.pointer (some ⟨LB,0,none⟩),.pointer (some ⟨AB,0,none⟩)]] k w:=by
 obtain ⟨sa,sc,rfl⟩:=hs.form
 refine ai [.tmp 6] func114 ?_
 refine al ?_
 refine ai [.tmp 6] func135 ?_
 refine al ?_
 generalize hO:Obj.cells #[.func (.func 103) #[] #[]] _=O
 generalize hO2:Obj.cells #[.slice sa snaps.length sc] _=O2
 generalize hO3:Obj.cells #[.func (.func 136) #[] #[.pointer (some ⟨LB,0,none⟩),.pointer (some ⟨AB,0,none⟩)]] _=O3
 have x2:bY w (((w.alloc O).alloc O2).alloc O3):=((aL _).trans (aL _)).trans (aL _)
 obtain ⟨d2,g2,e2⟩:=nN hinc x2
 have c0:(((w.alloc O).alloc O2).alloc O3).cell? ⟨w.heap.size,0,none⟩=some (.func (.func 103) #[] #[]):=by rw [← hO,← hO2,← hO3]; exact bb @aA
 have c1:(((w.alloc O).alloc O2).alloc O3).cell? ⟨w.heap.size+1,0,none⟩=some (.slice sa snaps.length sc):=by rw [← hO,← hO2,← hO3]; exact bb @aA
 have c2:(((w.alloc O).alloc O2).alloc O3).cell? ⟨w.heap.size+2,0,none⟩=some (.func (.func 136) #[] #[.pointer (some ⟨LB,0,none⟩),.pointer (some ⟨AB,0,none⟩)]):=by rw [← hO,← hO2,← hO3]; exact bb @aA
 exact hk d2 _ (w.heap.size+2) (w.heap.size+1) w.heap.size g2 ⟨e2 _ _ _ (by omega) c2,g2.i _ _ _ hA,g2.i _ _ _ hL,e2 _ _ _ (by omega) c1,e2 _ _ _ (aD _) c0,hs.inc dJ g2.i,hl⟩
end
end Go.Proofs
end
section
namespace Go.E
open Go Go.Sort Go.Proofs Go.Proofs.Tryz
def HL (KS:List K→List K→Prop) (x y:Sp):Prop:=y.s=x.s∧y.e=x.e∧KS y.ks x.ks
structure Wsv (d w:World) (R:World→(Nat→Prop)→Int→Prop) (N0:Nat→Prop) (v:Value) (w1 a:World) (N:Nat→Prop) (p:Int) (l:List Sp) (css:List (List Value)):Prop where
 R:R w1 N p
 da:bz d a
 aw:bz a w1
 No:∀ b,N b→cq a b
 o:OwnL dY 3 56 a w1 v l css
 on:∀ g,v.ownBlock=some g→¬ N g∧w.heap.size≤g
 k:Keep (fun b _=>N0 b) w w1
 n0:∀ b,N b→N0 b∨w.heap.size≤b
 oa:∀ b,b < w.heap.size→cq d b→cq a b
section
variable {recv:Value} {d w w1 w2 a a2:World} {V:List Sp} {pF pL:Prop} {pK:Bytes→Prop} {KS:List K→List K→Prop} {R:World→(Nat→Prop)→Int→Prop} {N0 N N2:Nat→Prop} {v v2:Value} {p p2:Int} {l:List Sp} {css:List (List Value)}
theorem Wsv.op (W:WI recv d V pF pL pK KS R) (s:Wsv d w R N0 v w1 a N p l css) (h:R w2 N2 p2) (hN:∀ b,N2 b→N b∨w1.heap.size≤b) (hk:Keep (fun b _=>N b) w1 w2):Wsv d w R N0 v w2 a N2 p2 l css where
 R:=h
 da:=s.da
 aw:=s.aw.keep hk fun b o hb=>s.No b hb o
 No b hb:=(hN b hb).elim (s.No b) fun h=>s.aw.out h
 o:=s.o.keep hk fun g hg o h=>(s.on g hg).1 h
 on g hg:=⟨fun h=>(hN g h).elim (s.on g hg).1 fun h=>by have:=(s.o.own.lt g hg).2; omega,(s.on g hg).2⟩
 k:=s.k.tr hk fun b o hb hm=>(s.n0 b hm).elim id fun h=>by omega
 n0 b hb:=(hN b hb).elim (s.n0 b) fun h => .inr (aU s.k.size h)
 oa:=s.oa
theorem Wsv.gr (W:WI recv d V pF pL pK KS R) (s:Wsv d w R N0 v w1 a N p l css) (g:Gr a w1 a2 w2):Wsv d w R N0 v w2 a2 N p l css where
 R:=W.keep s.R g.x fun _ _ _ h=>h.elim
 da:=s.da.trans g.i
 aw:=g.j
 No b hb:=g.o b (W.lt s.R b hb).1 (s.No b hb)
 o:=(s.o.ext g.x).ghost dY.mono g.i fun b hb=>g.o b (s.o.own.lt b hb).2 (s.o.out b hb)
 on:=s.on
 k:=s.k.tr g.x fun _ _ _ h=>h.elim
 n0:=s.n0
 oa b hb ho:=g.o b (aI hb s.k.size) (s.oa b hb ho)
theorem Wsv.app (W:WI recv d V pF pL pK KS R) (s:Wsv d w R N0 v w1 a N p l css) {l2:List Sp} {css2:List (List Value)} (o:OwnL dY 3 56 a w2 v2 l2 css2) (k:Keep (fun b _=>v.ownBlock=some b) w1 w2) (n:cZ w1 v v2) (j:bz a w2):Wsv d w R N0 v2 w2 a N p l2 css2 where
 R:=W.keep s.R k fun b x _ hb=>⟨(s.on b hb).1,sO s.da (s.o.out b hb)⟩
 da:=s.da
 aw:=j
 No:=s.No
 o:=o
 on g hg:=by
  rcases n g hg with h | h
  ·exact s.on g h
  ·exact ⟨fun hn=>by have:=(W.lt s.R g hn).1; omega,aU s.k.size h⟩
 k:=s.k.tr k fun b o hb hm=>by have:=(s.on b hm).2; omega
 n0:=s.n0
 oa:=s.oa
end
end Go.E
namespace Go.Proofs
open Go Go.E Go.Sort Go.Proofs.Tryz
section
variable {k:aq} {d w:World}
set_option maxHeartbeats 1000000 in
theorem wJ {rt:TypeId} {rv:Value} {V:List Sp} {pF pL:Prop} {pK:Bytes→Prop} {KS:List K→List K→Prop} {R:World→(Nat→Prop)→Int→Prop} {N0:Nat→Prop}
    (W:WI (.iface rt rv) d V pF pL pK KS R) (h0:R w N0 (-2)) (hF:pF) (hlen:V.length < 1000000)
    (hk:∀ a w' v l,bz d a→bz a w'→(∀ b,b < w.heap.size→cq d b→cq a b)→Keep (fun b _=>N0 b) w w'→Sl dY 3 a v l→Pw (HL KS) V l→k v w'):aX prog 116 #[.iface rt rv] k w:=by
 have hinc:=W.inc h0
 have s0:Wsv d w R N0 (.slice none 0 0) w d N0 (-2) [] []:=⟨h0,bz.refl d,hinc,fun b hb=>(W.lt h0 b hb).2,OwnL.nil eK,by simp [Value.ownBlock],Keep.refl _ w,fun _ h => .inl h,fun _ _ h=>h⟩
 refine ai [.tmp 2] func116 ?_
 refine al ?_
 refine W.first h0 hF fun w1 N1 v1 r1 n1 k1 rs1 => ?_
 have s1:=s0.op W r1 n1 k1
 refine al ?_
 refine bO (fun b:Nat × Value × Value=>[(0,.iface rt rv),(3,b.2.1),(4,b.2.2)])
  (fun b w'=>b.1≤V.length∧∃ a N l css,Wsv d w R N0 b.2.1 w' a N b.1 l css∧Jn V KS w' b.2.2 b.1∧Pw (HL KS) (V.take b.1) l) (fun b _=>V.length - b.1) (0,.slice none 0 0,v1) (by kernel_rfl) ?_ ⟨aQ _,d,N1,[],[],s1,rs1,by simp,by simp⟩ ?_
 ·exact bE
 rintro K2 e ⟨i,v,cv⟩ w2 ⟨i2,a,N,l,css,s,rs,pw⟩ hK2
 simp only at i2 s rs pw
 obtain ⟨va,vcap,rfl,_⟩:=s.o.form
 have hll:l.length=i:=by rw [← pw.1,ar]; omega
 by_cases hi:i < V.length
 ·obtain ⟨ord,b,o,x,rfl,⟨⟨sv',q0,m0⟩,⟨ev',q1,m1⟩,⟨kv',q2,m2⟩,q3⟩,xs,xe,xks⟩:=rs.1 i rfl hi
  obtain ⟨ssa,ssc,rfl⟩:=bI m0
  obtain ⟨eea,eec,rfl⟩:=bI m1
  obtain ⟨kka,kkc,rfl⟩:=m2.form
  simp (disch:=first | exact dZ | fail) only [go_sem,Option.isSome_some,q0,q1,q2,q3]
  refine my (d:=a) m0 m1 m2 ⟨ord,rfl⟩ (W.small i _ hi xks) s.aw fun a6 w6 v6 g6 k6 => ?_
  have s6:=s.gr W g6
  obtain ⟨k6a,k6c,rfl⟩:=k6.form
  refine al ?_
  refine jI x [str x.s,str x.e,.slice k6a x.ks.length k6c] rw74 s6.o ⟨_,rfl,k6⟩ rfl (.inl rfl) rfl rfl (by simp [Value.oneCell',str]) (by rw [hll]; omega) s6.aw fun v2 w7 o2 k2 n2 j2 _ => ?_
  have s7:=s6.app W o2 k2 n2 j2
  refine al ?_
  refine W.next s7.R (by omega) (by omega) fun w8 N8 v8 r8 n8 k8 rs8 => ?_
  have s8:=s7.op W r8 n8 k8
  have e1:((i:Int)+1)=((i+1:Nat):Int):=by omega
  rw [e1] at s8 rs8
  refine al ?_
  refine hK2 _ _ (i+1,v2,v8) ?_ ⟨hi,a6,N8,_,_,s8,rs8,?_⟩ (by simp only; omega)
  ·exact bE
  ·simp only
   have ev:V.take (i+1)=V.take i++[V[i]!]:=by rw [List.take_add_one,aC hi,aG V i hi]; rfl
   rw [ev]
   exact pw.snoc ⟨xs,xe,xks⟩
 ·obtain rfl:i=V.length:=by omega
  obtain rfl:=rs.2 (by omega)
  simp (disch:=first | exact dZ | fail) only [go_sem,Option.isSome_none]
  rw [aT] at pw
  obtain ⟨a2,i1,i3,o3,sl⟩:=s.o.fin dY.mono s.aw
  refine hk a2 w2 _ l (s.da.trans i1) i3 (fun b hb ho=>o3 b (s.oa b hb ho) fun h => ?_) s.k sl pw
  have:=(s.on b h).2
  omega
end
end Go.Proofs
end
section
namespace Go.E
open Go Go.Sort Go.Proofs
theorem FJ.aside {P:Program} {recv:Value} {d:World} {pb po:Nat} {ord:Int} {G:List Sp} {pF pL:Prop} {pK:Bytes→Prop} {T:Nat→Nat→Prop} {R:World→(Nat→Prop)→Int→Prop} {A:Nat→Prop} (f:FJ P recv d pb po ord G pF pL pK T R) (hA:∀ b x,A b→¬ T b x) :
    FJ P recv d pb po ord G pF pL pK T (fun w S p=>R w S p∧∀ b,A b→¬ S b∧b < w.heap.size):=by
 have fk:∀ {w S p k},(∀ b,A b→¬ S b∧b < w.heap.size)→FK recv pb po G T (fun w S p=>R w S p∧∀ b,A b→¬ S b∧b < w.heap.size) w S p k→FK recv pb po G T R w S p k:=fun {w S p k} ha hk w' S' h1 h2 h3=>hk w' S' ⟨h1,fun b hb=>⟨fun hs=>by
  obtain ⟨a1,a2⟩:=ha b hb
  rcases h2 b hs with h | h
  ·exact a1 h
  ·omega,aI (ha b hb).2 h3.size⟩⟩ h2 h3
 exact {
  wf:=f.wf
  small:=f.small
  inc:=fun h=>f.inc h.1
  rg:=fun h=>f.rg h.1
  cur:=fun h=>f.cur h.1
  keep:=fun h hk hm=>⟨f.keep h.1 hk hm,fun b hb=>⟨(h.2 b hb).1,aI (h.2 b hb).2 hk.size⟩⟩
  outS:=fun h=>f.outS h.1
  outT:=f.outT
  next:=fun h h1 h2 hk=>f.next h.1 h1 h2 (fk h.2 hk)
  prev:=fun h h1 hk=>f.prev h.1 h1 (fk h.2 hk)
  first:=fun h h1 hk=>f.first h.1 h1 (fk h.2 hk)
  last:=fun h h1 hk=>f.last h.1 h1 (fk h.2 hk)
  seekGE:=fun h h1 h2 h3 hk=>f.seekGE h.1 h1 h2 h3 (fk h.2 hk)
  seekLT:=fun h h1 h2 h3 hk=>f.seekLT h.1 h1 h2 h3 (fk h.2 hk)
  error:=fun h hk=>f.error h.1 fun w' h1 x=>hk w' ⟨h1,fun b hb=>⟨(h.2 b hb).1,aI (h.2 b hb).2 x.size⟩⟩ x }
theorem fT {ss:List Nat} {ks:List K} {x:K} (h:x ∈ eH ss ks):x ∈ ks:=by
 have hc:∀ {l:List K} {y:K},y ∈ nJ l→y ∈ l:=fun h=>wA (vz.1 h)
 induction ss generalizing ks with
 | nil =>
  unfold eH at h
  exact hc (aN.1 h).1
 | cons s ss ih =>
  unfold eH at h
  rcases ax.1 h with h | h
  ·have:x ∈ nJ (ks.filter fun x => !ef s x):=by
     split at h
     ·exact (aN.1 h).1
     ·exact h
   exact (aN.1 (hc this)).1
  ·exact (aN.1 (ih h)).1
theorem jl (ss:List Nat) (ks:List K):(eH ss ks).length≤ks.length:=by
 have hc:∀ l:List K,(nJ l).length≤l.length:=B7 _
 induction ss generalizing ks with
 | nil =>
  unfold eH
  exact aU (az _ _) (hc _)
 | cons s ss ih =>
  unfold eH
  rw [aM]
  have h1:(if (ks.filter (ef s)).isEmpty then (nJ (ks.filter fun x => !ef s x)).filter rS else nJ (ks.filter fun x => !ef s x)).length≤(ks.filter fun x => !ef s x).length:=by
   split
   ·exact aU (az _ _) (hc _)
   ·exact hc _
  have h2:=ih (ks.filter (ef s))
  have h3:=sP (ef s) (fun x => !ef s x) (fun x hx=>by simp [hx]) ks
  omega
abbrev KP:DX:=⟨0,0,0,K,inferInstance,id,228,.func (.func 100) #[] #[]⟩
abbrev Fo (snaps:List Nat) (Lv:List (List Sp)):List Sp:=GL (eH snaps.reverse) Lv.length (de Lv) (bH Lv.flatten)
abbrev wo (snaps:List Nat) (Lv:List (List Sp)):List Sp:=Vw id (Fo snaps Lv)
structure SIn (Lv:List (List Sp)):Prop where
 n10:Lv.length≤10
 wf:∀ L ∈ Lv,Wf L
 len:∀ L ∈ Lv,L.length < 1000∧∀ s ∈ L,s.s.length < 4294967296∧s.e.length < 4294967296∧s.ks.length < 5000∧s.ks≠[]∧∀ x ∈ s.ks,B8 x
 cd:∀ u,Cd (cM Lv.length (de Lv) (bH Lv.flatten) u)
 hk:∀ u,KO (cM Lv.length (de Lv) (bH Lv.flatten) u)
section
variable {d w:World} {n U Bf DU DB C XB SB QB LB AB:Nat} {Ls:List Lvl} {Lv:List (List Sp)} {sv v:Value} {snaps:List Nat}
theorem JE (r:SIn Lv) (xd:XD d XB SB QB LB AB sv snaps) (oU:cq d U) (oB:cq d Bf) (hF:kO n d w v Ls) (hne:Bf≠U) (hUn:U < n) (hBI:∀ x ∈ Ls,x.I≠Bf) (hm:Ls.map Lvl.L=Lv):MS d U 0 Bf (EX snaps XB SB QB) Ls.toArray (bH Lv.flatten):=by
 have hn:Ls.toArray.size=Lv.length:=by rw [← hm]; simp
 have hat:∀ i,i < Ls.toArray.size→Ls.toArray[i]! ∈ Ls:=fun i hi=>by rw [aG Ls.toArray i hi]; simpa using aS (by simpa using hi)
 have hL:∀ i,i < Ls.toArray.size→Ls.toArray[i]!.L ∈ Lv:=fun i hi=>by rw [← hm]; exact List.mem_map_of_mem (hat i hi)
 have hI:=hF.2
 have h10:=r.n10
 refine ⟨⟨oU,oB,hne,by omega,fun i hi=>(hI.at_ _ (hat i hi)).2.2.1,fun i hi => ?_,fun i hi=>hBI _ (hat i hi),fun i hi=>(hI.at_ _ (hat i hi)).2.1,fun i hi=>r.wf _ (hL i hi),fun i hi => ?_,fun i j hi hj hij => ?_,fun i hi j hj => ?_⟩,?_,?_,?_,fun u => ?_,fun x hx => ?_⟩
 ·have:=(hI.at_ _ (hat i hi)).2.2.2.1; omega
 ·exact Nat.lt_trans (r.len _ (hL i hi)).1 (by omega)
 ·have:=bA.1 hI.ne
  rw [aG Ls.toArray i hi,aG Ls.toArray j hj]
  simp only [List.getElem_toArray]
  rcases aH i j with h | h
  ·exact this i j (by simpa using hi) (by simpa using hj) h
  ·exact (this j i (by simpa using hj) (by simpa using hi) (by omega)).symm
 ·rw [aG _ j hj]
  exact ((r.len _ (hL i hi)).2 _ (aS hj)).2.2.2.1
 ·rw [hn,ja hm]; exact iS r.wf
 ·rw [hn,ja hm]; exact ⟨_,HJ xd,r.hk⟩
 ·rw [hn,ja hm]; exact r.cd
 ·rw [hn,ja hm]
  exact fR (pQ (m:=5000) (fun L hL s hs=>dh ((r.len L hL).2 s hs).2.2.1) _ u) (by omega)
 ·obtain ⟨s,hs,h⟩:=((iR _).2 x).1 hx
  obtain ⟨L,hL,hs⟩:=cQ.1 hs
  have:=(r.len L hL).2 s hs
  rcases h with rfl | rfl
  ·exact this.1
  ·exact this.2.1
abbrev LC (d:World) (U Bf DU DB:Nat) (Z:TX) (Ls:Array Lvl) (B:List Bytes):World→(Nat→Prop)→Int→Prop:=fun w S p=>Mi d U 0 Bf Z Ls B w S p∧∀ b,(b=DU∨b=DB)→¬ S b∧b < w.heap.size
theorem JF (r:SIn Lv) (m:MS d U 0 Bf (EX snaps XB SB QB) Ls.toArray (bH Lv.flatten)) (hm:Ls.map Lvl.L=Lv) (oD:cq d DU) (oE:cq d DB) (n1:DU≠U) (n2:DU≠Bf) (n3:DB≠U) (n4:DB≠Bf) (n5:DB≠DU) (nI:∀ x ∈ Ls,x.I≠DU∧x.I≠DB)
    (c0:d.cell? ⟨C,0,none⟩=some (.func (.func 102) #[] #[])) :
    DC d KP DU DB C U 4 224 (.pointer (some ⟨U,0,none⟩)) (Fo snaps Lv) True False (fun _=>False) (mT U 0 Bf (EX snaps XB SB QB) Ls.toArray) (LC d U Bf DU DB (EX snaps XB SB QB) Ls.toArray (bH Lv.flatten)):=by
 have hat:∀ i,i < Ls.toArray.size→Ls.toArray[i]! ∈ Ls:=fun i hi=>by rw [aG Ls.toArray i hi]; simpa using aS (by simpa using hi)
 have hT:∀ b x,b=DU∨b=DB→¬ mT U 0 Bf (EX snaps XB SB QB) Ls.toArray b x:=by
  rintro b x hb (⟨h,_⟩ | ⟨h,_⟩ | ⟨i,hi,h⟩ | h)
  ·rcases hb with rfl | rfl <;> omega
  ·rcases hb with rfl | rfl <;> omega
  ·have:=nI _ (hat i hi)
   rcases hb with rfl | rfl
   ·exact this.1 h.symm
   ·exact this.2 h.symm
  ·exact h
 have hl:Lv.flatten.length≤Lv.length * 1000:=eU fun L hL=>dh (r.len L hL).1
 have hb:=eT Lv.flatten
 have h10:=r.n10
 have hn:Ls.toArray.size=Lv.length:=by rw [← hm]; simp
 have mf:=K7 m (by omega)
 rw [hn,ja hm] at mf
 refine ⟨FJ.aside mf fun b x hb=>hT b x hb,fun x _ _=>hT _ x (.inl rfl),fun x _ _=>hT _ x (.inr rfl),fun h=>⟨(h.2 _ (.inl rfl)).1,(h.2 _ (.inr rfl)).1⟩,fun h ht => ?_,fun _ hx hy _ hl hk=>yD hx hy hl hk,fun y h1 h2 => .inl ⟨rfl,by omega,by omega⟩,oD,oE,n5,c0,fun j hj => ?_⟩
 ·obtain ⟨⟨u,pos,vk,vb,vs,lk,xb,sc,_⟩,_⟩:=h
  rcases ht with ⟨rfl,_⟩ | ⟨rfl,_⟩ | ⟨i,hi,rfl⟩ | ht
  ·exact aE sc.g.bufs
  ·exact aE sc.g.lvls
  ·exact aE (sc.g.lv i hi).iter.c0
  ·exact ht.elim
 ·obtain ⟨u,hu,e⟩:=rR hj
  rw [e]
  have hbl:∀ i:Nat,((bH Lv.flatten)[i]!).length≤4294967296:=fun i=>by
   rcases aH i (bH Lv.flatten).length with h | h
   ·rw [aG _ i h]
    exact dh (m.blen _ (aS h))
   ·rw [getElem!_neg _ i (by omega)]; exact aQ _
  have hfl:=m.len u
  rw [hn,ja hm] at hfl
  refine ⟨hbl _,hbl _,fR (jl _ _) hfl,fun x hx => ?_⟩
  obtain ⟨i,hi,sp,hsp,hk⟩:=kJ (fT hx)
  have hLi:de Lv i ∈ Lv:=by unfold de; rw [aG Lv i hi]; exact aS hi
  exact ((r.len _ hLi).2 sp hsp).2.2.2.2 x hk
theorem Fq (hinc:bz d w) (m:MS d U 0 Bf (EX snaps XB SB QB) Ls.toArray (bH Lv.flatten)) (hm:Ls.map Lvl.L=Lv) (m0:MI0 w U 0 Bf 274 (HI XB SB QB) Ls) (u:DI0 w DU 0 DB 0 C 224 (.pointer (some ⟨U,0,none⟩)) 228 (.func (.func 100) #[] #[])) (hF:kO n d w v Ls)
    (fU:∀ x,w.frozen? ⟨U,x,none⟩=false) (fB:∀ x,w.frozen? ⟨Bf,x,none⟩=false) (fD:∀ x,w.frozen? ⟨DU,x,none⟩=false) (fE:∀ x,w.frozen? ⟨DB,x,none⟩=false) (cB:∀ x,x=0∨x=5→w.cell? ⟨Bf,x,none⟩=some (.slice none 0 0)) (c3:w.cell? ⟨Bf,3,none⟩=some (.bool false)) (cE:∀ x,x≤2→w.cell? ⟨DB,x,none⟩=some (.slice none 0 0)) :
    I6 d KP DU DB C U 4 224 (.pointer (some ⟨U,0,none⟩)) (Fo snaps Lv) (mT U 0 Bf (EX snaps XB SB QB) Ls.toArray) (LC d U Bf DU DB (EX snaps XB SB QB) Ls.toArray (bH Lv.flatten)) w (dN KP DU DB (mT U 0 Bf (EX snaps XB SB QB) Ls.toArray) (fun _=>False) (fun _=>False)) (-2):=by
 have hat:∀ i,i < Ls.toArray.size→Ls[i]? = some Ls.toArray[i]! := fun i hi=>by rw [aG Ls.toArray i hi,List.getElem_toArray]; exact aC _
 have mi:Mi d U 0 Bf (EX snaps XB SB QB) Ls.toArray (bH Lv.flatten) w (fun _=>False) (-1):=by
  refine ⟨0,fun _ => -1,.slice none 0 0,.slice none 0 0,fun _=>False,[],[],⟨⟨m0.u2,by have:=m0.b1; simpa using this,fun i hi => ?_,m0.u10,fU,fB,hinc⟩,⟨m0.b2,⟨_,c3⟩,⟨0,by omega,m0.b4⟩,fun x h1 h2=>m0.it x (by omega) (by omega)⟩,
   ⟨⟨_,_,_,m0.u3⟩,⟨_,_,_,m0.u4⟩,m0.u5,⟨_,m0.u6⟩,⟨_,m0.u7⟩,⟨_,m0.u8⟩,⟨_,m0.u9⟩,⟨_,m0.u11⟩⟩,
   ⟨⟨cB 0 (by omega),eK,by simp⟩,rfl,cB 5 (by omega),eK,fun g h=>(bW h).elim,fun g h=>(bW h).elim,fun g h=>h.elim,fun g h=>(bW h).elim,fun g h=>h.elim,fun g h=>h.elim,fun g h=>h.elim⟩⟩,
   aQ _,.inr (.inr ⟨rfl,rfl⟩),fun h=>by omega,.inr (.inr ⟨m0.u11,fun i hi _ => ?_,rfl,m0.b4⟩)⟩
  ·obtain ⟨a,b,c,e⟩:=m0.lv i _ (hat i hi)
   have hI:=hF.2.at_ _ (aJ (hat i hi))
   exact ⟨a,by rw [jL (by unfold ez; omega)]; exact b,⟨_,c,rfl,fun h=>by unfold ez at h; omega⟩,⟨_,e,rfl,fun h=>by unfold ez at h; omega⟩,hI.1,by omega,fU⟩
  ·show (-1:Int)+1=((cp (Lf Ls.toArray) (bH Lv.flatten) 0 i:Nat):Int)
   unfold cp
   rw [if_pos rfl]
   rfl
 refine ⟨fun _=>False,fun _=>False,⟨fun _ _=>False,.slice none 0 0,.slice none 0 0,.slice none 0 0,[],[],0,[],none,0,-1,⟨⟨mi,?_⟩,
  ⟨u.d0,u.d1,u.d2,u.d3,u.d4,u.d5,⟨_,u.d6⟩,⟨_,u.d7⟩,⟨_,u.d8⟩,⟨_,u.d9⟩,u.d10,⟨_,_,u.d11,rfl,rfl⟩,fD,fE⟩,
  ⟨cE 0 (by omega),eK,⟨⟨none,rfl⟩,by omega⟩,cE 1 (by omega),eK,cE 2 (by omega),eK,fun g h=>(bW h).elim,fun g h=>(bW h).elim,fun g h=>(bW h).elim,fun g h=>(bW h).elim,fun g h=>(bW h).elim,fun g h=>(bW h).elim,fun g h=>h.elim,fun b x h=>h.elim,fun g x h=>(bW h).elim,fun g x h=>(bW h).elim,fun g x h=>(bW h).elim⟩⟩,.inl rfl⟩,rfl⟩
 rintro b (rfl | rfl)
 ·exact ⟨fun h=>h,aE u.d0⟩
 ·exact ⟨fun h=>h,aE (cE 0 (by omega))⟩
end
end Go.E
end
section
namespace Go.E
open Go Go.Sort Go.Proofs Go.Proofs.Tryz
def wK (P:Prop) (k:aq) (w:World):Prop:=∀ b w',bY w w'→(b=true→P)→k (.bool b) w'
theorem wK.no {P:Prop} {k:aq} {w w':World} (h:wK P k w) (x:bY w w'):k (.bool false) w':=h false w' x fun h=>by cases h
theorem wK.yes {P:Prop} {k:aq} {w w':World} (h:wK P k w) (x:bY w w') (p:P):k (.bool true) w':=h true w' x fun _=>p
theorem ey {α:Type} {P:α→Prop} {l:List α} {i:Nat} {x:α} (h:∀ y ∈ l.take i,P y) (hx:l[i]? = some x) (hp:P x):∀ y ∈ l.take (i+1),P y:=by
 rw [bn hx]
 intro y hy
 rcases ax.1 hy with hy | hy
 ·exact h y hy
 ·rw [ae.1 hy]; exact hp
def EY (x:K):Prop:=x.suf.length≤2147483647∧x.val.length≤2147483647
def rG (x:Sp):Prop:=x.s.length≤2147483647∧x.e.length≤2147483647∧x.ks.length≤2147483647∧∀ y ∈ x.ks,EY y
end Go.E
namespace Go.Proofs
open Go Go.E Go.Sort Go.Proofs.Tryz
section
variable {k:aq} {w:World}
theorem CI {x:K} (hk:wK (EY x) k w):aX prog 142 #[.agg #[.int .u64 x.tr,.string ⟨x.suf.toArray⟩,.string ⟨x.val.toArray⟩]] k w:=by
 refine ai [.tmp 2] func142 ?_
 by_cases h1:2147483647 < (x.suf.length:Int)
 ·refine dV @aA @h1 ?_
  exact hk.no (aL _)
 by_cases h2:2147483647 < (x.val.length:Int)
 ·refine eI @aA @h1 @h2 ?_
  exact hk.no (aL _)
 refine eI @aA @h1 @h2 ?_
 exact hk.yes (aL _) ⟨by omega,by omega⟩
theorem CJ {v:Value} {l:List K} (hv:Sl KE 3 w v l) (hk:wK (l.length≤2147483647∧∀ x ∈ l,EY x) k w):aX prog 127 #[v] k w:=by
 obtain ⟨ka,kc,rfl⟩:=hv.form
 refine ai [.tmp 2] func127 ?_
 by_cases hz:2147483647 < (l.length:Int)
 ·refine bf @hz ?_
  exact hk.no (bY.refl _)
 refine bf @hz ?_
 refine bO (fun i:Nat=>[(2,.bool false),(8,.slice ka l.length kc),(8+1,.int .i64 l.length),(8+2,.int .i64 i)])
  (fun i w'=>i≤l.length∧bY w w'∧∀ x ∈ l.take i,EY x) (fun i _=>l.length - i) 0 (by kernel_rfl) ?_ ⟨aQ _,bY.refl _,by simp⟩ ?_
 ·exact bE
 rintro K2 e i w1 ⟨i2,i3,i4⟩ hK2
 rcases aH i l.length with hi | hi
 rotate_left
 ·have hi':¬ (i:Int) < l.length:=by omega
  obtain rfl:i=l.length:=by omega
  rw [aT] at i4
  refine bf @hi' ?_
  exact hk.yes i3 ⟨by omega,i4⟩
 have hi':(i:Int) < l.length:=by omega
 obtain ⟨g,f,c,hv',hc,hat⟩:=(hv.inc KE.mono i3.inc).at (by omega)
 obtain ⟨rfl,rfl⟩:=sEq hv'
 obtain ⟨x,hx⟩:=gEl hi
 obtain ⟨cs,_,hcs,hR⟩:=hat i x hx
 obtain ⟨rfl,htr⟩:=hR
 have h0:w1.cell? ⟨g,f+i * 3,none⟩=some (.int .u64 x.tr):=hcs 0 _ rfl
 have h1:w1.cell? ⟨g,f+i * 3+1,none⟩=some (.string ⟨x.suf.toArray⟩):=hcs 1 _ rfl
 have h2:w1.cell? ⟨g,f+i * 3+2,none⟩=some (.string ⟨x.val.toArray⟩):=hcs 2 _ rfl
 refine gH @hi' @h0 @h1 @h2 @aA ?_
 refine CI fun b w2 x2 hb => ?_
 have x3:=i3.trans (bY.trans (aL _) x2)
 cases b with
 | false =>
  refine al ?_
  exact hk.no (x3)
 | true =>
  refine al ?_
  refine hK2 _ _ (i+1) ?_ ⟨hi,x3,ey i4 hx (hb rfl)⟩ (by omega)
  exact bE
theorem CK {kv:Value} {x:Sp} (hv:Sl KE 3 w kv x.ks) (hk:wK (rG x) k w):aX prog 93 #[.agg #[.string ⟨x.s.toArray⟩,.string ⟨x.e.toArray⟩,kv]] k w:=by
 obtain ⟨ka,kc,rfl⟩:=hv.form
 refine ai [.tmp 2] func93 ?_
 by_cases h1:2147483647 < (x.s.length:Int)
 ·refine dV @aA @h1 ?_
  exact hk.no (aL _)
 by_cases h2:2147483647 < (x.e.length:Int)
 ·refine eI @aA @h1 @h2 ?_
  exact hk.no (aL _)
 refine eI @aA @h1 @h2 ?_
 refine CJ (hv.inc KE.mono (aL _).inc) fun b w2 x2 hb => ?_
 have x3:=(aL _).trans x2
 cases b with
 | false =>
  refine al ?_
  exact hk.no x3
 | true =>
  refine al ?_
  exact hk.yes x3 ⟨by omega,by omega,hb rfl⟩
theorem CM {v:Value} {l:List Sp} (hv:Sl dY 3 w v l) (hk:wK (l.length≤2147483647∧∀ x ∈ l,rG x) k w):aX prog 55 #[v] k w:=by
 obtain ⟨ka,kc,rfl⟩:=hv.form
 refine ai [.tmp 2] func55 ?_
 by_cases hz:2147483647 < (l.length:Int)
 ·refine bf @hz ?_
  exact hk.no (bY.refl _)
 refine bf @hz ?_
 refine bO (fun i:Nat=>[(2,.bool false),(8,.slice ka l.length kc),(8+1,.int .i64 l.length),(8+2,.int .i64 i)])
  (fun i w'=>i≤l.length∧bY w w'∧∀ x ∈ l.take i,rG x) (fun i _=>l.length - i) 0 (by kernel_rfl) ?_ ⟨aQ _,bY.refl _,by simp⟩ ?_
 ·exact bE
 rintro K2 e i w1 ⟨i2,i3,i4⟩ hK2
 rcases aH i l.length with hi | hi
 rotate_left
 ·have hi':¬ (i:Int) < l.length:=by omega
  obtain rfl:i=l.length:=by omega
  rw [aT] at i4
  refine bf @hi' ?_
  exact hk.yes i3 ⟨by omega,i4⟩
 have hi':(i:Int) < l.length:=by omega
 obtain ⟨g,f,c,hv',hc,hat⟩:=(hv.inc dY.mono i3.inc).at (by omega)
 obtain ⟨rfl,rfl⟩:=sEq hv'
 obtain ⟨x,hx⟩:=gEl hi
 obtain ⟨cs,_,hcs,hR⟩:=hat i x hx
 obtain ⟨kv,rfl,hkv⟩:=hR
 obtain ⟨kva,kvc,rfl⟩:=hkv.form
 have h0:w1.cell? ⟨g,f+i * 3,none⟩=some (.string ⟨x.s.toArray⟩):=hcs 0 _ rfl
 have h1:w1.cell? ⟨g,f+i * 3+1,none⟩=some (.string ⟨x.e.toArray⟩):=hcs 1 _ rfl
 have h2:w1.cell? ⟨g,f+i * 3+2,none⟩=some (.slice kva x.ks.length kvc):=hcs 2 _ rfl
 refine gH @hi' @h0 @h1 @h2 @aA ?_
 refine CK (hkv.inc KE.mono (aL _).inc) fun b w2 x2 hb => ?_
 have x3:=i3.trans (bY.trans (aL _) x2)
 cases b with
 | false =>
  refine al ?_
  exact hk.no (x3)
 | true =>
  refine al ?_
  refine hK2 _ _ (i+1) ?_ ⟨hi,x3,ey i4 hx (hb rfl)⟩ (by omega)
  exact bE
theorem CN {v:Value} {l:List (List Sp)} (hv:Sl jx 1 w v l) (hk:wK (l.length≤2147483647∧∀ x ∈ l,x.length≤2147483647∧∀ y ∈ x,rG y) k w):aX prog 13 #[v] k w:=by
 obtain ⟨ka,kc,rfl⟩:=hv.form
 refine ai [.tmp 2] func13 ?_
 by_cases hz:2147483647 < (l.length:Int)
 ·refine bf @hz ?_
  exact hk.no (bY.refl _)
 refine bf @hz ?_
 refine bO (fun i:Nat=>[(2,.bool false),(8,.slice ka l.length kc),(8+1,.int .i64 l.length),(8+2,.int .i64 i)])
  (fun i w'=>i≤l.length∧bY w w'∧∀ x ∈ l.take i,x.length≤2147483647∧∀ y ∈ x,rG y) (fun i _=>l.length - i) 0 (by kernel_rfl) ?_ ⟨aQ _,bY.refl _,by simp⟩ ?_
 ·exact bE
 rintro K2 e i w1 ⟨i2,i3,i4⟩ hK2
 rcases aH i l.length with hi | hi
 rotate_left
 ·have hi':¬ (i:Int) < l.length:=by omega
  obtain rfl:i=l.length:=by omega
  rw [aT] at i4
  refine bf @hi' ?_
  exact hk.yes i3 ⟨by omega,i4⟩
 have hi':(i:Int) < l.length:=by omega
 obtain ⟨g,f,c,hv',hc,hat⟩:=(hv.inc jx.mono i3.inc).at (by omega)
 obtain ⟨rfl,rfl⟩:=sEq hv'
 obtain ⟨x,hx⟩:=gEl hi
 obtain ⟨cs,_,hcs,hR⟩:=hat i x hx
 obtain ⟨kv,rfl,hkv⟩:=hR
 obtain ⟨kva,kvc,rfl⟩:=hkv.form
 have h0:w1.cell? ⟨g,f+i * 1,none⟩=some (.slice kva x.length kvc):=hcs 0 _ rfl
 refine dV @hi' @h0 ?_
 refine CM hkv fun b w2 x2 hb => ?_
 have x3:=i3.trans x2
 cases b with
 | false =>
  refine al ?_
  exact hk.no (x3)
 | true =>
  refine al ?_
  refine hK2 _ _ (i+1) ?_ ⟨hi,x3,ey i4 hx (hb rfl)⟩ (by omega)
  exact bE
end
end Go.Proofs
end
section
namespace Go.E
open Go Go.Sort Go.Proofs Go.Proofs.Tryz
theorem Ao (x y:Bytes):Op.bytesLess x y=decide (x < y):=by
 induction x generalizing y with
 | nil=>cases y <;> simp [Op.bytesLess]
 | cons a x ih =>
  cases y with
  | nil=>simp [Op.bytesLess]
  | cons b y =>
   rw [bJ]
   simp [Op.bytesLess,ih,List.cons_lt_cons_iff]
section
variable {a b:Bytes} {q:Value→Prop}
@[go_sem high] theorem Jo:jz .eql ⟨a.toArray⟩ ⟨b.toArray⟩ q=q (.bool (decide (a=b))):=by
 rw [DG,ByteArray.toList_mk,ByteArray.toList_mk]
 congr 2
 rw [bJ]; simp
@[go_sem high] theorem Jp:jz .neq ⟨a.toArray⟩ ⟨b.toArray⟩ q=q (.bool (decide (a≠b))):=by
 rw [DH,ByteArray.toList_mk,ByteArray.toList_mk]
 congr 2
 rw [bJ]; simp
@[go_sem high] theorem Jq:jz .lss ⟨a.toArray⟩ ⟨b.toArray⟩ q=q (.bool (decide (a < b))):=by
 rw [DI,ByteArray.toList_mk,ByteArray.toList_mk,Ao]
theorem LF (a b:Bytes):(decide (a < b) || a == b)=decide (¬ b < a):=by
 rw [bJ]
 simp only [Bool.or_eq_true,decide_eq_true_eq,beq_iff_eq]
 constructor
 ·rintro (h | rfl)
  ·exact gT h
  ·exact bU _
 ·intro h
  rcases gw a b with h1 | h1 | h1
  ·exact .inl h1
  ·exact .inr h1
  ·exact absurd h1 h
@[go_sem high] theorem Jr:jz .leq ⟨a.toArray⟩ ⟨b.toArray⟩ q=q (.bool (decide (¬ b < a))):=by
 rw [DJ,ByteArray.toList_mk,ByteArray.toList_mk,Ao,LF]
@[go_sem high] theorem Js:jz .gtr ⟨a.toArray⟩ ⟨b.toArray⟩ q=q (.bool (decide (b < a))):=by
 rw [DL,ByteArray.toList_mk,ByteArray.toList_mk,Ao,LF]
 by_cases h:b < a
 ·rw [aO h,aF fun hn=>hn h]; rfl
 ·rw [aF h,aO h]; rfl
@[go_sem high] theorem Jt:jz .geq ⟨a.toArray⟩ ⟨b.toArray⟩ q=q (.bool (decide (¬ a < b))):=by
 rw [DM,ByteArray.toList_mk,ByteArray.toList_mk,Ao]
 by_cases h:a < b
 ·rw [aO h,aF fun hn=>hn h]; rfl
 ·rw [aF h,aO h]; rfl
end
theorem HM {l:List Sp} (h1:∀ i (h:i < l.length),l[i].s < l[i].e) (h2:∀ i (h:i+1 < l.length),¬ l[i+1].s < l[i].e):Wf l:=by
 refine ⟨fun i hi=>by rw [aG l i hi]; exact h1 i hi,fun i j hij hj => ?_⟩
 have aux:∀ m,∀ (hm:i+1+m < l.length),¬ l[i+1+m].s < (l[i]'(by omega)).e:=by
  intro m
  induction m with
  | zero=>intro hm; exact h2 i (by omega)
  | succ m ih =>
   intro hm h3
   have a:=h1 (i+1+m) (by omega)
   have b:=h2 (i+1+m) (by omega)
   exact ih (by omega) (List.lt_trans (cJ a b) h3)
 rw [aG l i (by omega),aG l j hj]
 have:=aux (j - (i+1)) (by omega)
 simp only [show i+1+(j - (i+1))=j by omega] at this
 grind
end Go.E
namespace Go.Proofs
open Go Go.E Go.Sort Go.Proofs.Tryz
section
variable {k:aq} {d w:World}
theorem mK {t:Nat} (hk:k (.int .u8 (an t)) w):aX prog 48 #[.int .u64 t] k w:=by
 refine ai [.tmp 2] func48 ?_
 refine al ?_
 have e8:IntKind.u8.wrap (t:Int)=(an t:Nat):=by
  unfold an
  simp [IntKind.wrap,IntKind.bits,IntKind.signed]
 rw [e8]
 exact hk
theorem rT {t:Nat} (hk:k (.int .u64 (t / 256:Nat)) w):aX prog 79 #[.int .u64 t] k w:=by
 have h8:(0:Int)≤8:=by decide
 have e:=FS (a:=t) (s:=8) (n:=8) (m:=256) rfl rfl
 refine ai [.tmp 2] func79 ?_
 simp (disch:=first | exact dZ | fail) only [go_sem,gL h8,e]
 exact hk
theorem wL {kv:Value} {x:Sp} {key:Bytes} (hf:∃ a n c,kv = .slice a n c) (hk:∀ w',bY w w'→k (.bool (fA key x)) w'):aX prog 27 #[.agg #[.string ⟨x.s.toArray⟩,.string ⟨x.e.toArray⟩,kv],.string ⟨key.toArray⟩] k w:=by
 obtain ⟨a,n,c,rfl⟩:=hf
 refine ai [.tmp 4] func27 ?_
 by_cases h1:key < x.s
 ·have e:fA key x=false:=aF fun h=>h.1 h1
  rw [e] at hk
  refine eI @aA @h1 @not_true_eq_false ?_
  exact hk _ (aL _)
 ·by_cases h2:key < x.e
  ·have e:fA key x=true:=aO ⟨h1,h2⟩
   rw [e] at hk
   refine fW @aA @h1 @h2 @not_false_eq_true ?_
   exact hk _ (aL _)
  ·have e:fA key x=false:=aF fun h=>h2 h.2
   rw [e] at hk
   refine fW @aA @h1 @h2 @not_false_eq_true ?_
   exact hk _ (aL _)
theorem yR {x y:K} (hk:∀ w',bY w w'→k (.bool (gO x y)) w'):aX prog 112 #[.agg #[.int .u64 x.tr,.string ⟨x.suf.toArray⟩,.string ⟨x.val.toArray⟩],.agg #[.int .u64 y.tr,.string ⟨y.suf.toArray⟩,.string ⟨y.val.toArray⟩]] k w:=by
 have x2:∀ a b,bY w ((w.alloc a).alloc b):=fun a b=>(aL _).trans (aL _)
 refine ai [.tmp 4] func112 ?_
 by_cases h1:x.tr=y.tr
 ·have h1':((x.tr:Int) != y.tr)=false:=by rw [h1]; simp
  by_cases h2:x.suf=y.suf
  ·have e:gO x y=decide (x.val < y.val):=by unfold gO; rw [if_neg (by simpa using h1),if_neg (by simpa using h2)]
   rw [e] at hk
   simp (disch:=first | exact dZ | fail) only [go_sem,aA,h1',h2,ne_eq,not_true_eq_false]
   exact hk _ (x2 _ _)
  ·have e:gO x y=decide (x.suf < y.suf):=by unfold gO; rw [if_neg (by simpa using h1),if_pos h2]
   rw [e] at hk
   simp (disch:=first | exact dZ | fail) only [go_sem,aA,h1',h2,ne_eq,not_false_eq_true]
   exact hk _ (x2 _ _)
 ·have h1':((x.tr:Int) != y.tr)=true:=by simp; omega
  have e:gO x y=decide ((y.tr:Int) < x.tr):=by unfold gO; rw [if_pos h1]; exact decide_eq_decide.2 (by omega)
  rw [e] at hk
  refine dV @aA @h1' ?_
  exact hk _ (x2 _ _)
end
end Go.Proofs
end
