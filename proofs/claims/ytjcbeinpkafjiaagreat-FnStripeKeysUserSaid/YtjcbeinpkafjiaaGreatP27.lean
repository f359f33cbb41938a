/- Parts of the proof: Xt, Fk, Xz, Yd, Yc, Ye, Kl, Kj, Xm. -/
import Derived.Test.YtjcbeinpkafjiaaGreatP22
import Derived.Test.YtjcbeinpkafjiaaGreatP23
import Derived.Test.YtjcbeinpkafjiaaGreatP25
import Derived.Test.YtjcbeinpkafjiaaGreatP26
set_option linter.all false
set_option maxRecDepth 10000
section
namespace Go.E
open Go Go.Sort Go.Proofs Go.Proofs.Tryz
theorem EU {l:List Sp} {key:Bytes} {i:Nat} {x:Sp} (h:l[i]? = some x):gZ (l.take (i+1)) key=gZ (l.take i) key++if ez key x then x.ks else []:=by
 rw [bp h,kp]
 unfold gZ
 simp
theorem Ak {l:List Sp} {key:Bytes} {m:Nat} (h:∀ x ∈ l,x.ks.length≤m):(gZ l key).length≤l.length * m:=by
 induction l with
 | nil=>simp [gZ]
 | cons x l ih =>
  have h1:=h x aR
  have h2:=ih fun y hy=>h y (aj _ hy)
  have e:gZ (x :: l) key=(if ez key x then x.ks else [])++gZ l key:=by unfold gZ; rw [bZ]
  rw [e,aM,ag,Nat.add_mul]
  split
  ·omega
  ·rw [List.length_nil]; omega
end Go.E
namespace Go.Proofs
open Go Go.E Go.Sort Go.Proofs.Tryz
section
variable {k:ao} {d w:World}
theorem HH {v:Value} {l:List Sp} {key:Bytes} (hv:Sl dY 3 w v l) (hl:l.length≤1000) (hks:∀ x ∈ l,x.ks.length≤40) (hk:∀ v2 w2,bf w w2→OwnC yV 3 88 w2 v2 (cC (gZ l key))→(∀ g,v2.ownBlock=some g→w.heap.size≤g)→k v2 w2):aY prog 24 #[v,.string ⟨key.toArray⟩] k w:=by
 have htr:=Ae hv
 obtain ⟨ka,kc,rfl⟩:=hv.form
 refine ah [.tmp 4] func24 ?_
 refine al ?_
 refine bQ (fun c:Nat × Value=>[(1,.string ⟨key.toArray⟩),(5,c.2),(8,.slice ka l.length kc),(9,.int .i64 l.length),(10,.int .i64 c.1)])
  (fun c w'=>c.1≤l.length∧bf w w'∧OwnC yV 3 88 w' c.2 (gZ (l.take c.1) key)∧∀ g,c.2.ownBlock=some g→w.heap.size≤g) (fun c _=>l.length - c.1) (0,.slice none 0 0) (by kernel_rfl) ?_ ⟨aP _,bf.refl _,OwnC.nil rG,by simp [Value.ownBlock]⟩ ?_
 ·exact bJ
 rintro K2 e ⟨i,vo⟩ w1 ⟨i2,i3,i4,i5⟩ hK2
 simp only at i2 i4 i5
 have hlen:=Ak (key:=key) (m:=40) fun y hy=>hks y (List.mem_of_mem_take (i:=i) hy)
 rw [dO i2] at hlen
 have h40:i * 40≤1000 * 40:=bH _ (by omega)
 rcases aH i l.length with hi | hi
 rotate_left
 ·have hi':¬ (i:Int) < l.length:=by omega
  obtain rfl:i=l.length:=by omega
  rw [aX] at i4 hlen
  have ht:I5 (gZ l key):=fun y hy=>by
   unfold gZ at hy
   obtain ⟨x,hx,hy⟩:=dV.1 hy
   split at hy
   ·exact htr x hx y hy
   ·simp at hy
  obtain ⟨va,vc,rfl,_⟩:=i4.form
  refine bb @hi' ?_
  refine pq (i4.ke ht) (by omega) fun v2 w2 x2 o2 n2 => ?_
  refine al ?_
  exact hk _ _ (i3.trans x2) o2 fun g hg=>aT i3.size (n2 g hg)
 have hi':(i:Int) < l.length:=by omega
 obtain ⟨g,f,c,hv',hc,hat⟩:=(hv.inc dY.mono i3.inc).at (by omega)
 obtain ⟨rfl,rfl⟩:=sEq hv'
 obtain ⟨x,hx⟩:=gEl hi
 have hxm:=aJ hx
 obtain ⟨h0,h1,a,cc,h2,hkx⟩:=dG (hat i x hx)
 obtain ⟨T,hT⟩:∃ T,T=w1.heap.size:=⟨_,rfl⟩
 obtain ⟨w2,hw2⟩:∃ w2,w2=w1.alloc (.cells #[.string ⟨x.s.toArray⟩,.string ⟨x.e.toArray⟩,.slice a x.ks.length cc] 46):=⟨_,rfl⟩
 have x2:bf w1 w2:=by rw [hw2]; exact aL _
 have a0:w2.cell? ⟨T,0,none⟩=some (.string ⟨x.s.toArray⟩):=by rw [hw2,hT]; exact bY @aA
 have a1:w2.cell? ⟨T,1,none⟩=some (.string ⟨x.e.toArray⟩):=by rw [hw2,hT]; exact bY @aA
 have a2:w2.cell? ⟨T,2,none⟩=some (.slice a x.ks.length cc):=by rw [hw2,hT]; exact bY @aA
 have more:=EU (key:=key) hx
 refine gG @hi' @h0 @h1 @h2 @aA ?_
 rw [← hw2,← hT]
 refine vy ⟨_,_,_,rfl⟩ fun w3 x3 => ?_
 have x13:=x2.trans x3
 have a2:=x3.cell a2
 cases hc:ez key x with
 | false =>
  rw [hc,if_neg (by decide),ax] at more
  refine al ?_
  refine hK2 _ _ (i+1,vo) ?_ ⟨hi,i3.trans x13,by simp only; rw [more]; exact i4.ext x13,i5⟩ (by simp only; omega)
  exact bJ
 | true =>
  rw [hc,if_pos rfl] at more
  obtain ⟨va,vc,rfl,_⟩:=i4.form
  refine bb @a2 ?_
  have hxl:=hks x hxm
  refine G8 (m:=x.ks) rw44 (i4.ext x13) (Ad hkx x13.inc) (fun y _=>rH y) (by omega) fun v5 w5 o5 k5 n5 => ?_
  obtain ⟨va5,vc5,rfl,_⟩:=o5.form
  refine al ?_
  have hx5:bf w w5:=(i3.trans x13).tr k5 fun b o hb h=>by have:=i5 b h; omega
  refine hK2 _ _ (i+1,_) ?_ ⟨hi,hx5,by simp only; rw [more]; exact o5,fun g hg => ?_⟩ (by simp only; omega)
  ·exact bJ
  ·rcases n5 g hg with h | h
   ·exact i5 g h
   ·have:=(i3.trans x13).size; omega
theorem zq {v:Value} {l:List K} (hv:Sl KE 3 d v l) (hl:l.length≤100000) (hinc:bu d w) (hk:∀ d' w' v',Gr d w d' w'→Sl KE 3 d' v' l→k v' w'):aY prog 44 #[v] k w:=by
 obtain ⟨ka,kc,rfl⟩:=hv.form
 refine ah [.tmp 2] func44 ?_
 refine al ?_
 refine bQ (fun b:Nat × Value=>[(3,b.2),(6,.slice ka l.length kc),(7,.int .i64 l.length),(8,.int .i64 b.1)])
  (fun b w'=>b.1≤l.length∧∃ d1,LoopL KE 3 88 d w d1 w' b.2 (l.take b.1)) (fun b _=>l.length - b.1) (0,.slice none 0 0) (by kernel_rfl) ?_ ⟨aP _,d,LoopL.nil hinc⟩ ?_
 ·exact bJ
 rintro K2 e ⟨i,v⟩ w1 ⟨i2,d1,i3⟩ hK2
 simp only at i2 i3
 rcases aH i l.length with hi | hi
 rotate_left
 ·have hi':¬ (i:Int) < l.length:=by omega
  refine bb @hi' ?_
  obtain rfl:i=l.length:=by omega
  rw [aX] at i3
  obtain ⟨d2,g2,_,_,s2⟩:=i3.done KE.mono
  exact hk d2 w1 v g2 s2
 have hi':(i:Int) < l.length:=by omega
 obtain ⟨g,f,c,hv',hc,hat⟩:=(hv.inc KE.mono i3.g.i).at (by omega)
 obtain ⟨rfl,rfl⟩:=sEq hv'
 obtain ⟨x,hx⟩:=gEl hi
 obtain ⟨cs,_,hcs,hR⟩:=hat i x hx
 have hmem:=aJ hx
 obtain ⟨rfl,htr⟩:=hR
 have h0:w1.cell? ⟨g,f+i * 3,none⟩=some (.int .u64 x.tr):=i3.g.j _ _ _ (hcs 0 _ rfl)
 have h1:w1.cell? ⟨g,f+i * 3+1,none⟩=some (.string ⟨x.suf.toArray⟩):=i3.g.j _ _ _ (hcs 1 _ rfl)
 have h2:w1.cell? ⟨g,f+i * 3+2,none⟩=some (.string ⟨x.val.toArray⟩):=i3.g.j _ _ _ (hcs 2 _ rfl)
 obtain ⟨va,vcap,rfl,_⟩:=i3.form
 have i4:=i3.ext KE.mono (aL (.cells #[.int .u64 x.tr,.string ⟨x.suf.toArray⟩,.string ⟨x.val.toArray⟩] 62))
 obtain ⟨css,o4⟩:=i4.o
 refine gG @hi' @h0 @h1 @h2 @aA ?_
 refine jQ x [.int .u64 x.tr,.string ⟨x.suf.toArray⟩,.string ⟨x.val.toArray⟩] rw44 o4 ⟨rfl,htr⟩ rfl (.inl rfl) (World.size_alloc _ _).symm rfl (by simp [Value.oneCell']) (by rw [dO i2]; omega) i4.g.j fun v2 w2 o2 k2 n2 j2 _ => ?_
 refine al ?_
 refine hK2 _ _ (i+1,v2) ?_ ⟨hi,d1,?_⟩ (by simp only; omega)
 ·exact bJ
 ·rw [bp hx]
  exact i4.more o2 k2 n2 j2
theorem zr {kv:Value} {x:Sp} (hv:Sl KE 3 d kv x.ks) (hl:x.ks.length≤100000) (hinc:bu d w) (hk:∀ d' w' v',Gr d w d' w'→Sl KE 3 d' v' x.ks→k (.agg #[.string ⟨x.s.toArray⟩,.string ⟨x.e.toArray⟩,v']) w') :
    aY prog 28 #[.agg #[.string ⟨x.s.toArray⟩,.string ⟨x.e.toArray⟩,kv]] k w:=by
 obtain ⟨ka,kc,rfl⟩:=hv.form
 refine ah [.cell 2 46] func28 ?_
 refine al ?_
 refine ay (sq [0] (.read 1 (sq [2] (.read 3 (sq [4] (.read 5 (.eff 6 [1,3] (sq [7] (.eff 8 [] .done))))))))) ?_
 obtain ⟨A,hA⟩:∃ A,A=w.heap.size:=⟨_,rfl⟩
 obtain ⟨W,hW⟩:∃ W,W=((w.alloc (.cells #[.string ⟨x.s.toArray⟩,.string ⟨x.e.toArray⟩,.slice ka x.ks.length kc] 56)).alloc (.cells #[.string ByteArray.empty,.string ByteArray.empty,.slice none 0 0] 46)).drew:=⟨_,rfl⟩
 have xW:bf w W:=by rw [hW]; exact bf.drew' ((aL _).trans (aL _))
 have a0:W.cell? ⟨A,0,none⟩=some (.string ⟨x.s.toArray⟩):=by rw [hW,hA]; exact bY @aA
 have a1:W.cell? ⟨A,1,none⟩=some (.string ⟨x.e.toArray⟩):=by rw [hW,hA]; exact bY @aA
 have b0:W.cell? ⟨A+1,0,none⟩=some (.string ByteArray.empty):=by rw [hW,hA]; exact bY @aA
 have b1:W.cell? ⟨A+1,1,none⟩=some (.string ByteArray.empty):=by rw [hW,hA]; exact bY @aA
 have b2:W.cell? ⟨A+1,2,none⟩=some (.slice none 0 0):=by rw [hW,hA]; exact bY @aA
 have fz:∀ y,W.frozen? ⟨A+1,y,none⟩=false:=fun y=>by rw [hW,hA]; exact bY @eC
 have zW:W.heap.size=A+2:=by rw [hW,hA]; simp only [World.size_drew,World.size_alloc]
 refine bb @aA ?_
 rw [← hA,← hW]
 refine zq hv hl (hinc.trans xW.inc) fun d1 w1 v1 g1 s1 => ?_
 obtain ⟨va,vc,rfl⟩:=s1.form
 have a0:=g1.x.cell a0
 have a1:=g1.x.cell a1
 have b0:=g1.x.cell b0
 have b1:=g1.x.cell b1
 have b2:=g1.x.cell b2
 have fz:∀ y,w1.frozen? ⟨A+1,y,none⟩=false:=fun y=>by rw [g1.x.frozen _ y (by omega)]; exact fz y
 have hoA:cq d (A+1):=hinc.out (by omega)
 refine tC @a0 @a1 @b0 @b1 @b2 @fz ?_
 have kk:=(((Keep.refl (M:=fun b _=>b=A+1) w1).set (b:=A+1) (o:=0) (v := .string ⟨x.s.toArray⟩) fun _=>rfl).set (b:=A+1) (o:=1) (v := .string ⟨x.e.toArray⟩) fun _=>rfl).set (b:=A+1) (o:=2) (v := .slice va x.ks.length vc) fun _=>rfl
 exact hk _ _ _ (((Gr.ext hinc xW).trans g1).mut kk fun b o h=>by
  subst h
  exact ⟨by omega,g1.o _ (by omega) hoA⟩) s1
end
end Go.Proofs
end
section
namespace Go.E
open Go Go.Sort Go.Proofs Go.Proofs.Tryz
theorem FrC.gr {c:Nat→Nat} {d w d2 w2:World} {F O A:Nat} {vo vf:Value} {out:List Sp} {lf:List KR} (h:FrC c d w F O A vo out vf lf) (g:Gr d w d2 w2):FrC c d2 w2 F O A vo out vf lf:=by
 have h2:=h.keep3 g.x fun _ _ h=>h.elim
 obtain ⟨css,oo⟩:=h2.em.oo
 obtain ⟨css1,oo1⟩:=h.em.oo
 exact ⟨⟨h2.em.cA,h2.em.cO,h2.em.fO,css,oo.ghost dY.mono g.i fun b hb=>g.o b (oo1.own.lt _ hb).2 (oo1.out b hb)⟩,h2.f0,h2.f2,h2.f5,h2.f6,⟨h2.f7.hd,h2.f7.own,fun x hx=>by
  obtain ⟨a,b,e⟩:=h2.f7.good x hx
  exact ⟨a,b.inc g.i,e.inc g.i⟩⟩,h2.fz,g.o F (aE h.f0) h.oF,g.o O (aE h.em.cO) h.oO,h2.cF,h2.cO,h2.cA,h2.c3,fun b hb=>⟨(h2.c4 b hb).1,g.o b (h.f7.own.lt _ hb).2 (h2.c4 b hb).2⟩⟩
theorem FrS.gr {c:Nat→Nat} {d w d2 w2:World} {F O A:Nat} {vo vf vp vd vk:Value} {out:List Sp} {lf:List KR} {P:List SR} {q:Bytes} (s:FrS c d w F O A vo out vf lf vp P vd vk q) (g:Gr d w d2 w2):FrS c d2 w2 F O A vo out vf lf vp P vd vk q:=by
 have h2:=s.ext g.x
 obtain ⟨n,xs,ho⟩:=s.kown
 exact ⟨s.core.gr g,h2.f3,h2.pown,fun r hr=>(h2.pgood r hr).inc g.i,fun b hb=>⟨(h2.pc b hb).1,g.o b (s.pown.lt _ hb).2 (h2.pc b hb).2⟩,h2.f4,h2.down,fun b hb=>⟨(h2.dc b hb).1,g.o b (s.down.lt _ hb).2 (h2.dc b hb).2⟩,h2.f8,h2.kown,fun b hb=>⟨(h2.kc b hb).1,g.o b (ho.lt _ hb).2 (h2.kc b hb).2⟩,h2.kb,h2.f9⟩
theorem Gr.gk {d w d1 w1 d2 w2:World} {M:Nat→Nat→Prop} (g:Gr d w d1 w1) (G:Gk M d1 w1 d2 w2) (hM:∀ b o,b < w.heap.size→¬ M b o):Gr d w d2 w2 :=
 ⟨g.x.tr G.k fun b o hb hm=>(hM b o hb hm).elim,g.i.trans G.i,G.j,fun b hb ho=>G.o b (aI hb g.x.size) (g.o b hb ho)⟩
end Go.E
namespace Go.Proofs
open Go Go.E Go.Sort Go.Proofs.Tryz
section
variable {k:ao} {d w:World}
theorem yP {v:Value} {l:List Sp} (hv:Sl dY 3 d v l) (hl:l.length≤100000) (hks:∀ x ∈ l,x.ks.length≤100000) (hinc:bu d w) (hk:∀ d' w' v',Gr d w d' w'→Sl dY 3 d' v' l→k v' w'):aY prog 50 #[v] k w:=by
 obtain ⟨ka,kc,rfl⟩:=hv.form
 refine ah [.tmp 2] func50 ?_
 refine al ?_
 refine bQ (fun b:Nat × Value=>[(3,b.2),(6,.slice ka l.length kc),(7,.int .i64 l.length),(8,.int .i64 b.1)])
  (fun b w'=>b.1≤l.length∧∃ d1,LoopL dY 3 46 d w d1 w' b.2 (l.take b.1)) (fun b _=>l.length - b.1) (0,.slice none 0 0) (by kernel_rfl) ?_ ⟨aP _,d,LoopL.nil hinc⟩ ?_
 ·exact bJ
 rintro K2 e ⟨i,v⟩ w1 ⟨i2,d1,i3⟩ hK2
 simp only at i2 i3
 rcases aH i l.length with hi | hi
 rotate_left
 ·have hi':¬ (i:Int) < l.length:=by omega
  refine bb @hi' ?_
  obtain rfl:i=l.length:=by omega
  rw [aX] at i3
  obtain ⟨d2,g2,_,_,s2⟩:=i3.done dY.mono
  exact hk d2 w1 v g2 s2
 have hi':(i:Int) < l.length:=by omega
 obtain ⟨g,f,c,hv',hc,hat⟩:=(hv.inc dY.mono i3.g.i).at (by omega)
 obtain ⟨rfl,rfl⟩:=sEq hv'
 obtain ⟨x,hx⟩:=gEl hi
 obtain ⟨cs,_,hcs,hR⟩:=hat i x hx
 have hmem:=aJ hx
 obtain ⟨kv,rfl,hkv⟩:=hR
 obtain ⟨kva,kvc,rfl⟩:=hkv.form
 have h0:w1.cell? ⟨g,f+i * 3,none⟩=some (.string ⟨x.s.toArray⟩):=i3.g.j _ _ _ (hcs 0 _ rfl)
 have h1:w1.cell? ⟨g,f+i * 3+1,none⟩=some (.string ⟨x.e.toArray⟩):=i3.g.j _ _ _ (hcs 1 _ rfl)
 have h2:w1.cell? ⟨g,f+i * 3+2,none⟩=some (.slice kva x.ks.length kvc):=i3.g.j _ _ _ (hcs 2 _ rfl)
 have i4:=i3.ext dY.mono (aL (.cells #[.string ⟨x.s.toArray⟩,.string ⟨x.e.toArray⟩,.slice kva x.ks.length kvc] 56))
 refine gG @hi' @h0 @h1 @h2 @aA ?_
 refine zr (x:=x) hkv (hks x hmem) i4.g.j fun d4 w4 v4 g4 s4 => ?_
 have i5:=i4.call dY.mono g4
 obtain ⟨css,o5⟩:=i5.o
 obtain ⟨va,vcap,rfl,_⟩:=i5.form
 obtain ⟨k4,c4,rfl⟩:=s4.form
 refine al ?_
 refine jQ x [.string ⟨x.s.toArray⟩,.string ⟨x.e.toArray⟩,.slice k4 x.ks.length c4] rw28 o5 ⟨_,rfl,s4⟩ rfl (.inl rfl) rfl rfl (by simp [Value.oneCell']) (by rw [dO i2]; omega) i5.g.j fun v2 w2 o2 k2 n2 j2 _ => ?_
 refine al ?_
 refine hK2 _ _ (i+1,v2) ?_ ⟨hi,d4,?_⟩ (by simp only; omega)
 ·exact bJ
 ·rw [bp hx]
  exact i5.more o2 k2 n2 j2
end
end Go.Proofs
end
section
namespace Go.E
open Go Go.Sort Go.Proofs
def Kx:gJ Bytes:=fun _ cs x=>cs=[str x]
theorem Kx.mono:gX Kx:=fun _ _ _ _ _ h=>h
end Go.E
namespace Go.Proofs
open Go Go.E Go.Sort
section
variable {k:ao} {d w:World}
end
end Go.Proofs
end
section
namespace Go.E
open Go Go.Sort Go.Proofs Go.Proofs.Tryz
def ga (s:Sp):Bool:=decide (s.ks≠[])
structure VOk (Lv:List (List Sp)) (snap:Nat):Prop where
 rin:RIn Lv snap none none
 n6:Lv.length≤6
 sz:∀ x ∈ Lv,x.length≤1000∧∀ y ∈ x,y.ks.length≤2000
 n:Lv.flatten.length≤300
theorem VOk.vl {Lv:List (List Sp)} {snap:Nat} (h:VOk Lv snap):(rV Lv snap none none).length≤601:=by
 have:=CC Lv snap
 have:=h.n
 omega
theorem VOk.vk {Lv:List (List Sp)} {snap:Nat} (h:VOk Lv snap):∀ x ∈ rV Lv snap none none,x.ks.length≤600000:=fun x hx=>by
 have h1:=I8 h.rin (m:=2000) (fun L hL s hs=>(h.sz L hL).2 s hs) x hx
 have h2:Lv.flatten.length * 2000≤300 * 2000:=bH _ h.n
 omega
end Go.E
namespace Go.Proofs
open Go Go.E Go.Sort Go.Proofs.Tryz
section
variable {k:ao} {d w:World}
theorem tb {v:Value} {l:List An} (hv:Sl zL 5 d v l) (hl:l.length≤10000) (hks:∀ x ∈ l8 l,x.ks.length≤1000000) (hinc:bu d w) (hk:∀ d' w' v',Gr d w d' w'→Sl dY 3 d' v' (((l8 l).map cJ).filter ga)→k v' w'):aY prog 31 #[v] k w:=by
 obtain ⟨ka,kc,rfl⟩:=hv.form
 have hfl:(l8 l).length≤l.length:=by
  unfold l8
  rw [ak]
  exact bF _ _
 refine ah [.tmp 2] func31 ?_
 refine al ?_
 refine wL hv (by omega) hinc fun d1 w1 v1 g1 s1 => ?_
 refine al ?_
 refine tY s1 (by omega) (fun x hx=>by have:=hks x hx; omega) g1.j fun d2 w2 v2 g2 s2 => ?_
 have g12:=g1.trans g2
 obtain ⟨M,hM⟩:∃ M,M=(l8 l).map cJ:=⟨_,rfl⟩
 have hMl:M.length≤10000:=by rw [hM,ak]; omega
 rw [← hM] at s2 hk
 obtain ⟨va,vc,rfl⟩:=s2.form
 refine al ?_
 refine bQ (fun b:Nat × Value=>[(3,b.2),(8,.slice va M.length vc),(9,.int .i64 M.length),(10,.int .i64 b.1)])
  (fun b w'=>b.1≤M.length∧∃ d1,LoopL dY 3 46 d2 w2 d1 w' b.2 ((M.take b.1).filter ga)) (fun b _=>M.length - b.1) (0,.slice none 0 0) (by kernel_rfl) ?_ ⟨aP _,d2,LoopL.nil g12.j⟩ ?_
 ·exact bJ
 rintro K2 e ⟨i,vo⟩ w3 ⟨i2,d3,i3⟩ hK2
 simp only at i2 i3
 rcases aH i M.length with hi | hi
 rotate_left
 ·have hi':¬ (i:Int) < M.length:=by omega
  refine bb @hi' ?_
  obtain rfl:i=M.length:=by omega
  rw [aX] at i3
  obtain ⟨d4,g4,_,_,s4⟩:=i3.done dY.mono
  exact hk d4 w3 vo (g12.trans g4) s4
 have hi':(i:Int) < M.length:=by omega
 obtain ⟨g,f,c,hv',hc,hat⟩:=(s2.inc dY.mono i3.g.i).at (by omega)
 obtain ⟨rfl,rfl⟩:=sEq hv'
 obtain ⟨x,hx⟩:=gEl hi
 obtain ⟨h0,h1,a,cc,h2,hkx⟩:=dG (hat i x hx)
 have h0:=i3.g.j _ _ _ h0
 have h1:=i3.g.j _ _ _ h1
 have h2:=i3.g.j _ _ _ h2
 have hmore:(M.take (i+1)).filter ga=(M.take i).filter ga++if ga x then [x] else []:=by
  rw [bp hx,List.filter_append]
  cases h:ga x <;> simp [List.filter_cons,h]
 obtain ⟨T,hT⟩:∃ T,T=w3.heap.size:=⟨_,rfl⟩
 obtain ⟨w4,hw4⟩:∃ w4,w4=w3.alloc (.cells #[.string ⟨x.s.toArray⟩,.string ⟨x.e.toArray⟩,.slice a x.ks.length cc] 46):=⟨_,rfl⟩
 have x4:bf w3 w4:=by rw [hw4]; exact aL _
 have a0:w4.cell? ⟨T,0,none⟩=some (.string ⟨x.s.toArray⟩):=by rw [hw4,hT]; exact bY @aA
 have a1:w4.cell? ⟨T,1,none⟩=some (.string ⟨x.e.toArray⟩):=by rw [hw4,hT]; exact bY @aA
 have a2:w4.cell? ⟨T,2,none⟩=some (.slice a x.ks.length cc):=by rw [hw4,hT]; exact bY @aA
 have i5:=i3.ext dY.mono x4
 refine fW @hi' @h0 @h1 @h2 ?_
 rw [← hw4,← hT]
 by_cases hz:x.ks=[]
 ·have hz1:¬ (0:Int) < x.ks.length:=by rw [hz]; simp
  have hz2:ga x=false:=aF fun h=>h hz
  rw [hz2] at hmore
  refine dU @a2 @hz1 ?_
  refine hK2 _ _ (i+1,vo) ?_ ⟨hi,d3,?_⟩ (by simp only; omega)
  ·exact bJ
  ·simp only
   rw [hmore,if_neg (by decide),ax]
   exact i5
 ·have hz0:x.ks.length≠0:=fun h=>hz (an.1 h)
  have hz1:(0:Int) < x.ks.length:=by omega
  have hz2:ga x=true:=aO hz
  rw [hz2] at hmore
  obtain ⟨css,o5⟩:=i5.o
  obtain ⟨wa,wcap,rfl,_⟩:=i5.form
  have hfl2:((M.take i).filter ga).length≤i:=by
   refine aT (bF _ _) ?_
   rw [ar]; omega
  refine fW @a0 @a1 @a2 @hz1 ?_
  refine jQ x [.string ⟨x.s.toArray⟩,.string ⟨x.e.toArray⟩,.slice a x.ks.length cc] rw28 o5 ⟨_,rfl,hkx⟩ rfl (.inl rfl) rfl rfl (by simp [Value.oneCell']) (by omega) i5.g.j fun v6 w6 o6 k6 n6 j6 _ => ?_
  refine al ?_
  refine hK2 _ _ (i+1,v6) ?_ ⟨hi,d3,?_⟩ (by simp only; omega)
  ·exact bJ
  ·simp only
   rw [hmore,if_pos rfl]
   exact i5.more o6 k6 n6 j6
theorem pI {lv:Value} {Lv:List (List Sp)} {snap:Nat} (hv:Sl jW 1 d lv Lv) (u:VOk Lv snap) (hinc:bu d w) (hk:∀ d' w' v',Gr d w d' w'→Sl dY 3 d' v' ((eK (rV Lv snap none none)).map cJ)→k v' w'):aY prog 34 #[lv,.int .u64 snap] k w:=by
 obtain ⟨la,lc,rfl⟩:=hv.form
 refine ah [.tmp 4] func34 ?_
 refine al ?_
 have eS:ByteArray.empty=⟨([]:Bytes).toArray⟩:=rfl
 have hVl:=u.vl
 have hVk:=u.vk
 obtain ⟨V,hV⟩:∃ V,V=rV Lv snap none none:=⟨_,rfl⟩
 rw [← hV] at hVl hVk hk
 refine pH hv (by have:=u.n6; omega) (fun x hx=>⟨by have:=(u.sz x hx).1; omega,fun y hy=>by have:=(u.sz x hx).2 y hy; omega⟩) hinc fun d5 w5 v5 g5 s5 => ?_
 refine al ?_
 refine ta (n:=600) (by decide) g5.j fun d6 w6 v6 g6 s6 => ?_
 have i6:=g5.trans g6
 refine al ?_
 rw [eS]
 refine mq (kl:=[]) (kh:=[]) (bl:=false) (bh:=false) (s5.inc jW.mono g6.i) s6 i6.j u.rin (by decide) (by decide) (I9 600).1 (by rw [(uf 600).1]; decide) fun d7 w7 v7 l7 g7 s7 hp => ?_
 have i7:=i6.trans g7
 have hp:Pw (mg V (Ek pd)) (pY V (-2) false 0 (HB 600)) l7:=by rw [hV]; exact hp
 have hl7:l7.length=601:=by rw [← hp.1,zj,(uf 600).1]
 have hb7:=CB (by omega) hp
 have hk7:=zl hb7 hVk
 refine al ?_
 refine tb s7 (by omega) (fun x hx=>by have:=hk7 x hx; omega) i7.j fun d8 w8 v8 g8 s8 => ?_
 rw [hb7,show ga=fun s:Sp=>decide (s.ks≠[]) from rfl,CA] at s8
 refine al ?_
 exact hk d8 w8 v8 (i7.trans g8) s8
end
end Go.Proofs
end
section
namespace Go.E
open Go Go.Sort Go.Proofs
section
variable {Lv:List (List Sp)} {n snap:Nat}
theorem LvOk.flat (lo:LvOk Lv n):Lv.flatten.length≤6 * n:=by
 have h1:=eU (Lv:=Lv) (n:=n) lo.sz
 have h2:Lv.length * n≤6 * n:=bH _ lo.n6
 omega
theorem LvOk.v (lo:LvOk Lv n) (hn:n≤8) (hsn:snap < 18446744073709551616) (f2:∀ x ∈ Lv,x.length≤2147483647∧∀ y ∈ x,qt y):VOk Lv snap :=
 ⟨EM lo (by omega) hsn f2 px,lo.n6,fun x hx=>⟨by have:=lo.sz x hx; omega,fun y hy=>by have:=(lo.ks x hx y hy).2; omega⟩,by have:=lo.flat; omega⟩
end
end Go.E
namespace Go.Proofs
open Go Go.E Go.Sort
section
variable {k:ao} {d w:World}
end
end Go.Proofs
end
section
namespace Go.E
open Go Go.Sort Go.Proofs
section
variable {Lv:List (List Sp)} {snap:Nat} {l F:List Sp}
theorem FrOut.lens (o:FrOut l F) (hn:l.length≤48) (hk:∀ x ∈ l,x.ks.length≤40):F.length≤96∧∀ f ∈ F,f.ks.length≤1920:=by
 have h1:=EO o.ch fun f hf=>(o.str f hf).1
 refine ⟨by omega,fun f hf => ?_⟩
 have h2:=HC o.ch hf
 have h3:=(o.pt f.s).length_eq
 have h4:=Ak (key:=f.s) hk
 have h5:l.length * 40≤48 * 40:=bH _ hn
 omega
theorem JD (hch:Ch F) (hne:∀ f ∈ F,f.ks≠[]) (hcd:∀ x,Cd (gZ F x)) (hst:∀ f ∈ F,(∃ y ∈ l,f.s=y.s∨f.s=y.e)∧∃ y ∈ l,f.e=y.s∨f.e=y.e) (hkey:∀ f ∈ F,∀ k ∈ f.ks,∃ y ∈ l,k ∈ y.ks) (h1:F.length≤96) (h2:∀ f ∈ F,f.ks.length≤1921) (hsn:snap < 18446744073709551616) (hl:∀ x ∈ l,qt x):VOk [F] snap:=by
 have hm:∀ L ∈ [F],L=F:=fun L h=>aZ.1 h
 have hw:∀ L ∈ [F],Wf L:=fun L h=>by rw [hm L h]; exact qX.2 hch
 have e:[F].flatten=F:=by simp
 refine ⟨⟨by simp,hsn,hw,fun L h => ?_,I1 hw fun x=>by rw [e]; exact hcd x,px⟩,by simp,fun L h=>by rw [hm L h]; exact ⟨by omega,fun y hy=>by have:=h2 y hy; omega⟩,by rw [e]; omega⟩
 rw [hm L h]
 refine ⟨by omega,fun s hs=>⟨?_,?_,by have:=h2 s hs; omega,hne s hs,fun x hx => ?_⟩⟩
 ·obtain ⟨y,hy,e⟩:=(hst s hs).1
  have:=hl y hy
  rcases e with e | e
  ·rw [e]; have:=this.1; omega
  ·rw [e]; have:=this.2.1; omega
 ·obtain ⟨y,hy,e⟩:=(hst s hs).2
  have:=hl y hy
  rcases e with e | e
  ·rw [e]; have:=this.1; omega
  ·rw [e]; have:=this.2.1; omega
 ·obtain ⟨y,hy,e⟩:=hkey s hs x hx
  have:=(hl y hy).2.2.2 x e
  unfold Bj
  unfold EF at this
  omega
theorem FrOut.v (o:FrOut l F) (hcd:∀ x,Cd (gZ l x)) (hn:l.length≤48) (hsn:snap < 18446744073709551616) (hf:∀ x ∈ l,qt x) (hk:∀ x ∈ l,x.ks.length≤40):VOk [F] snap:=by
 obtain ⟨h1,h2⟩:=o.lens hn hk
 exact JD o.ch (fun f hf=>(o.ne f hf).1) (fun x=>(hcd x).perm (o.pt x).symm) o.str o.key h1 (fun f hf=>by have:=h2 f hf; omega) hsn hf
theorem FrOut.seen (o:FrOut l F) (lo:LvOk Lv 8) (hp:l.Perm Lv.flatten):(eK (rV Lv snap none none)).map cJ=(eK (rV [F] snap none none)).map cJ :=
 yM lo.wf (qX.2 o.ch) fun x=>F6 (lo.cd x) ((o.pt x).trans (EN hp x)).symm
end
end Go.E
namespace Go.Proofs
open Go Go.E Go.Sort
section
variable {k:ao} {d w:World}
end
end Go.Proofs
end
section
namespace Go.E
open Go Go.Sort Go.Proofs Go.Proofs.Tryz
def yQ (l:List Nat):Prop:=l.Pairwise fun a b=>a < b
theorem CF {l:List Nat} {i x y:Nat} (h:yQ (l.take i)) (h0:0 < i) (hx:l[i - 1]? = some x) (hy:l[i]? = some y) (hxy:x < y):yQ (l.take (i+1)):=by
 rw [bp hy]
 refine List.pairwise_append.2 ⟨h,by simp,fun a ha b hb => ?_⟩
 rw [aZ] at hb
 subst hb
 obtain ⟨j,hj,rfl⟩:=aU ha
 obtain ⟨hl1,hl2⟩:=(aQ.1 hx)
 have hjl:=hj
 rw [ar] at hjl
 rcases aH j (i - 1) with h1 | h1
 ·have:=az.1 h j (i - 1) hj (by rw [ar]; omega) h1
  rw [List.getElem_take (i:=i - 1),hl2] at this
  omega
 ·obtain rfl:j=i - 1:=by omega
  rw [List.getElem_take,hl2]
  exact hxy
structure FitOk (Lv:List (List Sp)) (snaps:List Nat):Prop where
 lv:LvOk Lv 8
 n12:snaps.length≤12
 rise:yQ snaps
 s55:∀ s ∈ snaps,s < 36028797018963968
 k55:∀ f ∈ Lv.flatten,∀ k ∈ f.ks,k.tr / 256 < 36028797018963968
end Go.E
namespace Go.Proofs
open Go Go.E Go.Sort Go.Proofs.Tryz
section
variable {k:ao} {d w:World}
theorem wM {v:Value} {l:List Nat} {i x:Nat} {g f c:Nat} (hv:Sl wQ 1 w (.slice (some ⟨g,f,none⟩) l.length c) l) (hx:l[i]? = some x):w.cell? ⟨g,f+i * 1,none⟩=some (.int .u64 x)∧x < 18446744073709551616:=by
 obtain ⟨g2,f2,c2,hv2,_,hat⟩:=hv.at (by have:=(aQ.1 hx).1; omega)
 obtain ⟨⟨rfl,rfl⟩,rfl⟩:(g=g2∧f=f2)∧c=c2:=by simpa using hv2
 obtain ⟨cs,_,hcs,rfl,h⟩:=hat i x hx
 exact ⟨by simpa using hcs 0 _ rfl,h⟩
theorem zt {v:Value} {l:List Nat} (hv:Sl wQ 1 w v l) (hl:l.length≤1000) (hk:vx (yQ l) k w):aY prog 78 #[v] k w:=by
 obtain ⟨ka,kc,rfl⟩:=hv.form
 refine ah [.tmp 2] func78 ?_
 refine al ?_
 refine bQ (fun i:Nat=>[(0,.slice ka l.length kc),(3,.int .i64 i)])
  (fun i w'=>0 < i∧bf w w'∧yQ (l.take i)) (fun i _=>l.length - i) 1 (by kernel_rfl) ?_ ⟨Nat.one_pos,bf.refl _,by (cases l with | nil=>exact List.Pairwise.nil | cons a l=>exact List.pairwise_singleton _ _)⟩ ?_
 ·exact bJ
 rintro K2 e i w1 ⟨i0,i3,i4⟩ hK2
 rcases aH i l.length with hi | hi
 rotate_left
 ·have hi':¬ (i:Int) < l.length:=by omega
  refine bb @hi' ?_
  rw [dy hi] at i4
  exact hk.yes i3 i4
 have hi':(i:Int) < l.length:=by omega
 obtain ⟨g,f,c,hv',hc,_⟩:=hv.at (by omega)
 obtain ⟨rfl,rfl⟩:=sEq hv'
 obtain ⟨x,hx⟩:∃ x,l[i - 1]? = some x:=⟨_,aC (by omega)⟩
 obtain ⟨y,hy⟩:=gEl hi
 obtain ⟨h0,_⟩:=wM (v := .nilIface) hv hx
 obtain ⟨h1,_⟩:=wM (v := .nilIface) hv hy
 have h0:=i3.cell h0
 have h1:=i3.cell h1
 have e1:(i:Int) - 1=((i - 1:Nat):Int):=by omega
 have e2:(0:Int)≤((i - 1:Nat):Int):=by omega
 have e3:((i - 1:Nat):Int) < l.length:=by omega
 have e4:(0:Int)≤(i:Nat):=by omega
 have e5:(((i - 1:Nat):Int)).toNat=i - 1:=rfl
 by_cases hxy:x < y
 ·have hxy':¬ ((y:Int)≤x):=by omega
  refine bb @hi' ?_
  refine ay (sq [0,1,2,3] (.read 4 (sq [5,6,7] (.read 8 (sq [9] .done))))) ?_
  refine xE @e1 @e2 @e3 @e4 @hi' @h0 @h1 @hxy' ?_
  refine hK2 _ _ (i+1) ?_ ⟨Nat.succ_pos _,i3.drew,CF i4 i0 hx hy hxy⟩ (by omega)
  exact bJ
 ·have hxy':(y:Int)≤x:=by omega
  refine bb @hi' ?_
  refine ay (sq [0,1,2,3] (.read 4 (sq [5,6,7] (.read 8 (sq [9] .done))))) ?_
  refine xE @e1 @e2 @e3 @e4 @hi' @h0 @h1 @hxy' ?_
  exact hk.no i3.drew
theorem Fc {lv sv:Value} {Lv:List (List Sp)} {snaps:List Nat} (hv:Sl jW 1 d lv Lv) (hs:Sl wQ 1 d sv snaps) (f1:Lv.length≤2147483647) (f2:∀ x ∈ Lv,x.length≤2147483647∧∀ y ∈ x,y.ks.length≤2147483647) (hinc:bu d w) (hk:vx (FitOk Lv snaps) k w) :
    aY prog 45 #[lv,.int .i64 8,sv] k w:=by
 obtain ⟨la,lc,rfl⟩:=hv.form
 obtain ⟨sa,sc,rfl⟩:=hs.form
 refine ah [.tmp 6] func45 ?_
 by_cases h12:12 < snaps.length
 ·have h12':(12:Int) < snaps.length:=by omega
  refine bb @h12' ?_
  exact hk.no (bf.refl _)
 have h12':¬ (12:Int) < snaps.length:=by omega
 refine bb @h12' ?_
 refine zt (hs.inc cl hinc) (by omega) fun b1 w1 x1 hb1 => ?_
 cases b1 with
 | false =>
  refine al ?_
  exact hk.no x1
 | true =>
 have hr:=hb1 rfl
 refine al ?_
 refine qu (n:=8) hv f1 f2 (by decide) (hinc.trans x1.inc) fun b2 w2 x2 hb2 => ?_
 have x12:=x1.trans x2
 cases b2 with
 | false =>
  refine al ?_
  exact hk.no x12
 | true =>
 have lo:=hb2 rfl
 refine al ?_
 refine iI (fun _:Unit=>[(0,.slice la Lv.length lc)]) (fun _ w'=>bf w w'∧∀ s ∈ snaps,s < 36028797018963968) (by kernel_rfl) (fun K hK => ?_) ?_
 ·refine bQ (fun i:Nat=>[(0,.slice la Lv.length lc),(6,.bool false),(27,.slice sa snaps.length sc),(28,.int .i64 snaps.length),(29,.int .i64 i)])
    (fun i w'=>i≤snaps.length∧bf w w'∧∀ s ∈ snaps.take i,s < 36028797018963968) (fun i _=>snaps.length - i) 0 (by kernel_rfl) ?_ ⟨aP _,x12,by simp⟩ ?_
  ·exact bJ
  rintro K2 e i w3 ⟨i2,i3,i4⟩ hK2
  rcases aH i snaps.length with hi | hi
  rotate_left
  ·have hi':¬ (i:Int) < snaps.length:=by omega
   refine bb @hi' ?_
   obtain rfl:i=snaps.length:=by omega
   rw [aX] at i4
   refine hK _ _ () ?_ ⟨i3,i4⟩
   exact bJ
  have hi':(i:Int) < snaps.length:=by omega
  obtain ⟨g,f,c,hv',hc,_⟩:=hs.at (by omega)
  obtain ⟨rfl,rfl⟩:=sEq hv'
  obtain ⟨x,hx⟩:=gEl hi
  obtain ⟨h0,_⟩:=wM (v := .nilIface) (hs.inc cl (hinc.trans i3.inc)) hx
  by_cases h5:x < 36028797018963968
  ·have h5':¬ (36028797018963968:Int)≤x:=by omega
   refine eI @hi' @h0 @h5' ?_
   refine hK2 _ _ (i+1) ?_ ⟨hi,i3,eo i4 hx h5⟩ (by omega)
   exact bJ
  ·have h5':(36028797018963968:Int)≤x:=by omega
   refine eI @hi' @h0 @h5' ?_
   exact hk.no i3
 rintro e _ w3 ⟨x3,h55⟩
 have i0:=Gr.ext hinc x3
 refine al ?_
 refine qY (hv.inc jW.mono i0.i) (by have:=lo.n6; omega) (fun x hx=>by have:=lo.sz x hx; omega) i0.j fun d4 w4 v4 g4 s4 => ?_
 have i4:=i0.trans g4
 obtain ⟨A,hA⟩:∃ A,A=Lv.flatten:=⟨_,rfl⟩
 rw [← hA] at s4
 have hfl:=lo.flat
 rw [← hA] at hfl
 have hk40:∀ y ∈ A,y.ks.length≤40:=fun y hy=>by
  rw [hA] at hy
  obtain ⟨L,hL,hy⟩:=cN.1 hy
  exact (lo.ks L hL y hy).2
 obtain ⟨a4,c4,rfl⟩:=s4.form
 refine al ?_
 refine bQ (fun i:Nat=>[(37,.slice a4 A.length c4),(38,.int .i64 A.length),(39,.int .i64 i)])
  (fun i w'=>i≤A.length∧bf w4 w'∧∀ f ∈ A.take i,∀ k ∈ f.ks,k.tr / 256 < 36028797018963968) (fun i _=>A.length - i) 0 (by kernel_rfl) ?_ ⟨aP _,bf.refl _,by simp⟩ ?_
 ·exact bJ
 rintro K2 e2 i w5 ⟨i2,i3,i4'⟩ hK2
 rcases aH i A.length with hi | hi
 rotate_left
 ·have hi':¬ (i:Int) < A.length:=by omega
  refine bb @hi' ?_
  obtain rfl:i=A.length:=by omega
  rw [aX] at i4'
  exact hk.yes (i4.x.trans i3) ⟨lo,by omega,hr,h55,by rw [← hA]; exact i4'⟩
 have hi':(i:Int) < A.length:=by omega
 obtain ⟨g,f,c,hv',hc,hat⟩:=(s4.inc dY.mono (i4.j.trans i3.inc)).at (by omega)
 obtain ⟨rfl,rfl⟩:=sEq hv'
 obtain ⟨x,hx⟩:=gEl hi
 have hxm:=aJ hx
 obtain ⟨h0,h1,a,cc,h2,hxk⟩:=dG (hat i x hx)
 have hxl:=hk40 x hxm
 have x4:=aL (w:=w5) (.cells #[.string ⟨x.s.toArray⟩,.string ⟨x.e.toArray⟩,.slice a x.ks.length cc] 46)
 have hxk:=hxk.inc KE.mono x4.inc
 refine gG @hi' @h0 @h1 @h2 @aA ?_
 refine bQ (fun j:Nat=>[(37,.slice (some ⟨g,f,none⟩) A.length c4),(38,.int .i64 A.length),(39,.int .i64 i),(44,.slice a x.ks.length cc),(45,.int .i64 x.ks.length),(46,.int .i64 j)])
  (fun j w'=>j≤x.ks.length∧bf (w5.alloc (.cells #[.string ⟨x.s.toArray⟩,.string ⟨x.e.toArray⟩,.slice a x.ks.length cc] 46)) w'∧∀ k ∈ x.ks.take j,k.tr / 256 < 36028797018963968) (fun j _=>x.ks.length - j) 0 (by kernel_rfl) ?_ ⟨aP _,bf.refl _,by simp⟩ ?_
 ·exact bJ
 rintro K3 e3 j w6 ⟨j2,j3,j4⟩ hK3
 rcases aH j x.ks.length with hj | hj
 rotate_left
 ·have hj':¬ (j:Int) < x.ks.length:=by omega
  refine bb @hj' ?_
  obtain rfl:j=x.ks.length:=by omega
  rw [aX] at j4
  refine hK2 _ _ (i+1) ?_ ⟨hi,i3.trans (x4.trans j3),eo i4' hx j4⟩ (by omega)
  exact bJ
 have hj':(j:Int) < x.ks.length:=by omega
 obtain ⟨g2,f2,c2,hv2,hc2,hat2⟩:=(hxk.inc KE.mono j3.inc).at (by omega)
 obtain ⟨rfl,rfl⟩:a=some ⟨g2,f2,none⟩∧cc=c2:=by simpa using hv2
 obtain ⟨y,hy⟩:=gEl hj
 obtain ⟨p0,p1,p2,p3⟩:=fR (hat2 j y hy)
 have x5:=aL (w:=w6) (.cells #[.int .u64 y.tr,.string ⟨y.suf.toArray⟩,.string ⟨y.val.toArray⟩] 88)
 by_cases h5:y.tr / 256 < 36028797018963968
 ·have h5':¬ (36028797018963968:Int)≤(y.tr / 256:Nat):=by omega
  refine gG @hj' @p0 @p1 @p2 @aA ?_
  refine rF ?_
  refine bb @h5' ?_
  refine hK3 _ _ (j+1) ?_ ⟨hj,j3.trans x5,eo j4 hy h5⟩ (by omega)
  exact bJ
 ·have h5':(36028797018963968:Int)≤(y.tr / 256:Nat):=by omega
  refine gG @hj' @p0 @p1 @p2 @aA ?_
  refine rF ?_
  refine bb @h5' ?_
  exact hk.no (i4.x.trans (i3.trans (x4.trans (j3.trans x5))))
end
end Go.Proofs
end
section
namespace Go.E
open Go Go.Sort Go.Proofs Go.Proofs.Tryz
structure UO7 (d w:World) (U:Nat):Prop where
 c:∀ x,x < 70→∃ u,w.cell? ⟨U,x,none⟩=some u
 f:∀ x,w.frozen? ⟨U,x,none⟩=false
 o:cq d U
structure BO7 (d w:World) (Bf:Nat):Prop where
 c:∀ x,x=0∨x=1∨x=4∨x=5→w.cell? ⟨Bf,x,none⟩=some (.slice none 0 0)
 c2:w.cell? ⟨Bf,2,none⟩=some .nilFunc
 c3:w.cell? ⟨Bf,3,none⟩=some (.bool false)
 f:∀ x,w.frozen? ⟨Bf,x,none⟩=false
 o:cq d Bf
section
variable {d w d2 w2:World} {U Bf:Nat}
theorem BO7.gr (h:BO7 d w Bf) (g:Gr d w d2 w2):BO7 d2 w2 Bf:=⟨fun x hx=>g.x.cell (h.c x hx),g.x.cell h.c2,g.x.cell h.c3,fun x=>by rw [g.x.frozen _ x (aE h.c2)]; exact h.f x,g.o _ (aE h.c2) h.o⟩
theorem UO7.lt (h:UO7 d w U):U < w.heap.size:=by obtain ⟨u,hu⟩:=h.c 0 (by omega); exact aE hu
theorem UO7.gr (h:UO7 d w U) (g:Gr d w d2 w2):UO7 d2 w2 U:=⟨fun x hx=>by obtain ⟨u,hu⟩:=h.c x hx; exact ⟨u,g.x.cell hu⟩,fun x=>by rw [g.x.frozen _ x h.lt]; exact h.f x,g.o _ h.lt h.o⟩
end
theorem JE {V l:List Sp} (h:Pw (G5 fun a b=>a=b) V l):l=V:=by
 refine List.ext_getElem? fun i => ?_
 rcases aH i V.length with hi | hi
 ·have hi2:i < l.length:=by rw [← h.1]; exact hi
  obtain ⟨a,b,c⟩:=h.2 i _ _ (aC hi) (aC hi2)
  rw [aC hi,aC hi2]
  congr 1
  cases h1:V[i]
  cases h2:l[i]
  rw [h1,h2] at a b c
  simp_all
 ·rw [List.getElem?_eq_none hi,List.getElem?_eq_none (by rw [← h.1]; exact hi)]
end Go.E
namespace Go.Proofs
open Go Go.E Go.Sort Go.Proofs.Tryz
section
variable {k:ao} {d w:World}
set_option maxHeartbeats 4000000 in
theorem Al {w5 w6 w7 dc:World} {U Bf C XB SB QB LB AB nF D E:Nat} {sv fv:Value} {Lv:List (List Sp)} {snaps:List Nat} {Ls:List Lvl} {K:ao} (r:SIn Lv) (t:Gr d w dc w5) (hU:UO7 dc w5 U) (hC:pC dc C) (xd:XD dc XB SB QB LB AB sv snaps) (hB:BO7 dc w5 Bf) (hF:kC nF dc w5 fv Ls) (hne:Bf≠U) (hUn:U < nF) (hU0:w.heap.size≤U) (hB0:w.heap.size≤Bf) (hn0:w.heap.size≤nF) (hBI:∀ x ∈ Ls,x.I≠Bf) (hm:Ls.map Lvl.L=Lv)
    (k6:Keep (tP U 0 Bf) w5 w6) (m6:MI0 w6 U 0 Bf 274 (G3 XB SB QB) Ls) (x7:bf w6 w7) (hD0:w6.heap.size≤D) (hE0:w6.heap.size≤E) (hED:E≠D) (cD:∀ x,x < 12→∃ u,w7.cell? ⟨D,x,none⟩=some u) (fD:∀ x,w7.frozen? ⟨D,x,none⟩=false) (cE:∀ x,x≤2→w7.cell? ⟨E,x,none⟩=some (.slice none 0 0)) (fE:∀ x,w7.frozen? ⟨E,x,none⟩=false)
    (hK:∀ w8,(∀ K2:ao,(∀ d2 w2 v,Gr d w d2 w2→Sl dY 3 d2 v (wR snaps Lv)→K2 v w2)→aY prog 116 #[.iface 229 (.pointer (some ⟨D,0,none⟩))] K2 w8)→K (.tuple #[]) w8) :
    aY prog 99 #[.pointer (some ⟨D,0,none⟩),.pointer (some ⟨C,0,none⟩),.iface 224 (.pointer (some ⟨U,0,none⟩)),.iface 228 (.func (.func 100) #[] #[]),.func (.func 101) #[] #[],.pointer (some ⟨E,0,none⟩)] K w7:=by
 have hn:Ls.length≤10:=by have:=r.n10; rw [← hm,ak] at this; exact this
 have hU5:=hU.lt
 have hB5:=aE hB.c2
 have s6:=k6.size
 have i6:bu dc w6:=t.j.keep k6 fun b x h=>by
  rcases h with ⟨rfl,_⟩ | ⟨rfl,_⟩
  ·exact hU.o x
  ·exact hB.o x
 have i7:bu dc w7:=i6.trans x7.inc
 have oD:cq dc D:=i6.out hD0
 have oE:cq dc E:=i6.out hE0
 refine pe (a:=0) (e:=0) (fun x _ h=>cD x (by omega)) fD (i7 _ _ _ hC.2.1) rfl rfl fun w8 k8 u8=>hK w8 fun K2 hK2 => ?_
 have i8:bu dc w8:=i7.keep k8 fun b x h=>by rw [h.1]; exact oD x
 have hD7:D < w7.heap.size:=by obtain ⟨u,hu⟩:=cD 0 (by omega); exact aE hu
 have hE7:=aE (cE 0 (by omega))
 have k58:Keep (fun b x=>tP U 0 Bf b x∨b=D) w5 w8:=((k6.mono fun b x _ h=>(.inl h:tP U 0 Bf b x∨b=D)).trans (x7.keep)).trans (k8.mono fun b x _ h => .inr h.1)
 have hIlt:∀ x ∈ Ls,x.I < w5.heap.size:=fun x hx=>(hF.2.at_ x hx).2.2.2.2
 have hF8:kC nF dc w8 fv Ls:=⟨hF.1,hF.2.keep k58 (fun x hx o h=>by
  have h1:=hIlt x hx
  have h2:=(hF.2.at_ x hx).2.2.2.1
  rcases h with (⟨h,_⟩ | ⟨h,_⟩) | h
  ·omega
  ·exact hBI x hx h
  ·omega) (bu.refl _) fun b h _=>h⟩
 have m:=I3 r xd hU.o hB.o hF8 hne hUn hBI hm
 have m8:MI0 w8 U 0 Bf 274 (G3 XB SB QB) Ls:=(m6.keep hn x7 (fun _ _ _ h=>h) fun _ _ h=>h).keep hn k8 (fun x _ _ h=>by have:=h.1; omega) fun x _ h=>by have:=h.1; omega
 have fr:∀ b x,b < w5.heap.size→w5.frozen? ⟨b,x,none⟩=false→w8.frozen? ⟨b,x,none⟩=false:=fun b x hb h=>by rw [k58.frozen b x hb]; exact h
 have fr7:∀ b x,b < w7.heap.size→w7.frozen? ⟨b,x,none⟩=false→w8.frozen? ⟨b,x,none⟩=false:=fun b x hb h=>by rw [k8.frozen b x hb]; exact h
 have cB:∀ x u,x≠1→x≠2→x≠4→w5.cell? ⟨Bf,x,none⟩=some u→w8.cell? ⟨Bf,x,none⟩=some u:=fun x u h1 h2 h3 hu=>k58.some hu fun h=>by
  rcases h with (⟨h,_⟩ | ⟨_,h⟩) | h
  ·exact hne h
  ·omega
  ·omega
 have h0:=FV (DU:=D) (DB:=E) (C:=C) i8 m hm m8 u8 hF8 (fun x=>fr _ x hU5 (hU.f x)) (fun x=>fr _ x hB5 (hB.f x)) (fun x=>fr7 _ x hD7 (fD x)) (fun x=>fr7 _ x hE7 (fE x)) (fun x hx=>cB x _ (by omega) (by omega) (by omega) (hB.c x (by omega))) (cB 3 _ (by omega) (by omega) (by omega) hB.c3) (fun x hx=>k8.some (cE x hx) fun h=>hED h.1)
 have dc':=I4 (DU:=D) (DB:=E) (C:=C) r m hm oD oE (by omega) (by omega) (by omega) (by omega) hED (fun x hx=>by have:=hIlt x hx; omega) hC.1
 have W:=Kk (KS:=fun a b=>a=b) (fun a b h=>by rw [h]) dc' (fun b x h=>by
  rcases h with ⟨rfl,_⟩ | ⟨rfl,_⟩ | ⟨i,hi,rfl⟩ | h
  ·exact hU.o
  ·exact hB.o
  ·exact m.mc.oI i hi
  ·exact h.elim) (fun j i hj hi he=>by rw [List.map_id,List.map_id] at he; exact he)
 have hVl:(wR snaps Lv).length < 1000000:=by
  rw [dp]
  refine fQ ?_ dc'.f.small
  unfold cr
  exact aT (bF _ _) (by rw [List.length_range]; exact aD _)
 refine vu W h0 trivial hVl fun a w9 v l b1 b2 b3 b4 b5 b6 => ?_
 rw [JE b6] at b5
 have hx:bf w w8:=t.x.tr k58 fun b o hb h=>by
  have:=t.x.size
  rcases h with (⟨h,_⟩ | ⟨h,_⟩) | h <;> omega
 refine hK2 a w9 v ⟨hx.tr b4 fun b o hb h => ?_,t.i.trans b1,b2,fun b hb ho=>b3 b (aI hb hx.size) (t.o b hb ho)⟩ b5
 have:=t.x.size
 rcases h with h | h | ⟨y,h⟩ | h | h
 ·omega
 ·omega
 ·rcases h with ⟨h,_⟩ | ⟨h,_⟩ | ⟨i,hi,h⟩ | h
  ·omega
  ·omega
  ·have hat:Ls.toArray[i]! ∈ Ls:=by rw [aG Ls.toArray i hi]; simpa using aS (by simpa using hi)
   have:=(hF.2.at_ _ hat).2.2.2.1
   omega
  ·exact h
 ·exact h
 ·exact h
set_option maxHeartbeats 4000000 in
theorem mB {lv sv:Value} {Lv:List (List Sp)} {snaps:List Nat} (hv:Sl jW 1 d lv Lv) (hs:Sl wQ 1 d sv snaps) (hsl:snaps.length < 1000000) (hinc:bu d w) (r:SIn Lv) (hk:∀ d2 w2 v,Gr d w d2 w2→Sl dY 3 d2 v (wR snaps Lv)→k v w2) :
    aY prog 80 #[lv,sv,.bool true,.slice none 0 0] k w:=by
 obtain ⟨la,lc,rfl⟩:=hv.form
 obtain ⟨sa,sc,rfl⟩:=hs.form
 have hlen:∀ x ∈ Lv,x.length < 1000000∧∀ s ∈ x,Dq s:=fun x hx=>by
  obtain ⟨a,b⟩:=r.len x hx
  refine ⟨by omega,fun s hs => ?_⟩
  obtain ⟨b1,b2,b3,_,b5⟩:=b s hs
  exact ⟨by omega,by omega,by omega,b5⟩
 refine ah [.tmp 8] func80 ?_
 refine al ?_
 refine kg hinc fun dc wb C g0 _ hC0 hC1 hC5 => ?_
 have hC:pC dc C:=⟨hC0,hC1,hC5⟩
 refine al ?_
 generalize hO:Obj.cells _ 132=O
 obtain ⟨U,hUe⟩:∃ U,U=wb.heap.size:=⟨_,rfl⟩
 obtain ⟨wc,hw1⟩:∃ wc,wc=(wb.alloc O).drew:=⟨_,rfl⟩
 refine ay (sq [0,1,2] (.read 3 (sq [4,5,6] (.read 7 (sq [8,9,10,14] (.alt (.eff 11 [3,7] (.alt (.eff 12 [3] (.alt (.eff 13 [3,7] (.eff 15 [3] (.eff 16 [] .done))) (.eff 15 [3] (.eff 13 [3,7] (.eff 16 [] .done))))) (.eff 13 [3,7] (.eff 12 [3] (.eff 15 [3] (.eff 16 [] .done)))))) (.eff 13 [3,7] (.eff 11 [3,7] (.eff 12 [3] (.eff 15 [3] (.eff 16 [] .done))))))))))) ?_
 rw [← hw1,← hUe]
 have x1:bf wb wc:=by rw [hw1]; exact (aL _).drew
 have t:Gr d w dc wc:=g0.trans (Gr.ext g0.j x1)
 have hU0:w.heap.size≤U:=by rw [hUe]; exact g0.x.size
 have hz:U+1≤wc.heap.size:=by rw [hw1,World.size_drew,World.size_alloc]; omega
 have hU:UO7 dc wc U:=by
  refine ⟨fun x hx => ?_,fun x => ?_,g0.j.out (by omega)⟩
  ·rw [hw1,← hO,hUe]
   refine bb @aA ?_
   exact ⟨_,aC (show x < 70 from hx)⟩
  ·rw [hw1,← hO,hUe]
   exact dI (aD _) (by omega)
 have hs:=hs.inc cl t.i
 have c0:=t.j _ _ _ hC.1
 have c1:=t.j _ _ _ hC.2.1
 clear hw1 x1
 refine dU @c0 @c1 ?_
 refine ⟨?_,?_⟩
 ·
  refine sO t.j fun dc wc LB AB g hA0 hL0 => ?_
  have t:=t.trans g
  have hz:=aT hz g.x.size
  have hU:=hU.gr g
  have hC:=hC.gr g
  have hs:=hs.inc cl g.i
  have c0:=t.j _ _ _ hC.1
  have c1:=t.j _ _ _ hC.2.1
  (try have hA:=g.i _ _ _ hA)
  (try have hL:=g.i _ _ _ hL)
  (try have xd:=xd.inc g.i)
  (try have hB:=hB.gr g)
  (try have hBl:=aI hBl g.x.size)
  (try have hF:=hF.gr g)
  have hA:=hA0
  have hL:=hL0
  refine dU @c0 @c1 ?_
  refine ⟨?_,?_⟩
  ·
   refine pn t.j hs hsl hA hL fun dc wc XB SB QB g xd0 => ?_
   have t:=t.trans g
   have hz:=aT hz g.x.size
   have hU:=hU.gr g
   have hC:=hC.gr g
   have hs:=hs.inc cl g.i
   have c0:=t.j _ _ _ hC.1
   have c1:=t.j _ _ _ hC.2.1
   (try have hA:=g.i _ _ _ hA)
   (try have hL:=g.i _ _ _ hL)
   (try have xd:=xd.inc g.i)
   (try have hB:=hB.gr g)
   (try have hBl:=aI hBl g.x.size)
   (try have hF:=hF.gr g)
   have xd:=xd0
   refine dU @c0 @c1 ?_
   refine ⟨?_,?_⟩
   ·
    generalize hO2:Obj.cells _ 165=O2
    obtain ⟨Bf,hBe⟩:∃ b,b=wc.heap.size:=⟨_,rfl⟩
    (try rw [← hBe])
    have hBU:U+1≤Bf:=by omega
    have hBn:BO7 dc (wc.alloc O2) Bf:=by
     rw [hBe,← hO2]
     exact ⟨fun x hx=>by (rcases hx with rfl | rfl | rfl | rfl <;> exact aA (aD _) (by omega)),aA (aD _) (by omega),aA (aD _) (by omega),fun x=>by simp (disch:=first | exact dZ | fail) only [go_sem],t.j.out (aD _)⟩
    have g:Gr dc wc dc (wc.alloc O2):=Gr.ext t.j (aL _)
    (try have hBI:∀ x ∈ Ls,x.I≠Bf:=fun x hx=>by have:=(hF.2.at_ x hx).2.2.2.2; omega)
    have hBl:Bf < (wc.alloc O2).heap.size:=by rw [World.size_alloc]; omega
    have t:=t.trans g
    have hz:=aT hz g.x.size
    have hU:=hU.gr g
    have hC:=hC.gr g
    have hs:=hs.inc cl g.i
    have c0:=t.j _ _ _ hC.1
    have c1:=t.j _ _ _ hC.2.1
    (try have hA:=g.i _ _ _ hA)
    (try have hL:=g.i _ _ _ hL)
    (try have xd:=xd.inc g.i)
    (try have hB:=hB.gr g)
    (try have hBl:=aI hBl g.x.size)
    (try have hF:=hF.gr g)
    have hB:=hBn
    obtain ⟨wd,hwd⟩:∃ wd,wd=wc.alloc O2:=⟨_,rfl⟩
    rw [← hwd] at t hz hU hB hBl c0 c1 ⊢
    (try rw [← hwd] at hF)
    refine dU @c0 @c1 ?_
    obtain ⟨nF,hnF⟩:∃ n,n=wd.heap.size:=⟨_,rfl⟩
    have hUn:U < nF:=by omega
    refine db (hv.inc jW.mono t.i) (by have:=r.n10; omega) hlen t.j fun dc wc fv Ls g f1 f2 hm => ?_
    rw [← hnF] at f2
    (try have hBl:Bf < nF:=by omega)
    (try have hBI:∀ x ∈ Ls,x.I≠Bf:=fun x hx=>by have:=(f2.at_ x hx).2.2.2.1; omega)
    have t:=t.trans g
    have hz:=aT hz g.x.size
    have hU:=hU.gr g
    have hC:=hC.gr g
    have hs:=hs.inc cl g.i
    have c0:=t.j _ _ _ hC.1
    have c1:=t.j _ _ _ hC.2.1
    (try have hA:=g.i _ _ _ hA)
    (try have hL:=g.i _ _ _ hL)
    (try have xd:=xd.inc g.i)
    (try have hB:=hB.gr g)
    (try have hBl:=aI hBl g.x.size)
    (try have hF:=hF.gr g)
    have hF:kC nF dc wc fv Ls:=⟨f1,f2⟩
    refine dU @c0 @c1 ?_
    have hn:Ls.length≤10:=by have:=r.n10; rw [← hm,ak] at this; exact this
    refine j0 hF.1 t.j hU.o hB.o hn (by omega) (fun x _ h=>hU.c x (by omega)) hU.f (hB.c 1 (by omega)) hB.c2 (hB.c 4 (by omega)) hB.f fun w6 k6 m6 => ?_
    refine al ?_
    generalize hOD:Obj.cells _ 151=OD
    generalize hOE:Obj.cells _ 168=OE
    have z7:(w6.alloc OD).heap.size=w6.heap.size+1:=World.size_alloc _ _
    (try rw [z7])
    refine Al (w7:=(w6.alloc OD).alloc OE) (D:=w6.heap.size) (E:=w6.heap.size+1) r t hU hC xd hB hF (by omega) hUn hU0 (by omega) (by omega) hBI hm k6 m6 ((aL _).trans (aL _)) (by omega) (by omega) (by omega) (fun x hx => ?_) (fun x => ?_) (fun x hx => ?_) (fun x => ?_) fun w8 hw8 => ?_
    ·rw [← hOD]
     refine ⟨_,(aL _).cell (aA (aD _) (by omega) |>.trans (Array.getElem?_eq_getElem (show x < 12 from hx)))⟩
    ·rw [(aL _).frozen _ x (by rw [World.size_alloc]; omega),← hOD]
     exact dI (aD _) (by omega)
    ·rw [← hOE,aA (by rw [z7]; omega) (by rw [z7]; omega)]
     rcases (by omega:x=0∨x=1∨x=2) with rfl | rfl | rfl <;> rfl
    ·rw [← hOE]
     exact dI (by rw [z7]; omega) (by rw [z7]; omega)
    refine al ?_
    refine hw8 _ fun d2 w2 v g2 s2 => ?_
    refine al ?_
    exact hk d2 w2 v g2 s2
   ·
    obtain ⟨nF,hnF⟩:∃ n,n=wc.heap.size:=⟨_,rfl⟩
    have hUn:U < nF:=by omega
    refine db (hv.inc jW.mono t.i) (by have:=r.n10; omega) hlen t.j fun dc wc fv Ls g f1 f2 hm => ?_
    rw [← hnF] at f2
    (try have hBl:Bf < nF:=by omega)
    (try have hBI:∀ x ∈ Ls,x.I≠Bf:=fun x hx=>by have:=(f2.at_ x hx).2.2.2.1; omega)
    have t:=t.trans g
    have hz:=aT hz g.x.size
    have hU:=hU.gr g
    have hC:=hC.gr g
    have hs:=hs.inc cl g.i
    have c0:=t.j _ _ _ hC.1
    have c1:=t.j _ _ _ hC.2.1
    (try have hA:=g.i _ _ _ hA)
    (try have hL:=g.i _ _ _ hL)
    (try have xd:=xd.inc g.i)
    (try have hB:=hB.gr g)
    (try have hBl:=aI hBl g.x.size)
    (try have hF:=hF.gr g)
    have hF:kC nF dc wc fv Ls:=⟨f1,f2⟩
    refine dU @c0 @c1 ?_
    generalize hO2:Obj.cells _ 165=O2
    obtain ⟨Bf,hBe⟩:∃ b,b=wc.heap.size:=⟨_,rfl⟩
    (try rw [← hBe])
    have hBU:U+1≤Bf:=by omega
    have hBn:BO7 dc (wc.alloc O2) Bf:=by
     rw [hBe,← hO2]
     exact ⟨fun x hx=>by (rcases hx with rfl | rfl | rfl | rfl <;> exact aA (aD _) (by omega)),aA (aD _) (by omega),aA (aD _) (by omega),fun x=>by simp (disch:=first | exact dZ | fail) only [go_sem],t.j.out (aD _)⟩
    have g:Gr dc wc dc (wc.alloc O2):=Gr.ext t.j (aL _)
    (try have hBI:∀ x ∈ Ls,x.I≠Bf:=fun x hx=>by have:=(hF.2.at_ x hx).2.2.2.2; omega)
    have hBl:Bf < (wc.alloc O2).heap.size:=by rw [World.size_alloc]; omega
    have t:=t.trans g
    have hz:=aT hz g.x.size
    have hU:=hU.gr g
    have hC:=hC.gr g
    have hs:=hs.inc cl g.i
    have c0:=t.j _ _ _ hC.1
    have c1:=t.j _ _ _ hC.2.1
    (try have hA:=g.i _ _ _ hA)
    (try have hL:=g.i _ _ _ hL)
    (try have xd:=xd.inc g.i)
    (try have hB:=hB.gr g)
    (try have hBl:=aI hBl g.x.size)
    (try have hF:=hF.gr g)
    have hB:=hBn
    obtain ⟨wd,hwd⟩:∃ wd,wd=wc.alloc O2:=⟨_,rfl⟩
    rw [← hwd] at t hz hU hB hBl c0 c1 ⊢
    (try rw [← hwd] at hF)
    refine dU @c0 @c1 ?_
    have hn:Ls.length≤10:=by have:=r.n10; rw [← hm,ak] at this; exact this
    refine j0 hF.1 t.j hU.o hB.o hn (by omega) (fun x _ h=>hU.c x (by omega)) hU.f (hB.c 1 (by omega)) hB.c2 (hB.c 4 (by omega)) hB.f fun w6 k6 m6 => ?_
    refine al ?_
    generalize hOD:Obj.cells _ 151=OD
    generalize hOE:Obj.cells _ 168=OE
    have z7:(w6.alloc OD).heap.size=w6.heap.size+1:=World.size_alloc _ _
    (try rw [z7])
    refine Al (w7:=(w6.alloc OD).alloc OE) (D:=w6.heap.size) (E:=w6.heap.size+1) r t hU hC xd hB hF (by omega) hUn hU0 (by omega) (by omega) hBI hm k6 m6 ((aL _).trans (aL _)) (by omega) (by omega) (by omega) (fun x hx => ?_) (fun x => ?_) (fun x hx => ?_) (fun x => ?_) fun w8 hw8 => ?_
    ·rw [← hOD]
     refine ⟨_,(aL _).cell (aA (aD _) (by omega) |>.trans (Array.getElem?_eq_getElem (show x < 12 from hx)))⟩
    ·rw [(aL _).frozen _ x (by rw [World.size_alloc]; omega),← hOD]
     exact dI (aD _) (by omega)
    ·rw [← hOE,aA (by rw [z7]; omega) (by rw [z7]; omega)]
     rcases (by omega:x=0∨x=1∨x=2) with rfl | rfl | rfl <;> rfl
    ·rw [← hOE]
     exact dI (by rw [z7]; omega) (by rw [z7]; omega)
    refine al ?_
    refine hw8 _ fun d2 w2 v g2 s2 => ?_
    refine al ?_
    exact hk d2 w2 v g2 s2
  ·
   generalize hO2:Obj.cells _ 165=O2
   obtain ⟨Bf,hBe⟩:∃ b,b=wc.heap.size:=⟨_,rfl⟩
   (try rw [← hBe])
   have hBU:U+1≤Bf:=by omega
   have hBn:BO7 dc (wc.alloc O2) Bf:=by
    rw [hBe,← hO2]
    exact ⟨fun x hx=>by (rcases hx with rfl | rfl | rfl | rfl <;> exact aA (aD _) (by omega)),aA (aD _) (by omega),aA (aD _) (by omega),fun x=>by simp (disch:=first | exact dZ | fail) only [go_sem],t.j.out (aD _)⟩
   have g:Gr dc wc dc (wc.alloc O2):=Gr.ext t.j (aL _)
   (try have hBI:∀ x ∈ Ls,x.I≠Bf:=fun x hx=>by have:=(hF.2.at_ x hx).2.2.2.2; omega)
   have hBl:Bf < (wc.alloc O2).heap.size:=by rw [World.size_alloc]; omega
   have t:=t.trans g
   have hz:=aT hz g.x.size
   have hU:=hU.gr g
   have hC:=hC.gr g
   have hs:=hs.inc cl g.i
   have c0:=t.j _ _ _ hC.1
   have c1:=t.j _ _ _ hC.2.1
   (try have hA:=g.i _ _ _ hA)
   (try have hL:=g.i _ _ _ hL)
   (try have xd:=xd.inc g.i)
   (try have hB:=hB.gr g)
   (try have hBl:=aI hBl g.x.size)
   (try have hF:=hF.gr g)
   have hB:=hBn
   obtain ⟨wd,hwd⟩:∃ wd,wd=wc.alloc O2:=⟨_,rfl⟩
   rw [← hwd] at t hz hU hB hBl c0 c1 ⊢
   (try rw [← hwd] at hF)
   refine dU @c0 @c1 ?_
   refine pn t.j hs hsl hA hL fun dc wc XB SB QB g xd0 => ?_
   have t:=t.trans g
   have hz:=aT hz g.x.size
   have hU:=hU.gr g
   have hC:=hC.gr g
   have hs:=hs.inc cl g.i
   have c0:=t.j _ _ _ hC.1
   have c1:=t.j _ _ _ hC.2.1
   (try have hA:=g.i _ _ _ hA)
   (try have hL:=g.i _ _ _ hL)
   (try have xd:=xd.inc g.i)
   (try have hB:=hB.gr g)
   (try have hBl:=aI hBl g.x.size)
   (try have hF:=hF.gr g)
   have xd:=xd0
   refine dU @c0 @c1 ?_
   obtain ⟨nF,hnF⟩:∃ n,n=wc.heap.size:=⟨_,rfl⟩
   have hUn:U < nF:=by omega
   refine db (hv.inc jW.mono t.i) (by have:=r.n10; omega) hlen t.j fun dc wc fv Ls g f1 f2 hm => ?_
   rw [← hnF] at f2
   (try have hBl:Bf < nF:=by omega)
   (try have hBI:∀ x ∈ Ls,x.I≠Bf:=fun x hx=>by have:=(f2.at_ x hx).2.2.2.1; omega)
   have t:=t.trans g
   have hz:=aT hz g.x.size
   have hU:=hU.gr g
   have hC:=hC.gr g
   have hs:=hs.inc cl g.i
   have c0:=t.j _ _ _ hC.1
   have c1:=t.j _ _ _ hC.2.1
   (try have hA:=g.i _ _ _ hA)
   (try have hL:=g.i _ _ _ hL)
   (try have xd:=xd.inc g.i)
   (try have hB:=hB.gr g)
   (try have hBl:=aI hBl g.x.size)
   (try have hF:=hF.gr g)
   have hF:kC nF dc wc fv Ls:=⟨f1,f2⟩
   refine dU @c0 @c1 ?_
   have hn:Ls.length≤10:=by have:=r.n10; rw [← hm,ak] at this; exact this
   refine j0 hF.1 t.j hU.o hB.o hn (by omega) (fun x _ h=>hU.c x (by omega)) hU.f (hB.c 1 (by omega)) hB.c2 (hB.c 4 (by omega)) hB.f fun w6 k6 m6 => ?_
   refine al ?_
   generalize hOD:Obj.cells _ 151=OD
   generalize hOE:Obj.cells _ 168=OE
   have z7:(w6.alloc OD).heap.size=w6.heap.size+1:=World.size_alloc _ _
   (try rw [z7])
   refine Al (w7:=(w6.alloc OD).alloc OE) (D:=w6.heap.size) (E:=w6.heap.size+1) r t hU hC xd hB hF (by omega) hUn hU0 (by omega) (by omega) hBI hm k6 m6 ((aL _).trans (aL _)) (by omega) (by omega) (by omega) (fun x hx => ?_) (fun x => ?_) (fun x hx => ?_) (fun x => ?_) fun w8 hw8 => ?_
   ·rw [← hOD]
    refine ⟨_,(aL _).cell (aA (aD _) (by omega) |>.trans (Array.getElem?_eq_getElem (show x < 12 from hx)))⟩
   ·rw [(aL _).frozen _ x (by rw [World.size_alloc]; omega),← hOD]
    exact dI (aD _) (by omega)
   ·rw [← hOE,aA (by rw [z7]; omega) (by rw [z7]; omega)]
    rcases (by omega:x=0∨x=1∨x=2) with rfl | rfl | rfl <;> rfl
   ·rw [← hOE]
    exact dI (by rw [z7]; omega) (by rw [z7]; omega)
   refine al ?_
   refine hw8 _ fun d2 w2 v g2 s2 => ?_
   refine al ?_
   exact hk d2 w2 v g2 s2
 ·
  generalize hO2:Obj.cells _ 165=O2
  obtain ⟨Bf,hBe⟩:∃ b,b=wc.heap.size:=⟨_,rfl⟩
  (try rw [← hBe])
  have hBU:U+1≤Bf:=by omega
  have hBn:BO7 dc (wc.alloc O2) Bf:=by
   rw [hBe,← hO2]
   exact ⟨fun x hx=>by (rcases hx with rfl | rfl | rfl | rfl <;> exact aA (aD _) (by omega)),aA (aD _) (by omega),aA (aD _) (by omega),fun x=>by simp (disch:=first | exact dZ | fail) only [go_sem],t.j.out (aD _)⟩
  have g:Gr dc wc dc (wc.alloc O2):=Gr.ext t.j (aL _)
  (try have hBI:∀ x ∈ Ls,x.I≠Bf:=fun x hx=>by have:=(hF.2.at_ x hx).2.2.2.2; omega)
  have hBl:Bf < (wc.alloc O2).heap.size:=by rw [World.size_alloc]; omega
  have t:=t.trans g
  have hz:=aT hz g.x.size
  have hU:=hU.gr g
  have hC:=hC.gr g
  have hs:=hs.inc cl g.i
  have c0:=t.j _ _ _ hC.1
  have c1:=t.j _ _ _ hC.2.1
  (try have hA:=g.i _ _ _ hA)
  (try have hL:=g.i _ _ _ hL)
  (try have xd:=xd.inc g.i)
  (try have hB:=hB.gr g)
  (try have hBl:=aI hBl g.x.size)
  (try have hF:=hF.gr g)
  have hB:=hBn
  obtain ⟨wd,hwd⟩:∃ wd,wd=wc.alloc O2:=⟨_,rfl⟩
  rw [← hwd] at t hz hU hB hBl c0 c1 ⊢
  (try rw [← hwd] at hF)
  refine dU @c0 @c1 ?_
  refine sO t.j fun dc wc LB AB g hA0 hL0 => ?_
  have t:=t.trans g
  have hz:=aT hz g.x.size
  have hU:=hU.gr g
  have hC:=hC.gr g
  have hs:=hs.inc cl g.i
  have c0:=t.j _ _ _ hC.1
  have c1:=t.j _ _ _ hC.2.1
  (try have hA:=g.i _ _ _ hA)
  (try have hL:=g.i _ _ _ hL)
  (try have xd:=xd.inc g.i)
  (try have hB:=hB.gr g)
  (try have hBl:=aI hBl g.x.size)
  (try have hF:=hF.gr g)
  have hA:=hA0
  have hL:=hL0
  refine dU @c0 @c1 ?_
  refine pn t.j hs hsl hA hL fun dc wc XB SB QB g xd0 => ?_
  have t:=t.trans g
  have hz:=aT hz g.x.size
  have hU:=hU.gr g
  have hC:=hC.gr g
  have hs:=hs.inc cl g.i
  have c0:=t.j _ _ _ hC.1
  have c1:=t.j _ _ _ hC.2.1
  (try have hA:=g.i _ _ _ hA)
  (try have hL:=g.i _ _ _ hL)
  (try have xd:=xd.inc g.i)
  (try have hB:=hB.gr g)
  (try have hBl:=aI hBl g.x.size)
  (try have hF:=hF.gr g)
  have xd:=xd0
  refine dU @c0 @c1 ?_
  obtain ⟨nF,hnF⟩:∃ n,n=wc.heap.size:=⟨_,rfl⟩
  have hUn:U < nF:=by omega
  refine db (hv.inc jW.mono t.i) (by have:=r.n10; omega) hlen t.j fun dc wc fv Ls g f1 f2 hm => ?_
  rw [← hnF] at f2
  (try have hBl:Bf < nF:=by omega)
  (try have hBI:∀ x ∈ Ls,x.I≠Bf:=fun x hx=>by have:=(f2.at_ x hx).2.2.2.1; omega)
  have t:=t.trans g
  have hz:=aT hz g.x.size
  have hU:=hU.gr g
  have hC:=hC.gr g
  have hs:=hs.inc cl g.i
  have c0:=t.j _ _ _ hC.1
  have c1:=t.j _ _ _ hC.2.1
  (try have hA:=g.i _ _ _ hA)
  (try have hL:=g.i _ _ _ hL)
  (try have xd:=xd.inc g.i)
  (try have hB:=hB.gr g)
  (try have hBl:=aI hBl g.x.size)
  (try have hF:=hF.gr g)
  have hF:kC nF dc wc fv Ls:=⟨f1,f2⟩
  refine dU @c0 @c1 ?_
  have hn:Ls.length≤10:=by have:=r.n10; rw [← hm,ak] at this; exact this
  refine j0 hF.1 t.j hU.o hB.o hn (by omega) (fun x _ h=>hU.c x (by omega)) hU.f (hB.c 1 (by omega)) hB.c2 (hB.c 4 (by omega)) hB.f fun w6 k6 m6 => ?_
  refine al ?_
  generalize hOD:Obj.cells _ 151=OD
  generalize hOE:Obj.cells _ 168=OE
  have z7:(w6.alloc OD).heap.size=w6.heap.size+1:=World.size_alloc _ _
  (try rw [z7])
  refine Al (w7:=(w6.alloc OD).alloc OE) (D:=w6.heap.size) (E:=w6.heap.size+1) r t hU hC xd hB hF (by omega) hUn hU0 (by omega) (by omega) hBI hm k6 m6 ((aL _).trans (aL _)) (by omega) (by omega) (by omega) (fun x hx => ?_) (fun x => ?_) (fun x hx => ?_) (fun x => ?_) fun w8 hw8 => ?_
  ·rw [← hOD]
   refine ⟨_,(aL _).cell (aA (aD _) (by omega) |>.trans (Array.getElem?_eq_getElem (show x < 12 from hx)))⟩
  ·rw [(aL _).frozen _ x (by rw [World.size_alloc]; omega),← hOD]
   exact dI (aD _) (by omega)
  ·rw [← hOE,aA (by rw [z7]; omega) (by rw [z7]; omega)]
   rcases (by omega:x=0∨x=1∨x=2) with rfl | rfl | rfl <;> rfl
  ·rw [← hOE]
   exact dI (by rw [z7]; omega) (by rw [z7]; omega)
  refine al ?_
  refine hw8 _ fun d2 w2 v g2 s2 => ?_
  refine al ?_
  exact hk d2 w2 v g2 s2
end
end Go.Proofs
end
section
namespace Go.E
open Go Go.Sort Go.Proofs
theorem CG {sz:Nat} {css:List (List Value)} (h:∀ cs ∈ css,cs.length=sz) {i j:Nat} {cs:List Value} {u:Value} (hi:css[i]? = some cs) (hj:j < sz):css.flatten.set (i * sz+j) u=(css.set i (cs.set j u)).flatten:=by
 induction css generalizing i with
 | nil=>simp at hi
 | cons c css ih =>
  have h1:=h c aR
  cases i with
  | zero =>
   simp only [List.getElem?_cons_zero,aK] at hi
   subst hi
   rw [Nat.zero_mul,Nat.zero_add,List.flatten_cons,List.set_append_left _ _ (by omega),List.set_cons_zero,List.flatten_cons]
  | succ i =>
   rw [List.getElem?_cons_succ] at hi
   rw [List.flatten_cons,List.set_append_right _ _ (by rw [h1,Nat.add_mul]; omega),h1,show (i+1) * sz+j - sz=i * sz+j by rw [Nat.add_mul]; omega,List.set_cons_succ,List.flatten_cons,ih (fun cs hcs=>h cs (aj _ hcs)) hi]
section
variable {α:Type} {R:gJ α} {sz:Nat} {el:TypeId} {d w d1 w1:World} {l:List α} {g n c:Nat}
theorem LoopL.set1 (h:LoopL R sz el d w d1 w1 (.slice (some ⟨g,0,none⟩) n c) l) (hn:l.length=n) {i j:Nat} {y y2:α} {u:Value} (hi:l[i]? = some y) (hj:j < sz) (hR:∀ cs,R d1 cs y→R d1 (cs.set j u) y2) :
    LoopL R sz el d w d1 (w1.setCell ⟨g,i * sz+j,none⟩ u) (.slice (some ⟨g,0,none⟩) n c) (l.set i y2):=by
 obtain ⟨css,o⟩:=h.o
 subst hn
 have hg:=h.n g rfl
 have ho:=o.out g rfl
 have hlt:=(aQ.1 hi).1
 obtain ⟨cs,hcs⟩:∃ cs,css[i]? = some cs:=⟨_,aC (by rw [o.len]; exact hlt)⟩
 refine ⟨⟨bm h.g.x hg,h.g.i,fun b o2 u2 hu => ?_,h.g.o⟩,⟨css.set i (cs.set j u),?_,?_,?_,?_,o.out⟩,h.n⟩
 ·refine (Keep.set (b:=g) (o:=i * sz+j) (v:=u) (Keep.refl (M:=fun b _=>b=g) w1) fun _=>rfl).some (h.g.j _ _ _ hu) fun hb => ?_
  subst hb
  rw [ho o2] at hu
  simp at hu
 ·rw [cP,cP,o.len]
 ·have:=bn o.own (i * sz+j) u
  rw [CG o.sz hcs hj] at this
  rw [cP]
  exact this
 ·intro x hx
  rcases List.mem_or_eq_of_mem_set hx with hx | rfl
  ·exact o.sz x hx
  ·rw [cP]; exact o.sz cs (aJ hcs)
 ·intro q x cs2 hx hc
  by_cases hq:q=i
  ·subst hq
   rw [List.getElem?_set_self hlt] at hx
   rw [List.getElem?_set_self (by rw [o.len]; exact hlt)] at hc
   simp only [aK] at hx hc
   subst hx hc
   exact hR cs (o.R q y cs hi hcs)
  ·rw [List.getElem?_set_ne (Ne.symm hq)] at hx hc
   exact o.R q x cs2 hx hc
theorem LoopL.at (h:LoopL R sz el d w d1 w1 (.slice (some ⟨g,0,none⟩) n c) l) (hn:l.length=n) {i:Nat} {x:α} (hi:l[i]? = some x):∃ cs,R d1 cs x∧∀ j u,cs[j]? = some u→w1.cell? ⟨g,i * sz+j,none⟩=some u:=by
 obtain ⟨css,o⟩:=h.o
 subst hn
 have hlt:=(aQ.1 hi).1
 obtain ⟨cs,hcs⟩:∃ cs,css[i]? = some cs:=⟨_,aC (by rw [o.len]; exact hlt)⟩
 exact ⟨cs,o.R i x cs hi hcs,fun j u hu=>o.cell hcs hu⟩
theorem LoopL.frozen (h:LoopL R sz el d w d1 w1 (.slice (some ⟨g,0,none⟩) n c) l) (o:Nat):w1.frozen? ⟨g,o,none⟩=false:=by
 obtain ⟨css,oo⟩:=h.o
 exact cT oo.own rfl o
theorem LoopL.block {v:Value} (h:LoopL R sz el d w d1 w1 v l) {i:Nat} (hi:i < l.length):∃ g c,v = .slice (some ⟨g,0,none⟩) l.length c:=by
 obtain ⟨css,o⟩:=h.o
 rcases cX o.own with ⟨rfl,h0,_⟩ | ⟨g,cap,rfl,_,hg⟩
 ·omega
 ·exact ⟨g,cap,rfl⟩
end
end Go.E
namespace Go.Proofs
open Go Go.E Go.Sort
section
variable {k:ao} {d w:World}
end
end Go.Proofs
end
