/- Parts of the proof: Fh, Vo, Xj, Xk, Xt, Fk, Xz, Yd, Yc, Ye. -/
import Derived.Test.YtjcbeinpkafjiaaGreatV22
import Derived.Test.YtjcbeinpkafjiaaGreatV24
import Derived.Test.YtjcbeinpkafjiaaGreatV25
import Derived.Test.YtjcbeinpkafjiaaGreatV26
set_option linter.all false
set_option maxRecDepth 10000
section
namespace Go.E
open Go Go.Sort Go.Proofs
section
variable {c:Nat→Nat} {d w w2:World} {F O A:Nat} {vo vf vp vd vk:Value} {out:List Sp} {lf:List KR} {P:List SR} {q:Bytes}
theorem FrS.ext (s:FrS c d w F O A vo out vf lf vp P vd vk q) (x:bf w w2):FrS c d w2 F O A vo out vf lf vp P vd vk q:=by
 obtain ⟨n,xs,ho⟩:=s.kown
 refine ⟨s.core.keep3 x fun _ _ h=>h.elim,x.cell s.f3,aS s.pown x fun _ _ _ h=>h,s.pgood,s.pc,x.cell s.f4,aS s.down x fun _ _ _ h=>h,s.dc,x.cell s.f8,⟨n,xs,aS ho x fun _ _ _ h=>h⟩,s.kc,?_,x.cell s.f9⟩
 rcases s.kb with h | h
 ·exact .inl h
 ·exact .inr (h.inc x.inc)
theorem FrS.color (s:FrS c d w F O A vo out vf lf vp P vd vk q) {c2:Nat→Nat} (hc:∀ b,b < w.heap.size→c2 b=c b):FrS c2 d w F O A vo out vf lf vp P vd vk q:=by
 obtain ⟨n,xs,ho⟩:=s.kown
 exact ⟨s.core.color hc,s.f3,s.pown,s.pgood,fun b hb=>⟨by rw [hc b (s.pown.lt _ hb).2]; exact (s.pc b hb).1,(s.pc b hb).2⟩,s.f4,s.down,fun b hb=>⟨by rw [hc b (s.down.lt _ hb).2]; exact (s.dc b hb).1,(s.dc b hb).2⟩,s.f8,⟨n,xs,ho⟩,fun b hb=>⟨by rw [hc b (ho.lt _ hb).2]; exact (s.kc b hb).1,(s.kc b hb).2⟩,s.kb,s.f9⟩
theorem FrS.push (s:FrS c d w F O A vo out vf lf vp P vd vk q) (hinc:cN d w) {v2:Value} {r:SR} (o2:w2.ownsRow 0 114 4 v2 (P++[r]).length (jW (P++[r]))) (k2:Keep (fun b _=>vp.ownBlock=some b) w w2) (n2:cP w vp v2) (hr:r.good d) :
    ∃ c2,FrS c2 d (w2.setCell ⟨F,3,none⟩ v2) F O A vo out vf lf v2 (P++[r]) vd vk q∧(∀ b,b < w.heap.size→c2 b=c b)∧Gk (sM c) d w d (w2.setCell ⟨F,3,none⟩ v2):=by
 obtain ⟨n,xs,ho⟩:=s.kown
 obtain ⟨c2,hc2⟩:∃ c2:Nat→Nat,c2=fun b=>if b < w.heap.size then c b else 6:=⟨_,rfl⟩
 have hc:∀ b,b < w.heap.size→c2 b=c b:=fun b hb=>by rw [hc2]; exact if_pos hb
 have lp:∀ b,vp.ownBlock=some b→b < w.heap.size:=fun b hb=>(s.pown.lt _ hb).2
 have hF:=s.core.cF
 have lF:=aD s.core.f0
 have ks:Keep (fun b o=>b=F∧o=3) w2 (w2.setCell ⟨F,3,none⟩ v2):=bW ⟨rfl,rfl⟩
 have kk:Keep (fun b o=>vp.ownBlock=some b∨b=F∧o=3) w (w2.setCell ⟨F,3,none⟩ v2):=(k2.mono fun _ _ _ h => .inl h).tr ks fun _ _ _ h => .inr h
 have nn:∀ {b o},c b≠6→(b=F→o≠3)→¬ (vp.ownBlock=some b∨b=F∧o=3):=fun {b o} h6 h3 hm=>by
  rcases hm with h | ⟨h,h'⟩
  ·exact h6 (s.pc b h).1
  ·exact h3 h h'
 have nF:vp.ownBlock≠some F:=fun h=>by have:=(s.pc F h).1; omega
 have n57:∀ {b o},c b=5∨c b=7→¬ (vp.ownBlock=some b∨b=F∧o=3):=fun {b o} h=>nn (by omega) fun e=>by rw [e] at h; omega
 have nv2:∀ b,v2.ownBlock=some b→c2 b=6∧dF d b:=fun b hb=>by
  rcases n2 b hb with h1 | h1
  ·exact ⟨by rw [hc b (lp b h1)]; exact (s.pc b h1).1,(s.pc b h1).2⟩
  ·exact ⟨by rw [hc2]; exact if_neg (by omega),hinc.out h1⟩
 have inc':cN d (w2.setCell ⟨F,3,none⟩ v2):=hinc.keep kk fun b o hm=>by
  rcases hm with h | ⟨h,_⟩
  ·exact (s.pc b h).2 o
  ·rw [h]; exact s.core.oF o
 have kb':vk = .slice none 0 0∨eH (w2.setCell ⟨F,3,none⟩ v2) vk q:=by
  rcases s.kb with h | h
  ·exact .inl h
  ·refine .inr ?_
   rcases cT ho with ⟨e,_,_⟩ | ⟨g,cap,e,hn,_⟩
   ·rw [e] at h ⊢; exact h
   ·rw [e] at h ⊢
    obtain ⟨h1,h2,h3⟩:=h
    refine ⟨h1,h2,fun i u hu => ?_⟩
    refine kk.some (h3 i u hu) (n57 (.inr (s.kc g (by rw [e]; rfl)).1))
 refine ⟨c2,⟨(s.core.color hc).keep3 kk fun b o hm => ?_,by rw [bu,k2.some s.f3 nF]; rfl,aS o2 ks fun b hb o hm => ?_,fun z hz => ?_,nv2,kk.some s.f4 (nn (by omega) fun _=>by decide),aS s.down kk fun b hb o=>n57 (.inl (s.dc b hb).1),fun b hb=>⟨by rw [hc b (s.down.lt _ hb).2]; exact (s.dc b hb).1,(s.dc b hb).2⟩,kk.some s.f8 (nn (by omega) fun _=>by decide),⟨n,xs,aS ho kk fun b hb o=>n57 (.inr (s.kc b hb).1)⟩,fun b hb=>⟨by rw [hc b (ho.lt _ hb).2]; exact (s.kc b hb).1,(s.kc b hb).2⟩,kb',kk.some s.f9 (nn (by omega) fun _=>by decide)⟩,hc,kk.mono fun b o hb hm => ?_,cN.refl d,inc',fun _ _ h=>h⟩
 ·rcases hm with h | ⟨h,h'⟩
  ·exact .inr (by rw [hc b (lp b h),(s.pc b h).1]; omega)
  ·exact .inl ⟨by rw [h,hc F lF]; exact hF,.inl h'⟩
 ·have h1:=(nv2 b hb).1
  rw [hm.1,hc F lF] at h1
  omega
 ·rcases aV.1 hz with hz | hz
  ·exact s.pgood z hz
  ·rw [aQ.1 hz]; exact hr
 ·unfold sM
  rcases hm with h | ⟨h,_⟩
  ·have:=(s.pc b h).1; omega
  ·rw [h]; omega
end
end Go.E
namespace Go.Proofs
open Go Go.E Go.Sort
section
variable {k:au} {d w:World}
theorem Ei {c:Nat→Nat} {F O A:Nat} {vo vf vp vd vk sv ev kv:Value} {out:List Sp} {lf:List KR} {P:List SR} {q:Bytes} {x:Sp} (s:FrS c d w F O A vo out vf lf vp P vd vk q) (hinc:cN d w)
    (b1:eH d sv x.s) (b2:eH d ev x.e) (b3:mY sv=true) (b4:mY ev=true) (b5:Sl KB 3 d kv x.ks) (hlt:x.s < x.e) (hxl:x.s.length < 10000000000) (hP:(P=[]∧vk = .slice none 0 0)∨(P≠[]∧(∀ r ∈ P,r.x.s=q)∧¬ x.s < q))
    (hPn:P.length≤500) (hkn:∀ r ∈ P,r.x.ks≠[]) (hkt:(bn (P.map SR.x)).length < 1000000) (hol:out.length < 80000)
    (hk:∀ d2 w2 c2 vo2 vf2 lf2 vp2 P2 vd2 vk2 o2,FrS c2 d2 w2 F O A vo2 (out++o2) vf2 lf2 vp2 (P2++[⟨x,sv,ev,kv⟩]) vd2 vk2 x.s→((P=[]∨q=x.s)∧P2=P∧o2=[]∨P≠[]∧q < x.s∧P2.map SR.x=ir x.s (P.map SR.x)∧∃ L,L.Perm (jD x.s (P.map SR.x))∧pT L∧FlR L o2)→Gk (sM c) d w d2 w2→(∀ b,b < w.heap.size→c2 b=c b)→k (.tuple #[]) w2) :
    aY Tryz.prog 83 #[.pointer (some ⟨F,0,none⟩),.agg #[sv,ev,kv,.int .i8 0]] k w:=by
 obtain ⟨sa,sc,rfl⟩:=ak b1
 obtain ⟨ea,ec,rfl⟩:=ak b2
 obtain ⟨na,nc,rfl⟩:=b5.form
 obtain ⟨nk,xk,hok⟩:=s.kown
 obtain ⟨fa,fc,rfl,_⟩:=ar hok
 obtain ⟨pa,pcap,rfl,_⟩:=ar s.pown
 refine ag [] Tryz.func83 ?_
 obtain ⟨B1,hB1⟩:∃ b,b=w.heap.size:=⟨_,rfl⟩
 obtain ⟨W,hW⟩:∃ W,W=(w.alloc (.cells #[.pointer (some ⟨F,0,none⟩)] 190)).alloc (.cells #[.slice sa x.s.length sc,.slice ea x.e.length ec,.slice na x.ks.length nc,.int .i8 0] 114):=⟨_,rfl⟩
 have xW:bf w W:=by rw [hW]; exact (aM _).trans (aM _)
 have t0:W.cell? ⟨B1,0,none⟩=some (.pointer (some ⟨F,0,none⟩)):=by rw [hW,hB1]; exact bm @aA
 have a0:W.cell? ⟨B1+1,0,none⟩=some (.slice sa x.s.length sc):=by rw [hW,hB1]; exact bm @aA
 have a1:W.cell? ⟨B1+1,1,none⟩=some (.slice ea x.e.length ec):=by rw [hW,hB1]; exact bm @aA
 have a2:W.cell? ⟨B1+1,2,none⟩=some (.slice na x.ks.length nc):=by rw [hW,hB1]; exact bm @aA
 have a3:W.cell? ⟨B1+1,3,none⟩=some (.int .i8 0):=by rw [hW,hB1]; exact bm @aA
 refine an ?_
 rw [← hW,← hB1]
 have sW:=s.ext xW
 have f9:=sW.f9
 have f8:=sW.f8
 have f3:=sW.f3
 have f0:=sW.core.f0
 have e8:((0:Int) != 0)=false:=rfl
 refine gl @t0 @f9 @a3 @e8 @f8 ?_
 refine o0 (fun _:Unit=>[(2,.pointer (some ⟨B1,0,none⟩)),(3,.pointer (some ⟨B1+1,0,none⟩))]) (fun _ w'=>bf W w') (by kernel_rfl) (by kernel_rfl) (fun K hK => ?_) ?_
 ·cases fa with
  | none =>
   simp (disch:=first | exact dZ | fail) only [go_sem,Option.isSome_none]
   refine hK _ _ () ?_ (bf.refl W)
   exact bK
  | some af =>
   have hkb:eH W (.slice (some af) nk fc) q:=by
    rcases sW.kb with h | h
    ·simp at h
    ·exact h
   have hqs:¬ x.s < q:=by
    rcases hP with ⟨_,h⟩ | ⟨_,_,h⟩
    ·simp at h
    ·exact h
   simp (disch:=first | exact dZ | fail) only [go_sem,Option.isSome_some]
   refine ax (.read 0 (sq [1,2] (.read 3 (sq [4] (.read 5 (.read 6 (sq [7,8] (.read 9 (.eff 10 [] (sq [11] .done)))))))))) ?_
   obtain ⟨W2,hW2⟩:∃ W2,W2=W.drew:=⟨_,rfl⟩
   have x2:bf W W2:=by rw [hW2]; exact bf.drew' (bf.refl _)
   rw [← hW2]
   have t0':=x2.cell t0
   have f0':=x2.cell f0
   have f8':=x2.cell f8
   have a0':=x2.cell a0
   refine fE @t0' @f0' @f8' @a0' ?_
   refine cQ (b1.inc (hinc.trans (xW.trans x2).inc)) (hkb.inc x2.inc) ?_
   have hn:¬ ct x.s q < 0:=fun h=>hqs (dX.1 h)
   refine dY @hn @decide_false ?_
   refine hK _ _ () ?_ x2
   exact bK
 rintro e _ w2 x2
 have t0:=x2.cell t0
 have a0:=x2.cell a0
 have a1:=x2.cell a1
 have a2:=x2.cell a2
 have a3:=x2.cell a3
 have x02:=xW.trans x2
 have s2:=s.ext x02
 have hinc2:=hinc.trans x02.inc
 clear e8 f0 f3 f8 f9 sW
 refine an ?_
 refine ax (.read 0 (sq [1,2] (.read 3 (sq [4] (.read 5 (sq [6] (.read 7 (.eff 8 [] (sq [9] .done))))))))) ?_
 obtain ⟨w3,hw3⟩:∃ w3,w3=w2.drew:=⟨_,rfl⟩
 have x3:bf w2 w3:=by rw [hw3]; exact bf.drew' (bf.refl _)
 rw [← hw3]
 have t0:=x3.cell t0
 have a0:=x3.cell a0
 have a1:=x3.cell a1
 have a2:=x3.cell a2
 have a3:=x3.cell a3
 have x03:=x02.trans x3
 have s3:=s.ext x03
 have hinc3:=hinc.trans x03.inc
 have f0:=s3.core.f0
 have f3:=s3.f3
 refine fE @t0 @f0 @a0 @a1 ?_
 refine cQ (b1.inc hinc3) (b2.inc hinc3) ?_
 have hn:¬ 0≤ct x.s x.e:=fun h=>fw hlt ((dz.1 h:x.e≤x.s) |> fun h=>absurd hlt h)
 refine fE @hn @decide_false @t0 @f3 ?_
 have hB1':∀ {v:Value} {n:Nat} {xs:List Value},w.ownsRow 0 114 4 v n xs→v.ownBlock≠some B1:=fun h hb=>by have:=(h.lt _ hb).2; omega
 rcases hP with ⟨rfl,hvk⟩ | ⟨hPne,hPq,hqs⟩
 ·have hz:¬ (0:Int) < (([]:List SR).length:Int):=by simp
  have s3':FrS c d w3 F O A vo out vf lf (.slice pa ([]:List SR).length pcap) [] vd (.slice fa nk fc) x.s:=⟨s3.core,s3.f3,s3.pown,s3.pgood,s3.pc,s3.f4,s3.down,s3.dc,s3.f8,s3.kown,s3.kc,.inl hvk,s3.f9⟩
  refine bZ @hz ?_
  refine ax (.read 0 (.read 1 (sq [2,3] (.read 4 (.read 5 (.eff 6 [0,1,4] (.eff 7 [0] (sq [8,9] (.eff 10 [] .done))))))))) ?_
  obtain ⟨w8,hw8⟩:∃ w8,w8=(w3).drew:=⟨_,rfl⟩
  have x8:bf (w3) w8:=by rw [hw8]; exact bf.drew' (bf.refl _)
  rw [← hw8]
  have s8:=(s3').ext x8
  have t0':=x8.cell t0
  have a0':=x8.cell a0
  have a1':=x8.cell a1
  have a2':=x8.cell a2
  have a3':=x8.cell a3
  have f3:=s8.f3
  have p3:∀ c t,(w8.alloc (.cells c t)).cell? ⟨F,3,none⟩=some _:=fun c t=>(aM _).cell f3
  have pt:∀ c t,(w8.alloc (.cells c t)).cell? ⟨B1,0,none⟩=some _:=fun c t=>(aM _).cell t0'
  refine xT @t0' @a0' @a1' @a2' @a3' @f3 @p3 @pt ?_
  refine xO (x:=⟨x,.slice sa x.s.length sc,.slice ea x.e.length ec,.slice na x.ks.length nc⟩) s8.pown ⟨b1,b2,b3,b4,b5⟩ (by omega) fun v9 w9 o9 k9 n9 => ?_
  have nF9:(Value.slice pa (([]:List SR)).length pcap).ownBlock≠some F:=fun h=>by have:=(s8.pc F h).1; have:=s8.core.cF; omega
  have nB9:(Value.slice pa (([]:List SR)).length pcap).ownBlock≠some B1:=fun h=>hB1' s.pown h
  have f3_9:=k9.some f3 nF9
  have t0_9:=k9.some t0' nB9
  have fz9:∀ y,w9.frozen? ⟨F,y,none⟩=false:=fun y=>by rw [k9.frozen F y (aD s8.core.f0)]; exact s8.core.fz y
  obtain ⟨ra,rc,rfl,_⟩:=ar o9
  refine eA @f3_9 @t0_9 @fz9 ?_
  have hinc8:=hinc3.trans x8.inc
  obtain ⟨c2,S2,hc2,G2⟩:=s8.push hinc8 o9 k9 n9 ⟨b1,b2,b3,b4,b5⟩
  have x08:=x03.trans x8
  refine hk d _ c2 vo vf lf _ [] vd _ [] (by rw [az]; exact S2) (.inl ⟨.inl rfl,rfl,rfl⟩) (Gk.trans (M1:=sM c) (d1:=d) ⟨x08.keep,cN.refl d,hinc8,fun _ _ h=>h⟩ G2 (fun _ _ _ h=>h) fun _ _ _ h=>h) fun b hb=>hc2 b (aI hb x08.size)
 ·have hP0:P.length≠0:=fun h=>hPne (aZ.1 h)
  have hz:(0:Int) < P.length:=by omega
  obtain ⟨p0,hp0⟩:∃ p0,P[0]? = some p0:=⟨_,aC (by omega)⟩
  have hp0m:=aK hp0
  have hp0q:=hPq p0 hp0m
  have gp0:=s.pgood p0 hp0m
  obtain ⟨g,rfl⟩:∃ g,pa=some ⟨g,0,none⟩:=by
   rcases cT s3.pown with ⟨_,h0,_⟩ | ⟨g,cap,e,_,_⟩
   ·exact absurd h0 hP0
   ·simp only [aW] at e
    exact ⟨g,e.1⟩
  obtain ⟨y0,_⟩:=pS hp0
  have y0:=bN s3.pown y0
  rw [Nat.zero_mul] at y0
  obtain ⟨pb,pn,ep⟩:=ak gp0.1
  have gp1:=gp0.1
  rw [ep] at y0 gp1
  rw [hp0q] at y0 gp1
  refine bZ @hz ?_
  refine ax (.read 0 (sq [1,2] (.read 3 (.read 4 (sq [5,6] (.read 7 (sq [8,9] (.read 10 (sq [11] (.read 12 (.eff 13 [] (sq [14] .done)))))))))))) ?_
  obtain ⟨w4,hw4⟩:∃ w4,w4=w3.drew:=⟨_,rfl⟩
  have x4:bf w3 w4:=by rw [hw4]; exact bf.drew' (bf.refl _)
  rw [← hw4]
  have t0:=x4.cell t0
  have a0:=x4.cell a0
  have a1:=x4.cell a1
  have a2:=x4.cell a2
  have a3:=x4.cell a3
  have y0:=x4.cell y0
  have x04:=x03.trans x4
  have s4:=s.ext x04
  have hinc4:=hinc.trans x04.inc
  have f0:=s4.core.f0
  have f3:=s4.f3
  refine zI @t0 @f0 @f3 @a0 @y0 @hz @Int.toNat_zero @Nat.zero_mul @Nat.add_zero ?_
  refine cQ (gp1.inc hinc4) (b1.inc hinc4) ?_
  have hn:¬ 0 < ct q x.s:=fun h=>hqs (gC.1 h)
  by_cases hqx:q=x.s
  ·have he:(ct q x.s == 0)=true:=by rw [beq_iff_eq,dE]; exact hqx
   refine eA @hn @decide_false @he ?_
   refine ax (.read 0 (.read 1 (sq [2,3] (.read 4 (.read 5 (.eff 6 [0,1,4] (.eff 7 [0] (sq [8,9] (.eff 10 [] .done))))))))) ?_
   obtain ⟨w8,hw8⟩:∃ w8,w8=(w4).drew:=⟨_,rfl⟩
   have x8:bf (w4) w8:=by rw [hw8]; exact bf.drew' (bf.refl _)
   rw [← hw8]
   have s8:=(s4).ext x8
   have t0':=x8.cell t0
   have a0':=x8.cell a0
   have a1':=x8.cell a1
   have a2':=x8.cell a2
   have a3':=x8.cell a3
   have f3:=s8.f3
   have p3:∀ c t,(w8.alloc (.cells c t)).cell? ⟨F,3,none⟩=some _:=fun c t=>(aM _).cell f3
   have pt:∀ c t,(w8.alloc (.cells c t)).cell? ⟨B1,0,none⟩=some _:=fun c t=>(aM _).cell t0'
   refine xT @t0' @a0' @a1' @a2' @a3' @f3 @p3 @pt ?_
   refine xO (x:=⟨x,.slice sa x.s.length sc,.slice ea x.e.length ec,.slice na x.ks.length nc⟩) s8.pown ⟨b1,b2,b3,b4,b5⟩ (by omega) fun v9 w9 o9 k9 n9 => ?_
   have nF9:(Value.slice (some ⟨g,0,none⟩) (P).length pcap).ownBlock≠some F:=fun h=>by have:=(s8.pc F h).1; have:=s8.core.cF; omega
   have nB9:(Value.slice (some ⟨g,0,none⟩) (P).length pcap).ownBlock≠some B1:=fun h=>hB1' s.pown h
   have f3_9:=k9.some f3 nF9
   have t0_9:=k9.some t0' nB9
   have fz9:∀ y,w9.frozen? ⟨F,y,none⟩=false:=fun y=>by rw [k9.frozen F y (aD s8.core.f0)]; exact s8.core.fz y
   obtain ⟨ra,rc,rfl,_⟩:=ar o9
   refine eA @f3_9 @t0_9 @fz9 ?_
   have hinc8:=hinc4.trans x8.inc
   have x08:=x04.trans x8
   subst hqx
   obtain ⟨c2,S2,hc2,G2⟩:=s8.push hinc8 o9 k9 n9 ⟨b1,b2,b3,b4,b5⟩
   refine hk d _ c2 vo vf lf _ P vd _ [] (by rw [az]; exact S2) (.inl ⟨.inr rfl,rfl,rfl⟩) (Gk.trans (M1:=sM c) (d1:=d) ⟨x08.keep,cN.refl d,hinc8,fun _ _ h=>h⟩ G2 (fun _ _ _ h=>h) fun _ _ _ h=>h) fun b hb=>hc2 b (aI hb x08.size)
  ·have he:(ct q x.s == 0)=false:=by rw [beq_eq_false_iff_ne,ne_eq,dE]; exact hqx
   have hlq:q < x.s:=by
    rcases gX q x.s with h | h | h
    ·exact h
    ·exact absurd h hqx
    ·exact absurd h hqs
   refine gl @hn @decide_false @he @t0 @a0 ?_
   obtain ⟨c4,hc4⟩:∃ c4:Nat→Nat,c4=fun b=>if b < w.heap.size then c b else 9:=⟨_,rfl⟩
   have hc4':∀ b,b < w.heap.size→c4 b=c b:=fun b hb=>by rw [hc4]; exact if_pos hb
   refine BW ((s.color hc4').ext x04) hinc4 b1 b3 hxl hPn hkn hkt hol (fun r hr=>by rw [hPq r hr]; exact hlq) fun d5 w5 c5 vo5 vf5 lf5 vp5 P5 vd5 vk5 L o5 S5 h5 hp5 hs5 hf5 G5 hc5 => ?_
   have nB:∀ {b o},w.heap.size≤b→¬ sM c4 b o:=fun {b o} hb hm=>by
    unfold sM at hm
    rw [hc4] at hm
    simp only at hm
    rw [if_neg (by omega)] at hm
    omega
   have t0:=G5.k.some t0 (nB (by omega))
   have a0:=G5.k.some a0 (nB (by omega))
   have a1:=G5.k.some a1 (nB (by omega))
   have a2:=G5.k.some a2 (nB (by omega))
   have a3:=G5.k.some a3 (nB (by omega))
   have hz4:=x04.size
   have lB:B1 < w4.heap.size:=by
    have q1:W.heap.size=w.heap.size+2:=by rw [hW]; simp only [World.size_alloc]
    have q2:=x2.size
    have q3:=x3.size
    have q4:=x4.size
    omega
   have hcB:c5 B1=9:=by rw [hc5 B1 lB,hc4]; exact if_neg (by omega)
   obtain ⟨qa,qcap,rfl,_⟩:=ar S5.pown
   have hP5:P5.length≤500:=by
    have h1:=congrArg List.length h5
    rw [aU] at h1
    rw [h1]
    refine ai (Db _ _) ?_
    rw [aU]; exact hPn
   have b1:=b1.inc G5.i
   have b2:=b2.inc G5.i
   have b5:=b5.inc KB.mono G5.i
   refine an ?_
   refine ax (.read 0 (.read 1 (sq [2,3] (.read 4 (.read 5 (.eff 6 [0,1,4] (.eff 7 [0] (sq [8,9] (.eff 10 [] .done))))))))) ?_
   obtain ⟨w8,hw8⟩:∃ w8,w8=(w5).drew:=⟨_,rfl⟩
   have x8:bf (w5) w8:=by rw [hw8]; exact bf.drew' (bf.refl _)
   rw [← hw8]
   have s8:=(S5).ext x8
   have t0':=x8.cell t0
   have a0':=x8.cell a0
   have a1':=x8.cell a1
   have a2':=x8.cell a2
   have a3':=x8.cell a3
   have f3:=s8.f3
   have p3:∀ c t,(w8.alloc (.cells c t)).cell? ⟨F,3,none⟩=some _:=fun c t=>(aM _).cell f3
   have pt:∀ c t,(w8.alloc (.cells c t)).cell? ⟨B1,0,none⟩=some _:=fun c t=>(aM _).cell t0'
   refine xT @t0' @a0' @a1' @a2' @a3' @f3 @p3 @pt ?_
   refine xO (x:=⟨x,.slice sa x.s.length sc,.slice ea x.e.length ec,.slice na x.ks.length nc⟩) s8.pown ⟨b1,b2,b3,b4,b5⟩ (by omega) fun v9 w9 o9 k9 n9 => ?_
   have nF9:(Value.slice qa (P5).length qcap).ownBlock≠some F:=fun h=>by have:=(s8.pc F h).1; have:=s8.core.cF; omega
   have nB9:(Value.slice qa (P5).length qcap).ownBlock≠some B1:=fun h=>(by have:=(S5.pc B1 h).1; omega)
   have f3_9:=k9.some f3 nF9
   have t0_9:=k9.some t0' nB9
   have fz9:∀ y,w9.frozen? ⟨F,y,none⟩=false:=fun y=>by rw [k9.frozen F y (aD s8.core.f0)]; exact s8.core.fz y
   obtain ⟨ra,rc,rfl,_⟩:=ar o9
   refine eA @f3_9 @t0_9 @fz9 ?_
   have hinc8:=G5.j.trans x8.inc
   obtain ⟨c2,S2,hc2,G2⟩:=s8.push hinc8 o9 k9 n9 ⟨b1,b2,b3,b4,b5⟩
   have hz5:=G5.k.size
   have hz8:=x8.size
   have G48:Gk (sM c) d w d5 w8:=⟨(x04.keep.tr G5.k fun b o hb hm=>by unfold sM at hm ⊢; rw [hc4' b hb] at hm; exact hm).tr x8.keep fun _ _ _ h=>h,G5.i,hinc8,fun b hb ho=>G5.o b (by omega) ho⟩
   refine hk d5 _ c2 vo5 vf5 lf5 _ P5 vd5 vk5 o5 S2 (.inr ⟨hPne,hlq,h5,L,hp5,hs5,hf5⟩) (G48.trans G2 (fun _ _ _ h=>h) fun b o hb hm => ?_) fun b hb => ?_
   ·unfold sM at hm ⊢
    rw [hc5 b (by omega),hc4' b hb] at hm
    exact hm
   ·rw [hc2 b (by omega),hc5 b (by omega)]
    exact hc4' b hb
end
end Go.Proofs
end
section
namespace Go.E
open Go Go.Sort Go.Proofs
theorem BY {α:Type} [DecidableEq α]:∀ {A B:List α},A.Pairwise (· ≠ ·)→(∀ a ∈ A,a ∈ B)→A.length≤B.length:=by
 intro A
 induction A with
 | nil=>intro B _ _; exact aO _
 | cons a A ih =>
  intro B h hB
  have ha:=hB a aP
  have h1:=ih (B:=B.erase a) h.of_cons fun x hx=>(List.mem_erase_of_ne (bO h hx).symm).2 (hB x (aj _ hx))
  have h2:=List.length_erase_of_mem ha
  have h3:=List.length_pos_of_mem ha
  rw [aX]
  omega
theorem Dc {l out:List Sp} (h:Ch out) (hs:∀ f ∈ out,∃ y ∈ l,f.s=y.s∨f.s=y.e):out.length≤2 * l.length:=by
 refine ai ?_ (gI l)
 rw [← aU (f:=Sp.s)]
 refine BY ?_ fun x hx => ?_
 ·rw [List.pairwise_map]
  refine (List.Pairwise.and_mem.1 h.2).imp ?_
  rintro a b ⟨ha,_,hab⟩ he
  have:=h.1 a ha
  rw [he] at this
  exact hab this
 ·obtain ⟨f,hf,rfl⟩:=br.1 hx
  exact ((kt l).2 _).2 (hs f hf)
structure FrOut (l F:List Sp):Prop where
 ch:Ch F
 ne:∀ f ∈ F,f.ks≠[]
 pt:∀ x,(gY F x).Perm (gY l x)
 str:∀ f ∈ F,(∃ y ∈ l,f.s=y.s∨f.s=y.e)∧∃ y ∈ l,f.e=y.s∨f.e=y.e
 key:∀ f ∈ F,∀ k ∈ f.ks,∃ y ∈ l,k ∈ y.ks
theorem GG {F:List Sp} {f:Sp} (h:Ch F) (hf:f ∈ F):f.ks.length≤(gY F f.s).length:=by
 unfold gY
 have:f.ks.Sublist (F.flatMap fun s=>if ee f.s s then s.ks else []):=by
  induction F with
  | nil=>cases hf
  | cons a F ih =>
   rw [av]
   rcases al.1 hf with rfl | hf
   ·rw [if_pos (ef.2 ⟨bB _,h.1 f aP⟩)]
    exact List.sublist_append_left _ _
   ·exact (ih ⟨fun t ht=>h.1 t (aj _ ht),h.2.of_cons⟩ hf).trans (List.sublist_append_right _ _)
 exact this.length_le
theorem BZ {l P out:List Sp} {q:Bytes} (h:FrI l P out q):(bn P).length≤(bn l).length:=by
 have h1:gY P q=bn P:=zy fun s hs=>ef.2 ⟨by rw [h.j.pa.s s hs]; exact bB _,by
  have:=h.j.pa.lt s hs
  rw [h.j.pa.s s hs] at this
  exact this⟩
 have h2:=(h.pt q).length_eq
 rw [aJ,h1] at h2
 have h3:∀ (L:List Sp),(gY L q).length≤(bn L).length:=fun L=>by
  unfold gY bn
  induction L with
  | nil=>simp
  | cons a L ih =>
   rw [av,av,aJ,aJ]
   split
   ·omega
   ·rw [List.length_nil]; omega
 have:=h3 l
 omega
theorem Ba {a b:List K} (p:a.Perm b):eC a=eC b:=by
 have h1:(eC a).Perm (eC b):=(ed a).trans (p.trans (ed b).symm)
 have s1:=jJ pO a
 have s2:=jJ pO b
 refine List.Perm.eq_of_pairwise (fun x y _ _ q1 q2 => ?_) s1 s2 h1
 have q1:=gu.1 q1
 have q2:=gu.1 q2
 obtain ⟨xt,xs,xv⟩:=x
 obtain ⟨yt,ys,yv⟩:=y
 simp only at q1 q2
 rcases q1 with q1 | ⟨t1,q1⟩
 ·rcases q2 with q2 | ⟨t2,_⟩ <;> omega
 rcases q2 with q2 | ⟨_,q2⟩
 ·omega
 rcases q1 with q1 | ⟨e1,q1⟩
 ·rcases q2 with q2 | ⟨e2,_⟩
  ·exact absurd q2 (fw q1)
  ·rw [e2] at q1; exact absurd q1 (bB _)
 rcases q2 with q2 | ⟨_,q2⟩
 ·rw [e1] at q2; exact absurd q2 (bB _)
 have e3:xv=yv:=cx q2 q1
 subst t1 e1 e3
 rfl
theorem Hy {snap:Nat} {a b:List K} (h:Cd a) (p:a.Perm b):(Tf snap a).map K.sv=(Tf snap b).map K.sv:=by
 rw [← rb h,← rb (h.perm p),Ba p]
theorem Dd {Lv:List (List Sp)} {F:List Sp} {snap:Nat} (hw:∀ L ∈ Lv,Wf L) (hc:∀ x,Cd (gY Lv.flatten x)) (hF:Wf F) (hp:∀ x,(gY F x).Perm (gY Lv.flatten x)):(iG (rV Lv snap none none)).map cW=(iG (rV [F] snap none none)).map cW:=by
 have hw2:∀ L ∈ [F],Wf L:=fun L hL=>by rw [aQ.1 hL]; exact hF
 rw [rV,rV,uw,uw]
 refine wq (wB (ku hw)) (wB (ku hw2)) fun x => ?_
 rw [wu hw,wu hw2]
 refine Hy (hc x) ?_
 rw [show [F].flatten=F by simp]
 exact (hp x).symm
end Go.E
end
section
namespace Go.E
open Go Go.Sort Go.Proofs
end Go.E
namespace Go.Proofs
open Go Go.E Go.Sort
section
variable {k:au} {d w:World}
end
end Go.Proofs
end
section
namespace Go.E
open Go Go.Sort Go.Proofs
def JF (p:SV):List Value:=[str p.1,str p.2]
theorem Ej (p:SV):(JF p).length=2:=rfl
theorem OwnC.empty {w:World}:OwnC JF 2 64 (w.alloc (.cells #[] 64)) (.slice (some ⟨w.heap.size,0,none⟩) 0 0) []:=⟨⟨rfl,.inr ⟨w.heap.size,0,#[],rfl,aO _,(show (w.heap.push _)[w.heap.size]? = _ from Array.getElem?_push_size),aE _,by decide,rfl,rfl⟩⟩,Ej⟩
end Go.E
namespace Go.Proofs
open Go Go.E Go.Sort
section
variable {k:au} {d w:World}
end
end Go.Proofs
end
section
namespace Go.E
open Go Go.Sort Go.Proofs Go.Proofs.Tryz
theorem Di {l:List Sp} {key:Bytes} {i:Nat} {x:Sp} (h:l[i]? = some x):gY (l.take (i+1)) key=gY (l.take i) key++if ee key x then x.ks else []:=by
 rw [bw h,eK]
 unfold gY
 simp
theorem z8 {l:List Sp} {key:Bytes} {m:Nat} (h:∀ x ∈ l,x.ks.length≤m):(gY l key).length≤l.length * m:=by
 induction l with
 | nil=>simp [gY]
 | cons x l ih =>
  have h1:=h x aP
  have h2:=ih fun y hy=>h y (aj _ hy)
  have e:gY (x :: l) key=(if ee key x then x.ks else [])++gY l key:=by unfold gY; rw [av]
  rw [e,aJ,aX,Nat.add_mul]
  split
  ·omega
  ·rw [List.length_nil]; omega
end Go.E
namespace Go.Proofs
open Go Go.E Go.Sort Go.Proofs.Tryz
section
variable {k:au} {d w:World}
theorem GH {v:Value} {l:List Sp} {key:Bytes} (hv:Sl eN 3 w v l) (hl:l.length≤1000) (hks:∀ x ∈ l,x.ks.length≤40) (hk:∀ v2 w2,bf w w2→OwnC xX 3 88 w2 v2 (eC (gY l key))→(∀ g,v2.ownBlock=some g→w.heap.size≤g)→k v2 w2):aY prog 24 #[v,.string ⟨key.toArray⟩] k w:=by
 have htr:=zp hv
 obtain ⟨ka,kc,rfl⟩:=hv.form
 refine ag [.tmp 4] func24 ?_
 refine an ?_
 refine bR (fun c:Nat × Value=>[(1,.string ⟨key.toArray⟩),(5,c.2),(8,.slice ka l.length kc),(9,.int .i64 l.length),(10,.int .i64 c.1)])
  (fun c w'=>c.1≤l.length∧bf w w'∧OwnC xX 3 88 w' c.2 (gY (l.take c.1) key)∧∀ g,c.2.ownBlock=some g→w.heap.size≤g) (fun c _=>l.length - c.1) (0,.slice none 0 0) (by kernel_rfl) ?_ ⟨aO _,bf.refl _,OwnC.nil qi,by simp [Value.ownBlock]⟩ ?_
 ·exact bK
 rintro K2 e ⟨i,vo⟩ w1 ⟨i2,i3,i4,i5⟩ hK2
 simp only at i2 i4 i5
 have hlen:=z8 (key:=key) (m:=40) fun y hy=>hks y (List.mem_of_mem_take (i:=i) hy)
 rw [dS i2] at hlen
 have h40:i * 40≤1000 * 40:=bJ _ (by omega)
 rcases aG i l.length with hi | hi
 rotate_left
 ·have hi':¬ (i:Int) < l.length:=by omega
  obtain rfl:i=l.length:=by omega
  rw [ah] at i4 hlen
  have ht:Hq (gY l key):=fun y hy=>by
   unfold gY at hy
   obtain ⟨x,hx,hy⟩:=dV.1 hy
   split at hy
   ·exact htr x hx y hy
   ·simp at hy
  obtain ⟨va,vc,rfl,_⟩:=i4.form
  refine bZ @hi' ?_
  refine tf (i4.ke ht) (by omega) fun v2 w2 x2 o2 n2 => ?_
  refine an ?_
  exact hk _ _ (i3.trans x2) o2 fun g hg=>ai i3.size (n2 g hg)
 have hi':(i:Int) < l.length:=by omega
 obtain ⟨g,f,c,hv',hc,hat⟩:=(hv.inc eN.mono i3.inc).at (by omega)
 obtain ⟨rfl,rfl⟩:=sEq hv'
 obtain ⟨x,hx⟩:=gEl hi
 have hxm:=aK hx
 obtain ⟨h0,h1,a,cc,h2,hkx⟩:=eT (hat i x hx)
 obtain ⟨T,hT⟩:∃ T,T=w1.heap.size:=⟨_,rfl⟩
 obtain ⟨w2,hw2⟩:∃ w2,w2=w1.alloc (.cells #[.string ⟨x.s.toArray⟩,.string ⟨x.e.toArray⟩,.slice a x.ks.length cc] 46):=⟨_,rfl⟩
 have x2:bf w1 w2:=by rw [hw2]; exact aM _
 have a0:w2.cell? ⟨T,0,none⟩=some (.string ⟨x.s.toArray⟩):=by rw [hw2,hT]; exact bm @aA
 have a1:w2.cell? ⟨T,1,none⟩=some (.string ⟨x.e.toArray⟩):=by rw [hw2,hT]; exact bm @aA
 have a2:w2.cell? ⟨T,2,none⟩=some (.slice a x.ks.length cc):=by rw [hw2,hT]; exact bm @aA
 have more:=Di (key:=key) hx
 refine gl @hi' @h0 @h1 @h2 @aA ?_
 rw [← hw2,← hT]
 refine uh ⟨_,_,_,rfl⟩ fun w3 x3 => ?_
 have x13:=x2.trans x3
 have a2:=x3.cell a2
 cases hc:ee key x with
 | false =>
  rw [hc,if_neg (by decide),az] at more
  refine an ?_
  refine hK2 _ _ (i+1,vo) ?_ ⟨hi,i3.trans x13,by simp only; rw [more]; exact i4.ext x13,i5⟩ (by simp only; omega)
  exact bK
 | true =>
  rw [hc,if_pos rfl] at more
  obtain ⟨va,vc,rfl,_⟩:=i4.form
  refine bZ @a2 ?_
  have hxl:=hks x hxm
  refine F6 (m:=x.ks) rw44 (i4.ext x13) (zo hkx x13.inc) (fun y _=>qj y) (by omega) fun v5 w5 o5 k5 n5 => ?_
  obtain ⟨va5,vc5,rfl,_⟩:=o5.form
  refine an ?_
  have hx5:bf w w5:=(i3.trans x13).tr k5 fun b o hb h=>by have:=i5 b h; omega
  refine hK2 _ _ (i+1,_) ?_ ⟨hi,hx5,by simp only; rw [more]; exact o5,fun g hg => ?_⟩ (by simp only; omega)
  ·exact bK
  ·rcases n5 g hg with h | h
   ·exact i5 g h
   ·have:=(i3.trans x13).size; omega
theorem y7 {v:Value} {l:List K} (hv:Sl KE 3 d v l) (hl:l.length≤100000) (hinc:cN d w) (hk:∀ d' w' v',Gr d w d' w'→Sl KE 3 d' v' l→k v' w'):aY prog 44 #[v] k w:=by
 obtain ⟨ka,kc,rfl⟩:=hv.form
 refine ag [.tmp 2] func44 ?_
 refine an ?_
 refine bR (fun b:Nat × Value=>[(3,b.2),(6,.slice ka l.length kc),(7,.int .i64 l.length),(8,.int .i64 b.1)])
  (fun b w'=>b.1≤l.length∧∃ d1,LoopL KE 3 88 d w d1 w' b.2 (l.take b.1)) (fun b _=>l.length - b.1) (0,.slice none 0 0) (by kernel_rfl) ?_ ⟨aO _,d,LoopL.nil hinc⟩ ?_
 ·exact bK
 rintro K2 e ⟨i,v⟩ w1 ⟨i2,d1,i3⟩ hK2
 simp only at i2 i3
 rcases aG i l.length with hi | hi
 rotate_left
 ·have hi':¬ (i:Int) < l.length:=by omega
  refine bZ @hi' ?_
  obtain rfl:i=l.length:=by omega
  rw [ah] at i3
  obtain ⟨d2,g2,_,_,s2⟩:=i3.done KE.mono
  exact hk d2 w1 v g2 s2
 have hi':(i:Int) < l.length:=by omega
 obtain ⟨g,f,c,hv',hc,hat⟩:=(hv.inc KE.mono i3.g.i).at (by omega)
 obtain ⟨rfl,rfl⟩:=sEq hv'
 obtain ⟨x,hx⟩:=gEl hi
 obtain ⟨cs,_,hcs,hR⟩:=hat i x hx
 have hmem:=aK hx
 obtain ⟨rfl,htr⟩:=hR
 have h0:w1.cell? ⟨g,f+i * 3,none⟩=some (.int .u64 x.tr):=i3.g.j _ _ _ (hcs 0 _ rfl)
 have h1:w1.cell? ⟨g,f+i * 3+1,none⟩=some (.string ⟨x.suf.toArray⟩):=i3.g.j _ _ _ (hcs 1 _ rfl)
 have h2:w1.cell? ⟨g,f+i * 3+2,none⟩=some (.string ⟨x.val.toArray⟩):=i3.g.j _ _ _ (hcs 2 _ rfl)
 obtain ⟨va,vcap,rfl,_⟩:=i3.form
 have i4:=i3.ext KE.mono (aM (.cells #[.int .u64 x.tr,.string ⟨x.suf.toArray⟩,.string ⟨x.val.toArray⟩] 62))
 obtain ⟨css,o4⟩:=i4.o
 refine gl @hi' @h0 @h1 @h2 @aA ?_
 refine kL x [.int .u64 x.tr,.string ⟨x.suf.toArray⟩,.string ⟨x.val.toArray⟩] rw44 o4 ⟨rfl,htr⟩ rfl (.inl rfl) (World.size_alloc _ _).symm rfl (by simp [Value.oneCell']) (by rw [dS i2]; omega) i4.g.j fun v2 w2 o2 k2 n2 j2 _ => ?_
 refine an ?_
 refine hK2 _ _ (i+1,v2) ?_ ⟨hi,d1,?_⟩ (by simp only; omega)
 ·exact bK
 ·rw [bw hx]
  exact i4.more o2 k2 n2 j2
theorem y8 {kv:Value} {x:Sp} (hv:Sl KE 3 d kv x.ks) (hl:x.ks.length≤100000) (hinc:cN d w) (hk:∀ d' w' v',Gr d w d' w'→Sl KE 3 d' v' x.ks→k (.agg #[.string ⟨x.s.toArray⟩,.string ⟨x.e.toArray⟩,v']) w') :
    aY prog 28 #[.agg #[.string ⟨x.s.toArray⟩,.string ⟨x.e.toArray⟩,kv]] k w:=by
 obtain ⟨ka,kc,rfl⟩:=hv.form
 refine ag [.cell 2 46] func28 ?_
 refine an ?_
 refine ax (sq [0] (.read 1 (sq [2] (.read 3 (sq [4] (.read 5 (.eff 6 [1,3] (sq [7] (.eff 8 [] .done))))))))) ?_
 obtain ⟨A,hA⟩:∃ A,A=w.heap.size:=⟨_,rfl⟩
 obtain ⟨W,hW⟩:∃ W,W=((w.alloc (.cells #[.string ⟨x.s.toArray⟩,.string ⟨x.e.toArray⟩,.slice ka x.ks.length kc] 56)).alloc (.cells #[.string ByteArray.empty,.string ByteArray.empty,.slice none 0 0] 46)).drew:=⟨_,rfl⟩
 have xW:bf w W:=by rw [hW]; exact bf.drew' ((aM _).trans (aM _))
 have a0:W.cell? ⟨A,0,none⟩=some (.string ⟨x.s.toArray⟩):=by rw [hW,hA]; exact bm @aA
 have a1:W.cell? ⟨A,1,none⟩=some (.string ⟨x.e.toArray⟩):=by rw [hW,hA]; exact bm @aA
 have b0:W.cell? ⟨A+1,0,none⟩=some (.string ByteArray.empty):=by rw [hW,hA]; exact bm @aA
 have b1:W.cell? ⟨A+1,1,none⟩=some (.string ByteArray.empty):=by rw [hW,hA]; exact bm @aA
 have b2:W.cell? ⟨A+1,2,none⟩=some (.slice none 0 0):=by rw [hW,hA]; exact bm @aA
 have fz:∀ y,W.frozen? ⟨A+1,y,none⟩=false:=fun y=>by rw [hW,hA]; exact bm @dQ
 have zW:W.heap.size=A+2:=by rw [hW,hA]; simp only [World.size_drew,World.size_alloc]
 refine bZ @aA ?_
 rw [← hA,← hW]
 refine y7 hv hl (hinc.trans xW.inc) fun d1 w1 v1 g1 s1 => ?_
 obtain ⟨va,vc,rfl⟩:=s1.form
 have a0:=g1.x.cell a0
 have a1:=g1.x.cell a1
 have b0:=g1.x.cell b0
 have b1:=g1.x.cell b1
 have b2:=g1.x.cell b2
 have fz:∀ y,w1.frozen? ⟨A+1,y,none⟩=false:=fun y=>by rw [g1.x.frozen _ y (by omega)]; exact fz y
 have hoA:dF d (A+1):=hinc.out (by omega)
 refine oq @a0 @a1 @b0 @b1 @b2 @fz ?_
 have kk:=(((Keep.refl (M:=fun b _=>b=A+1) w1).set (b:=A+1) (o:=0) (v := .string ⟨x.s.toArray⟩) fun _=>rfl).set (b:=A+1) (o:=1) (v := .string ⟨x.e.toArray⟩) fun _=>rfl).set (b:=A+1) (o:=2) (v := .slice va x.ks.length vc) fun _=>rfl
 exact hk _ _ _ (((Gr.ext hinc xW).trans g1).mut kk fun b o h=>by
  subst h
  exact ⟨by omega,g1.o _ (by omega) hoA⟩) s1
end
end Go.Proofs
end
section
namespace Go.E
open Go Go.Sort Go.Proofs Go.Proofs.Tryz
theorem FrC.recolor {c:Nat→Nat} {d w:World} {F O A:Nat} {vo vf:Value} {out:List Sp} {lf:List KR} (h:FrC c d w F O A vo out vf lf) {c2:Nat→Nat} (hc:∀ b,c b < 5→c2 b=c b):FrC c2 d w F O A vo out vf lf :=
 ⟨h.em,h.f0,h.f2,h.f5,h.f6,h.f7,h.fz,h.oF,h.oO,by rw [hc F (by rw [h.cF]; omega)]; exact h.cF,by rw [hc O (by rw [h.cO]; omega)]; exact h.cO,by rw [hc A (by rw [h.cA]; omega)]; exact h.cA,
  fun g hg=>by rw [hc g (by rw [h.c3 g hg]; omega)]; exact h.c3 g hg,fun g hg=>by rw [hc g (by rw [(h.c4 g hg).1]; omega)]; exact h.c4 g hg⟩
theorem FrC.gr {c:Nat→Nat} {d w d2 w2:World} {F O A:Nat} {vo vf:Value} {out:List Sp} {lf:List KR} (h:FrC c d w F O A vo out vf lf) (g:Gr d w d2 w2):FrC c d2 w2 F O A vo out vf lf:=by
 have h2:=h.keep3 g.x fun _ _ h=>h.elim
 obtain ⟨css,oo⟩:=h2.em.oo
 obtain ⟨css1,oo1⟩:=h.em.oo
 exact ⟨⟨h2.em.cA,h2.em.cO,h2.em.fO,css,oo.ghost eN.mono g.i fun b hb=>g.o b (oo1.own.lt _ hb).2 (oo1.out b hb)⟩,h2.f0,h2.f2,h2.f5,h2.f6,⟨h2.f7.hd,h2.f7.own,fun x hx=>by
  obtain ⟨a,b,e⟩:=h2.f7.good x hx
  exact ⟨a,b.inc g.i,e.inc g.i⟩⟩,h2.fz,g.o F (aD h.f0) h.oF,g.o O (aD h.em.cO) h.oO,h2.cF,h2.cO,h2.cA,h2.c3,fun b hb=>⟨(h2.c4 b hb).1,g.o b (h.f7.own.lt _ hb).2 (h2.c4 b hb).2⟩⟩
theorem FrS.gr {c:Nat→Nat} {d w d2 w2:World} {F O A:Nat} {vo vf vp vd vk:Value} {out:List Sp} {lf:List KR} {P:List SR} {q:Bytes} (s:FrS c d w F O A vo out vf lf vp P vd vk q) (g:Gr d w d2 w2):FrS c d2 w2 F O A vo out vf lf vp P vd vk q:=by
 have h2:=s.ext g.x
 obtain ⟨n,xs,ho⟩:=s.kown
 exact ⟨s.core.gr g,h2.f3,h2.pown,fun r hr=>(h2.pgood r hr).inc g.i,fun b hb=>⟨(h2.pc b hb).1,g.o b (s.pown.lt _ hb).2 (h2.pc b hb).2⟩,h2.f4,h2.down,fun b hb=>⟨(h2.dc b hb).1,g.o b (s.down.lt _ hb).2 (h2.dc b hb).2⟩,h2.f8,h2.kown,fun b hb=>⟨(h2.kc b hb).1,g.o b (ho.lt _ hb).2 (h2.kc b hb).2⟩,h2.kb,h2.f9⟩
theorem Gr.gk {d w d1 w1 d2 w2:World} {M:Nat→Nat→Prop} (g:Gr d w d1 w1) (G:Gk M d1 w1 d2 w2) (hM:∀ b o,b < w.heap.size→¬ M b o):Gr d w d2 w2 :=
 ⟨g.x.tr G.k fun b o hb hm=>(hM b o hb hm).elim,g.i.trans G.i,G.j,fun b hb ho=>G.o b (aI hb g.x.size) (g.o b hb ho)⟩
end Go.E
namespace Go.Proofs
open Go Go.E Go.Sort Go.Proofs.Tryz
section
variable {k:au} {d w:World}
theorem xP {v:Value} {l:List Sp} (hv:Sl eN 3 d v l) (hl:l.length≤100000) (hks:∀ x ∈ l,x.ks.length≤100000) (hinc:cN d w) (hk:∀ d' w' v',Gr d w d' w'→Sl eN 3 d' v' l→k v' w'):aY prog 50 #[v] k w:=by
 obtain ⟨ka,kc,rfl⟩:=hv.form
 refine ag [.tmp 2] func50 ?_
 refine an ?_
 refine bR (fun b:Nat × Value=>[(3,b.2),(6,.slice ka l.length kc),(7,.int .i64 l.length),(8,.int .i64 b.1)])
  (fun b w'=>b.1≤l.length∧∃ d1,LoopL eN 3 46 d w d1 w' b.2 (l.take b.1)) (fun b _=>l.length - b.1) (0,.slice none 0 0) (by kernel_rfl) ?_ ⟨aO _,d,LoopL.nil hinc⟩ ?_
 ·exact bK
 rintro K2 e ⟨i,v⟩ w1 ⟨i2,d1,i3⟩ hK2
 simp only at i2 i3
 rcases aG i l.length with hi | hi
 rotate_left
 ·have hi':¬ (i:Int) < l.length:=by omega
  refine bZ @hi' ?_
  obtain rfl:i=l.length:=by omega
  rw [ah] at i3
  obtain ⟨d2,g2,_,_,s2⟩:=i3.done eN.mono
  exact hk d2 w1 v g2 s2
 have hi':(i:Int) < l.length:=by omega
 obtain ⟨g,f,c,hv',hc,hat⟩:=(hv.inc eN.mono i3.g.i).at (by omega)
 obtain ⟨rfl,rfl⟩:=sEq hv'
 obtain ⟨x,hx⟩:=gEl hi
 obtain ⟨cs,_,hcs,hR⟩:=hat i x hx
 have hmem:=aK hx
 obtain ⟨kv,rfl,hkv⟩:=hR
 obtain ⟨kva,kvc,rfl⟩:=hkv.form
 have h0:w1.cell? ⟨g,f+i * 3,none⟩=some (.string ⟨x.s.toArray⟩):=i3.g.j _ _ _ (hcs 0 _ rfl)
 have h1:w1.cell? ⟨g,f+i * 3+1,none⟩=some (.string ⟨x.e.toArray⟩):=i3.g.j _ _ _ (hcs 1 _ rfl)
 have h2:w1.cell? ⟨g,f+i * 3+2,none⟩=some (.slice kva x.ks.length kvc):=i3.g.j _ _ _ (hcs 2 _ rfl)
 have i4:=i3.ext eN.mono (aM (.cells #[.string ⟨x.s.toArray⟩,.string ⟨x.e.toArray⟩,.slice kva x.ks.length kvc] 56))
 refine gl @hi' @h0 @h1 @h2 @aA ?_
 refine y8 (x:=x) hkv (hks x hmem) i4.g.j fun d4 w4 v4 g4 s4 => ?_
 have i5:=i4.call eN.mono g4
 obtain ⟨css,o5⟩:=i5.o
 obtain ⟨va,vcap,rfl,_⟩:=i5.form
 obtain ⟨k4,c4,rfl⟩:=s4.form
 refine an ?_
 refine kL x [.string ⟨x.s.toArray⟩,.string ⟨x.e.toArray⟩,.slice k4 x.ks.length c4] rw28 o5 ⟨_,rfl,s4⟩ rfl (.inl rfl) rfl rfl (by simp [Value.oneCell']) (by rw [dS i2]; omega) i5.g.j fun v2 w2 o2 k2 n2 j2 _ => ?_
 refine an ?_
 refine hK2 _ _ (i+1,v2) ?_ ⟨hi,d4,?_⟩ (by simp only; omega)
 ·exact bK
 ·rw [bw hx]
  exact i5.more o2 k2 n2 j2
theorem y9 {c:Nat→Nat} {F O A:Nat} {vo vf vp vd vk:Value} {out:List Sp} {lf:List KR} {P:List SR} {q:Bytes} (s:FrS c d w F O A vo out vf lf vp P vd vk q) (hinc:cN d w) (hPn:P.length≤500) (hkn:∀ r ∈ P,r.x.ks≠[]) (hkt:(bn (P.map SR.x)).length < 1000000) (hol:out.length < 80000)
    (hk:∀ d2 w2 vo2 L o2,EmO d2 w2 O A vo2 (out++o2)→L.Perm (P.map SR.x)→pT L→FlR L o2→Gk (sM c) d w d2 w2→(∀ g,vo2.ownBlock=some g→w.heap.size≤g∨c g < 8)→k (.tuple #[]) w2) :
    aY prog 85 #[.pointer (some ⟨F,0,none⟩)] k w:=by
 obtain ⟨pa,pcap,rfl,_⟩:=ar s.pown
 have f9:=s.f9
 have f3:=s.f3
 have cF:=s.core.cF
 refine ag [] func85 ?_
 refine dY @f9 @f3 ?_
 obtain ⟨c1,hc1⟩:∃ c1:Nat→Nat,c1=fun b=>if c b=6 then 5 else c b:=⟨_,rfl⟩
 have hle:∀ b,c b < 5→c1 b=c b:=fun b hb=>by rw [hc1]; exact if_neg (by omega)
 refine tq (s.core.recolor hle) hinc s.pown s.pgood (fun g hg=>⟨by rw [hc1]; exact if_pos (s.pc g hg).1,(s.pc g hg).2⟩) (by omega) hkn hkt (by omega) fun d2 w2 c2 vo2 vf2 lf2 L o2 hC hp hs hf G hcc _ => ?_
 have nF:¬ fM c1 F 9:=fun hm=>by
  have:=hle F (by omega)
  unfold fM at hm
  omega
 have f9_2:=G.k.some f9 nF
 have fz2:=hC.fz
 refine dY @f9_2 @fz2 ?_
 have ks:Keep (fun b o=>b=F∧o=9) w2 (w2.setCell ⟨F,9,none⟩ (.bool true)):=bW ⟨rfl,rfl⟩
 have hC3:=hC.keep3 ks fun b o hm => .inl ⟨by rw [hm.1]; exact hC.cF,by omega⟩
 have cc:∀ b,c1 b≤5→c b < 8:=fun b hb=>by
  rw [hc1] at hb
  simp only at hb
  split at hb <;> omega
 refine hk d2 _ vo2 L o2 hC3.em hp hs hf ⟨(G.k.mono fun b o _ hm => ?_).tr ks fun b o hb hm => ?_,G.i,G.j.keep ks fun b o hm=>by rw [hm.1]; exact hC.oF o,G.o⟩ fun g hg => ?_
 ·unfold fM at hm
  exact cc b (by omega)
 ·unfold sM; rw [hm.1]; omega
 ·rcases aG g w.heap.size with h1 | h1
  ·have:=hC.c3 g hg
   rw [hcc g h1] at this
   exact .inr (cc g (by omega))
  ·exact .inl h1
theorem xQ {O:Nat} (hk:∀ w2 F A,bf w w2→w.heap.size≤A→A < F→F < w2.heap.size→w2.cell? ⟨A,0,none⟩=some (.pointer (some ⟨O,0,none⟩))→(∀ o u,(#[.func (.func 102) #[] #[],.nilFunc,.func (.func 117) #[] #[.pointer (some ⟨A,0,none⟩)],.slice none 0 0,.slice none 0 0,.nilFunc,.slice none 0 0,.slice none 0 0,.slice none 0 0,.bool false]:Array Value)[o]? = some u→w2.cell? ⟨F,o,none⟩=some u)→(∀ y,w2.frozen? ⟨F,y,none⟩=false)→k (.pointer (some ⟨F,0,none⟩)) w2) :
    aY prog 82 #[.pointer (some ⟨O,0,none⟩)] k w:=by
 refine ag [.tmp 2] func82 ?_
 refine an ?_
 refine gM ?_
 have c0:((w.alloc (.cells #[.pointer (some ⟨O,0,none⟩)] 192)).alloc sd).cell? ⟨w.heap.size+1,0,none⟩=some (.func (.func 102) #[] #[]):=by
  unfold sd
  exact bm @aA
 refine bZ @c0 ?_
 refine hk _ _ _ (((aM _).trans (aM _)).trans (aM _)) (aE _) (by omega) (by simp only [World.size_alloc]; omega) (by exact bm @aA) (fun o u hu => ?_) fun y => ?_
 ·rw [aA (by simp only [World.size_alloc]; omega) (by simp only [World.size_alloc]; omega)]
  exact hu
 ·exact dQ (by simp only [World.size_alloc]; omega) (by simp only [World.size_alloc]; omega)
set_option maxHeartbeats 1000000 in
theorem pU {v:Value} {l:List Sp} (hv:Sl eN 3 d v l) (hl:l.length≤300) (hlen:∀ x ∈ l,wT x) (hlt:∀ x ∈ l,x.s < x.e) (hne:∀ x ∈ l,x.ks≠[]) (hs:l.Pairwise fun a b=>¬ b.s < a.s) (hkt:(bn l).length < 1000000) (hinc:cN d w)
    (hk:∀ d' w' v' F,Gr d w d' w'→Sl eN 3 d' v' F→FrOut l F→k v' w'):aY prog 51 #[v] k w:=by
 obtain ⟨ka,kc,rfl⟩:=hv.form
 refine ag [.tmp 2] func51 ?_
 refine an ?_
 obtain ⟨O,hO⟩:∃ O,O=w.heap.size:=⟨_,rfl⟩
 obtain ⟨w1,hw1⟩:∃ w1,w1=w.alloc (.cells #[.slice none 0 0] 74):=⟨_,rfl⟩
 have x1:bf w w1:=by rw [hw1]; exact aM _
 have z1:w1.heap.size=w.heap.size+1:=by rw [hw1,World.size_alloc]
 have cO:w1.cell? ⟨O,0,none⟩=some (.slice none 0 0):=by rw [hw1,hO]; exact bm @aA
 have fO:∀ y,w1.frozen? ⟨O,y,none⟩=false:=fun y=>by rw [hw1,hO]; exact dQ (aE _) (Nat.lt_succ_self _)
 rw [← hw1,← hO]
 refine xQ fun w2 F A x2 hA hF hF2 cA cF fF => ?_
 refine an ?_
 have x12:=x1.trans x2
 have hinc2:=hinc.trans x12.inc
 obtain ⟨c0,hc0⟩:∃ c0:Nat→Nat,c0=fun b=>if b=F then 0 else if b=O then 1 else if b=A then 2 else 9:=⟨_,rfl⟩
 have cc0:∀ b,b < w.heap.size→c0 b=9:=fun b hb=>by rw [hc0]; simp only; rw [if_neg (by omega),if_neg (by omega),if_neg (by omega)]
 have on:∀ {el:TypeId} {n:Nat},w2.ownsRow 0 el n (.slice none 0 0) 0 []:=dw
 have core0:FrC c0 d w2 F O A (.slice none 0 0) [] (.slice none 0 0) []:=⟨⟨cA,x2.cell cO,fun y=>by rw [x2.frozen O y (aD cO)]; exact fO y,[],OwnL.nil dw⟩,cF 0 _ rfl,cF 2 _ rfl,by rw [cF 5 _ rfl]; rfl,by rw [cF 6 _ rfl]; rfl,⟨cF 7 _ rfl,dw,by simp⟩,fF,hinc.out (by omega),hinc.out (by omega),
  by rw [hc0]; simp,by rw [hc0]; show (if O=F then 0 else if O=O then 1 else if O=A then 2 else 9)=1; rw [if_neg (by omega),if_pos rfl],by rw [hc0]; show (if A=F then 0 else if A=O then 1 else if A=A then 2 else 9)=2; rw [if_neg (by omega),if_neg (by omega),if_pos rfl],by simp [Value.ownBlock],by simp [Value.ownBlock]⟩
 have s0:FrS c0 d w2 F O A (.slice none 0 0) [] (.slice none 0 0) [] (.slice none 0 0) [] (.slice none 0 0) (.slice none 0 0) []:=⟨core0,cF 3 _ rfl,dw,by simp,by simp [Value.ownBlock],cF 4 _ rfl,dw,by simp [Value.ownBlock],cF 8 _ rfl,⟨0,[],dw⟩,by simp [Value.ownBlock],.inl rfl,cF 9 _ rfl⟩
 have sub:∀ i,(bn (l.take i)).length≤(bn l).length:=fun i=>by
  have:bn l=bn (l.take i)++bn (l.drop i):=by
   unfold bn
   rw [← bP,cm]
  rw [this,aJ]; omega
 refine bR (fun i:Nat=>[(3,.pointer (some ⟨O,0,none⟩)),(4,.pointer (some ⟨F,0,none⟩)),(8,.slice ka l.length kc),(9,.int .i64 l.length),(10,.int .i64 i)])
  (fun i w'=>∃ (c':Nat→Nat) (d':World) (vo vf:Value) (lf:List KR) (vp:Value) (P:List SR) (vd vk:Value) (q:Bytes) (out:List Sp),i≤l.length∧FrS c' d' w' F O A vo out vf lf vp P vd vk q∧FrI (l.take i) (P.map SR.x) out q∧(i=0∧P=[]∧out=[]∧vk = .slice none 0 0∨P≠[]∧∃ j y,i=j+1∧l[j]? = some y∧q=y.s)∧Gr d w d' w'∧∀ b,b < w.heap.size→c' b=9)
  (fun i _=>l.length - i) 0 (by kernel_rfl) ?_ ⟨c0,d,_,_,_,_,[],_,_,[],[],aO _,s0,z7 [],.inl ⟨rfl,rfl,rfl,rfl⟩,Gr.ext hinc x12,cc0⟩ ?_
 ·exact bK
 clear s0 core0 cA cF fF cO fO
 rintro K2 e i w3 ⟨c3,d3,vo,vf,lf,vp,P,vd,vk,q,out,hi0,s,I,hst,g3,hc3⟩ hK2
 have hPn:P.length≤300:=by
  have:=I.len
  rw [aU,bC] at this
  omega
 have hkn:∀ r ∈ P,r.x.ks≠[]:=fun r hr=>I.j.pa.ne _ (List.mem_map_of_mem hr)
 have hkP:(bn (P.map SR.x)).length < 1000000:=fR (BZ I) (fR (sub i) hkt)
 have hol:out.length < 80000:=by
  have:=Dc I.j.ch fun f hf=>(I.j.str f (List.mem_append_left _ hf)).1
  rw [bC] at this
  omega
 have hM3:∀ b (o:Nat),b < w.heap.size→¬ sM c3 b o:=fun b o hb hm=>by
  unfold sM at hm
  rw [hc3 b hb] at hm
  omega
 rcases aG i l.length with hi | hi
 rotate_left
 ·have hi':¬ (i:Int) < l.length:=by omega
  obtain rfl:i=l.length:=by omega
  rw [ah] at I
  refine bZ @hi' ?_
  refine y9 s g3.j (by omega) hkn hkP hol fun d5 w5 vo5 L o5 em5 hp5 hs5 hf5 G5 hb5 => ?_
  have g5:=g3.gk G5 hM3
  obtain ⟨css,oo⟩:=em5.oo
  obtain ⟨d6,g6,_,_,s6⟩:=oo.grown eN.mono g5 fun b hb=>by
   rcases hb5 b hb with h1 | h1
   ·exact ai g3.x.size h1
   ·rcases aG b w.heap.size with h2 | h2
    ·rw [hc3 b h2] at h1; omega
    ·exact h2
  have cO5:=em5.cO
  obtain ⟨a6,c6,rfl⟩:=s6.form
  refine bZ @cO5 ?_
  obtain ⟨f1,f2,f3,f4,f5⟩:=Ef I hp5 hs5 hf5
  exact hk d6 w5 _ (out++o5) g6 s6 ⟨f1,f2,f3,f4,f5⟩
 have hi':(i:Int) < l.length:=by omega
 obtain ⟨g,f,c,hv',hc,hat⟩:=(hv.inc eN.mono g3.i).at (by omega)
 obtain ⟨rfl,rfl⟩:=sEq hv'
 obtain ⟨x,hx⟩:=gEl hi
 have hxm:=aK hx
 obtain ⟨h0,h1,a,cc,h2,hkx⟩:=eT (hat i x hx)
 have h0:=g3.j _ _ _ h0
 have h1:=g3.j _ _ _ h1
 have h2:=g3.j _ _ _ h2
 have hlx:=hlen x hxm
 obtain ⟨w4,hw4⟩:∃ w4,w4=w3.alloc (.cells #[.string ⟨x.s.toArray⟩,.string ⟨x.e.toArray⟩,.slice a x.ks.length cc] 56):=⟨_,rfl⟩
 have x4:bf w3 w4:=by rw [hw4]; exact aM _
 refine gl @hi' @h0 @h1 @h2 @aA ?_
 rw [← hw4]
 have g34:Gr d3 w3 d3 w4:=Gr.ext g3.j x4
 refine rW (x:=x) hkx hlx g34.j fun d5 w5 sa ea v5 g5 q1 q2 q3 q4 q5 => ?_
 have g35:=g34.trans g5
 have s5:=s.gr g35
 have g05:=g3.trans g35
 obtain ⟨sb,sbc,rfl⟩:=ak q2
 obtain ⟨eb,ebc,rfl⟩:=ak q4
 obtain ⟨k5,c5,rfl⟩:=q5.form
 refine an ?_
 refine Ei (x:=x) s5 g5.j q2 q4 q1 q3 q5 (hlt x hxm) (by have:=hlx.1; omega) ?_ (by omega) hkn hkP hol fun d6 w6 c6 vo6 vf6 lf6 vp6 P6 vd6 vk6 o6 S6 hcase G6 hc6 => ?_
 ·rcases hst with ⟨_,e1,_,e3⟩ | ⟨e1,j,y,rfl,hy,rfl⟩
  ·exact .inl ⟨e1,e3⟩
  ·refine .inr ⟨e1,fun r hr=>I.j.pa.s _ (List.mem_map_of_mem hr),?_⟩
   obtain ⟨hj1,e1⟩:=aR.1 hy
   obtain ⟨hj2,e2⟩:=aR.1 hx
   have:=bI.1 hs j (j+1) hj1 hj2 (by omega)
   rw [e1,e2] at this
   exact this
 ·have g6:=g05.gk G6 hM3
  have ht:l.take (i+1)=l.take i++[x]:=bw hx
  refine an ?_
  refine hK2 _ _ (i+1) ?_ ⟨c6,d6,vo6,vf6,lf6,vp6,_,vd6,vk6,x.s,out++o6,hi,S6,?_,.inr ⟨by simp,i,x,rfl,hx,rfl⟩,g6,fun b hb => ?_⟩ (by omega)
  ·exact bK
  ·rw [ht,bH]
   rcases hcase with ⟨hc,rfl,rfl⟩ | ⟨hP,hq,h5,L,hp,hs',hf⟩
   ·rw [az]
    rcases hst with ⟨rfl,rfl,rfl,_⟩ | ⟨e1,_⟩
    ·exact xN (z7 x.s) rfl (hlt x hxm) (hne x hxm)
    ·rcases hc with hc | hc
     ·exact absurd hc e1
     ·subst hc
      exact xN I rfl (hlt x hxm) (hne x hxm)
   ·rw [h5]
    exact DW I hq (hlt x hxm) (hne x hxm) hp hs' hf
  ·rw [hc6 b (aI hb g05.x.size)]
   exact hc3 b hb
end
end Go.Proofs
end
section
namespace Go.E
open Go Go.Sort Go.Proofs
def JG:iD Bytes:=fun _ cs x=>cs=[str x]
theorem JG.mono:iK JG:=fun _ _ _ _ _ h=>h
end Go.E
namespace Go.Proofs
open Go Go.E Go.Sort
section
variable {k:au} {d w:World}
end
end Go.Proofs
end
section
namespace Go.E
open Go Go.Sort Go.Proofs Go.Proofs.Tryz
def mq (s:Sp):Bool:=decide (s.ks≠[])
structure VOk (Lv:List (List Sp)) (snap:Nat):Prop where
 rin:RIn Lv snap none none
 n6:Lv.length≤6
 sz:∀ x ∈ Lv,x.length≤1000∧∀ y ∈ x,y.ks.length≤2000
 n:Lv.flatten.length≤300
theorem VOk.vl {Lv:List (List Sp)} {snap:Nat} (h:VOk Lv snap):(rV Lv snap none none).length≤601:=by
 have:=BP Lv snap
 have:=h.n
 omega
theorem VOk.vk {Lv:List (List Sp)} {snap:Nat} (h:VOk Lv snap):∀ x ∈ rV Lv snap none none,x.ks.length≤600000:=fun x hx=>by
 have h1:=Hw h.rin (m:=2000) (fun L hL s hs=>(h.sz L hL).2 s hs) x hx
 have h2:Lv.flatten.length * 2000≤300 * 2000:=bJ _ h.n
 omega
end Go.E
namespace Go.Proofs
open Go Go.E Go.Sort Go.Proofs.Tryz
section
variable {k:au} {d w:World}
theorem tC {v:Value} {l:List An} (hv:Sl yf 5 d v l) (hl:l.length≤10000) (hks:∀ x ∈ mD l,x.ks.length≤1000000) (hinc:cN d w) (hk:∀ d' w' v',Gr d w d' w'→Sl eN 3 d' v' (((mD l).map cW).filter mq)→k v' w'):aY prog 31 #[v] k w:=by
 obtain ⟨ka,kc,rfl⟩:=hv.form
 have hfl:(mD l).length≤l.length:=by
  unfold mD
  rw [aU]
  exact bz _ _
 refine ag [.tmp 2] func31 ?_
 refine an ?_
 refine ux hv (by omega) hinc fun d1 w1 v1 g1 s1 => ?_
 refine an ?_
 refine su s1 (by omega) (fun x hx=>by have:=hks x hx; omega) g1.j fun d2 w2 v2 g2 s2 => ?_
 have g12:=g1.trans g2
 obtain ⟨M,hM⟩:∃ M,M=(mD l).map cW:=⟨_,rfl⟩
 have hMl:M.length≤10000:=by rw [hM,aU]; omega
 rw [← hM] at s2 hk
 obtain ⟨va,vc,rfl⟩:=s2.form
 refine an ?_
 refine bR (fun b:Nat × Value=>[(3,b.2),(8,.slice va M.length vc),(9,.int .i64 M.length),(10,.int .i64 b.1)])
  (fun b w'=>b.1≤M.length∧∃ d1,LoopL eN 3 46 d2 w2 d1 w' b.2 ((M.take b.1).filter mq)) (fun b _=>M.length - b.1) (0,.slice none 0 0) (by kernel_rfl) ?_ ⟨aO _,d2,LoopL.nil g12.j⟩ ?_
 ·exact bK
 rintro K2 e ⟨i,vo⟩ w3 ⟨i2,d3,i3⟩ hK2
 simp only at i2 i3
 rcases aG i M.length with hi | hi
 rotate_left
 ·have hi':¬ (i:Int) < M.length:=by omega
  refine bZ @hi' ?_
  obtain rfl:i=M.length:=by omega
  rw [ah] at i3
  obtain ⟨d4,g4,_,_,s4⟩:=i3.done eN.mono
  exact hk d4 w3 vo (g12.trans g4) s4
 have hi':(i:Int) < M.length:=by omega
 obtain ⟨g,f,c,hv',hc,hat⟩:=(s2.inc eN.mono i3.g.i).at (by omega)
 obtain ⟨rfl,rfl⟩:=sEq hv'
 obtain ⟨x,hx⟩:=gEl hi
 obtain ⟨h0,h1,a,cc,h2,hkx⟩:=eT (hat i x hx)
 have h0:=i3.g.j _ _ _ h0
 have h1:=i3.g.j _ _ _ h1
 have h2:=i3.g.j _ _ _ h2
 have hmore:(M.take (i+1)).filter mq=(M.take i).filter mq++if mq x then [x] else []:=by
  rw [bw hx,List.filter_append]
  cases h:mq x <;> simp [List.filter_cons,h]
 obtain ⟨T,hT⟩:∃ T,T=w3.heap.size:=⟨_,rfl⟩
 obtain ⟨w4,hw4⟩:∃ w4,w4=w3.alloc (.cells #[.string ⟨x.s.toArray⟩,.string ⟨x.e.toArray⟩,.slice a x.ks.length cc] 46):=⟨_,rfl⟩
 have x4:bf w3 w4:=by rw [hw4]; exact aM _
 have a0:w4.cell? ⟨T,0,none⟩=some (.string ⟨x.s.toArray⟩):=by rw [hw4,hT]; exact bm @aA
 have a1:w4.cell? ⟨T,1,none⟩=some (.string ⟨x.e.toArray⟩):=by rw [hw4,hT]; exact bm @aA
 have a2:w4.cell? ⟨T,2,none⟩=some (.slice a x.ks.length cc):=by rw [hw4,hT]; exact bm @aA
 have i5:=i3.ext eN.mono x4
 refine fE @hi' @h0 @h1 @h2 ?_
 rw [← hw4,← hT]
 by_cases hz:x.ks=[]
 ·have hz1:¬ (0:Int) < x.ks.length:=by rw [hz]; simp
  have hz2:mq x=false:=aF fun h=>h hz
  rw [hz2] at hmore
  refine dY @a2 @hz1 ?_
  refine hK2 _ _ (i+1,vo) ?_ ⟨hi,d3,?_⟩ (by simp only; omega)
  ·exact bK
  ·simp only
   rw [hmore,if_neg (by decide),az]
   exact i5
 ·have hz0:x.ks.length≠0:=fun h=>hz (aZ.1 h)
  have hz1:(0:Int) < x.ks.length:=by omega
  have hz2:mq x=true:=aT hz
  rw [hz2] at hmore
  obtain ⟨css,o5⟩:=i5.o
  obtain ⟨wa,wcap,rfl,_⟩:=i5.form
  have hfl2:((M.take i).filter mq).length≤i:=by
   refine ai (bz _ _) ?_
   rw [bC]; omega
  refine fE @a0 @a1 @a2 @hz1 ?_
  refine kL x [.string ⟨x.s.toArray⟩,.string ⟨x.e.toArray⟩,.slice a x.ks.length cc] rw28 o5 ⟨_,rfl,hkx⟩ rfl (.inl rfl) rfl rfl (by simp [Value.oneCell']) (by omega) i5.g.j fun v6 w6 o6 k6 n6 j6 _ => ?_
  refine an ?_
  refine hK2 _ _ (i+1,v6) ?_ ⟨hi,d3,?_⟩ (by simp only; omega)
  ·exact bK
  ·simp only
   rw [hmore,if_pos rfl]
   exact i5.more o6 k6 n6 j6
theorem om {lv:Value} {Lv:List (List Sp)} {snap:Nat} (hv:Sl mS 1 d lv Lv) (u:VOk Lv snap) (hinc:cN d w) (hk:∀ d' w' v',Gr d w d' w'→Sl eN 3 d' v' ((iG (rV Lv snap none none)).map cW)→k v' w'):aY prog 34 #[lv,.int .u64 snap] k w:=by
 obtain ⟨la,lc,rfl⟩:=hv.form
 refine ag [.tmp 4] func34 ?_
 refine an ?_
 have eS:ByteArray.empty=⟨([]:Bytes).toArray⟩:=rfl
 have hVl:=u.vl
 have hVk:=u.vk
 obtain ⟨V,hV⟩:∃ V,V=rV Lv snap none none:=⟨_,rfl⟩
 rw [← hV] at hVl hVk hk
 refine uu hv (by have:=u.n6; omega) (fun x hx=>⟨by have:=(u.sz x hx).1; omega,fun y hy=>by have:=(u.sz x hx).2 y hy; omega⟩) hinc fun d5 w5 v5 g5 s5 => ?_
 refine an ?_
 refine tA (n:=600) (by decide) g5.j fun d6 w6 v6 g6 s6 => ?_
 have i6:=g5.trans g6
 refine an ?_
 rw [eS]
 refine mo (kl:=[]) (kh:=[]) (bl:=false) (bh:=false) (s5.inc mS.mono g6.i) s6 i6.j u.rin (by decide) (by decide) (Hx 600).1 (by rw [(tm 600).1]; decide) fun d7 w7 v7 l7 g7 s7 hp => ?_
 have i7:=i6.trans g7
 have hp:Pw (mm V rT) (pJ V (-2) false 0 (GA 600)) l7:=by rw [hV]; exact hp
 have hl7:l7.length=601:=by rw [← hp.1,yu,(tm 600).1]
 have hb7:=BO (by omega) hp
 have hk7:=yz hb7 hVk
 refine an ?_
 refine tC s7 (by omega) (fun x hx=>by have:=hk7 x hx; omega) i7.j fun d8 w8 v8 g8 s8 => ?_
 rw [hb7,show mq=fun s:Sp=>decide (s.ks≠[]) from rfl,BN] at s8
 refine an ?_
 exact hk d8 w8 v8 (i7.trans g8) s8
end
end Go.Proofs
end
section
namespace Go.E
open Go Go.Sort Go.Proofs
section
variable {Lv:List (List Sp)} {n snap:Nat}
theorem LvOk.flat (lo:LvOk Lv n):Lv.flatten.length≤6 * n:=by
 have h1:=fZ (Lv:=Lv) (n:=n) lo.sz
 have h2:Lv.length * n≤6 * n:=bJ _ lo.n6
 omega
theorem LvOk.v (lo:LvOk Lv n) (hn:n≤8) (hsn:snap < 18446744073709551616) (f2:∀ x ∈ Lv,x.length≤2147483647∧∀ y ∈ x,sf y):VOk Lv snap :=
 ⟨GC lo (by omega) hsn f2 tj,lo.n6,fun x hx=>⟨by have:=lo.sz x hx; omega,fun y hy=>by have:=(lo.ks x hx y hy).2; omega⟩,by have:=lo.flat; omega⟩
end
end Go.E
namespace Go.Proofs
open Go Go.E Go.Sort
section
variable {k:au} {d w:World}
end
end Go.Proofs
end
section
namespace Go.E
open Go Go.Sort Go.Proofs
section
variable {Lv:List (List Sp)} {snap:Nat} {l F:List Sp}
theorem FrOut.lens (o:FrOut l F) (hn:l.length≤48) (hk:∀ x ∈ l,x.ks.length≤40):F.length≤96∧∀ f ∈ F,f.ks.length≤1920:=by
 have h1:=Dc o.ch fun f hf=>(o.str f hf).1
 refine ⟨by omega,fun f hf => ?_⟩
 have h2:=GG o.ch hf
 have h3:=(o.pt f.s).length_eq
 have h4:=z8 (key:=f.s) hk
 have h5:l.length * 40≤48 * 40:=bJ _ hn
 omega
theorem FrOut.v (o:FrOut l F) (lo:LvOk Lv 8) (hp:l.Perm Lv.flatten) (hsn:snap < 18446744073709551616) (hf:∀ x ∈ Lv.flatten,sf x) (hk:∀ x ∈ l,x.ks.length≤40):VOk [F] snap:=by
 obtain ⟨h1,h2⟩:=o.lens (by have:=lo.flat; rw [hp.length_eq]; omega) hk
 have hm:∀ L ∈ [F],L=F:=fun L h=>aQ.1 h
 have hl:∀ y ∈ l,sf y:=fun y hy=>hf y (hp.mem_iff.1 hy)
 have hw:∀ L ∈ [F],Wf L:=fun L h=>by rw [hm L h]; exact DA.2 o.ch
 refine ⟨⟨by simp,hsn,hw,fun L h => ?_,Hp hw fun x => ?_,tj⟩,by simp,fun L h => ?_,?_⟩
 ·rw [hm L h]
  refine ⟨by omega,fun s hs=>⟨?_,?_,by have:=h2 s hs; omega,o.ne s hs,fun x hx => ?_⟩⟩
  ·obtain ⟨y,hy,e⟩:=(o.str s hs).1
   have:=hl y hy
   rcases e with e | e
   ·rw [e]; have:=this.1; omega
   ·rw [e]; have:=this.2.1; omega
  ·obtain ⟨y,hy,e⟩:=(o.str s hs).2
   have:=hl y hy
   rcases e with e | e
   ·rw [e]; have:=this.1; omega
   ·rw [e]; have:=this.2.1; omega
  ·obtain ⟨y,hy,e⟩:=o.key s hs x hx
   have:=(hl y hy).2.2.2 x e
   unfold C0
   unfold A5 at this
   omega
 ·rw [show [F].flatten=F by simp]
  exact (lo.cd x).perm (((o.pt x).trans (og hp x)).symm)
 ·rw [hm L h]
  exact ⟨by omega,fun y hy=>by have:=h2 y hy; omega⟩
 ·rw [show [F].flatten=F by simp]; omega
theorem FrOut.seen (o:FrOut l F) (lo:LvOk Lv 8) (hp:l.Perm Lv.flatten):(iG (rV Lv snap none none)).map cW=(iG (rV [F] snap none none)).map cW :=
 Dd lo.wf lo.cd (DA.2 o.ch) fun x=>(o.pt x).trans (og hp x)
theorem Dn (h:∀ x ∈ l,x.ks.length≤40):(bn l).length≤l.length * 40:=by
 unfold bn
 induction l with
 | nil=>simp
 | cons a l ih =>
  have:=ih fun x hx=>h x (aj _ hx)
  have:=h a aP
  rw [av,aJ,aX,Nat.add_mul]
  omega
end
end Go.E
namespace Go.Proofs
open Go Go.E Go.Sort
section
variable {k:au} {d w:World}
set_option maxHeartbeats 2000000 in
theorem zA {lv:Value} {Lv:List (List Sp)} {snap:Nat} (hv:Sl mS 1 d lv Lv) (hsn:snap < 18446744073709551616) (hinc:cN d w) (hk:∀ w2,bf w w2→k (.bool true) w2) :
    aY Tryz.prog 11 #[lv,.int .u64 snap] k w:=by
 obtain ⟨la,lc,rfl⟩:=hv.form
 refine ag [.tmp 4] Tryz.func11 ?_
 refine an ?_
 refine BA (hv.inc mS.mono hinc) fun b1 w1 x1 hb1 => ?_
 cases b1 with
 | false =>
  refine bZ @Bool.not_false ?_
  exact hk _ x1
 | true =>
 obtain ⟨f1,f2⟩:=hb1 rfl
 refine bZ @Bool.not_true ?_
 refine qW (n:=8) hv f1 (fun x hx=>⟨(f2 x hx).1,fun y hy=>((f2 x hx).2 y hy).2.2.1⟩) (by decide) (hinc.trans x1.inc) fun b3 w3 x3 hb3 => ?_
 have x13:=x1.trans x3
 cases b3 with
 | false =>
  refine bZ @Bool.not_false ?_
  exact hk _ x13
 | true =>
 have lo:=hb3 rfl
 refine bZ @Bool.not_true ?_
 have hfl:=lo.flat
 have hfk:∀ y ∈ Lv.flatten,y.ks≠[]∧y.ks.length≤40:=fun y hy=>by
  obtain ⟨L,hL,hy⟩:=cu.1 hy
  exact lo.ks L hL y hy
 have hff:∀ y ∈ Lv.flatten,sf y:=fun y hy=>by
  obtain ⟨L,hL,hy⟩:=cu.1 hy
  exact (f2 L hL).2 y hy
 have hfw:∀ y ∈ Lv.flatten,y.s < y.e:=fun y hy=>by
  obtain ⟨L,hL,hy⟩:=cu.1 hy
  exact (DA.1 (lo.wf L hL)).1 y hy
 have hfS:∀ y ∈ Lv.flatten,wT y:=fun y hy=>by
  obtain ⟨q1,q2,q3,q4⟩:=hff y hy
  refine ⟨by omega,by omega,by have:=(hfk y hy).2; omega,fun x hx => ?_⟩
  have:=q4 x hx
  unfold C0
  unfold A5 at this
  omega
 have i0:=Gr.ext hinc x13
 refine qK (hv.inc mS.mono i0.i) (by have:=lo.n6; omega) (fun x hx=>by have:=lo.sz x hx; omega) i0.j fun d4 w4 v4 g4 s4 => ?_
 have i4:=i0.trans g4
 obtain ⟨A,hA⟩:∃ A,A=Lv.flatten:=⟨_,rfl⟩
 rw [← hA] at s4 hfl
 obtain ⟨a4,c4,rfl⟩:=s4.form
 refine an ?_
 refine qL s4 (by omega) (fun x hx=>by have:=(hfk x (hA ▸ hx)).2; omega) i4.j fun d5 w5 v5 g5 s5 => ?_
 have i5:=i4.trans g5
 obtain ⟨a5,c5,rfl⟩:=s5.form
 refine an ?_
 refine uz s5 (by omega) (fun x hx=>hfS x (hA ▸ hx)) i5.j fun d6 w6 v6 l6 g6 s6 hp6 hs6 => ?_
 have i6:=i5.trans g6
 obtain ⟨a6,c6,rfl⟩:=s6.form
 have hm6:∀ x ∈ l6,x ∈ Lv.flatten:=fun x hx=>by rw [← hA]; exact hp6.mem_iff.1 hx
 have hl6:=hp6.length_eq
 have hk6:∀ x ∈ l6,x.ks.length≤40:=fun x hx=>(hfk x (hm6 x hx)).2
 have hkl:=Dn hk6
 have hk48:l6.length * 40≤48 * 40:=bJ _ (by omega)
 refine an ?_
 refine pU s6 (by omega) (fun x hx=>hfS x (hm6 x hx)) (fun x hx=>hfw x (hm6 x hx)) (fun x hx=>(hfk x (hm6 x hx)).1) hs6 (by omega) i6.j fun d7 w7 v7 F g7 s7 o => ?_
 have i7:=i6.trans g7
 obtain ⟨a7,c7,rfl⟩:=s7.form
 rw [hA] at hp6
 have u1:VOk Lv snap:=lo.v (by decide) hsn f2
 have u2:VOk [F] snap:=o.v lo hp6 hsn hff hk6
 obtain ⟨hF1,hF2⟩:=o.lens (by omega) hk6
 have hseen:=o.seen (snap:=snap) lo hp6
 have hVl2:=u2.vl
 have hVk2:=u2.vk
 obtain ⟨V2,hV2⟩:∃ V,V=rV [F] snap none none:=⟨_,rfl⟩
 rw [← hV2] at hVl2 hVk2 hseen
 refine an ?_
 refine xP s7 (by omega) (fun x hx=>by have:=hF2 x hx; omega) i7.j fun d8 w8 v8 g8 s8 => ?_
 have i8:=i7.trans g8
 obtain ⟨a8,c8,rfl⟩:=s8.form
 refine an ?_
 refine om (hv.inc mS.mono i8.i) u1 i8.j fun d9 w9 v9 g9 s9 => ?_
 have i9:=i8.trans g9
 rw [hseen] at s9
 obtain ⟨a9,c9,rfl⟩:=s9.form
 refine an ?_
 obtain ⟨W,hW⟩:∃ W,W=w9.alloc (.cells #[.slice a8 F.length c8] 28):=⟨_,rfl⟩
 have xW:bf w9 W:=by rw [hW]; exact aM _
 have q0:W.cell? ⟨w9.heap.size,0,none⟩=some (.slice a8 F.length c8):=by rw [hW]; exact bm @aA
 obtain ⟨d10,g10,e10⟩:=tZ i9.j xW
 have st:Sl mS 1 d10 (.slice (some ⟨w9.heap.size,0,none⟩) 1 1) [F]:=zr (cs:=[.slice a8 F.length c8]) rfl (fun j u hu=>by
  match j,hu with
  | 0,hu=>obtain rfl:=bj hu; exact e10 _ _ _ (aE _) q0) ⟨_,rfl,(s8.inc eN.mono (g9.trans g10).i)⟩
 rw [← hW]
 have i10:=i9.trans g10
 refine om st u2 i10.j fun d11 w11 v11 g11 s11 => ?_
 have i11:=i10.trans g11
 rw [← hV2] at s11
 obtain ⟨a11,c11,rfl⟩:=s11.form
 have hsl:∀ x ∈ (iG V2).map cW,x.ks.length≤2147483647:=fun x hx=>by
  obtain ⟨y,hy,rfl⟩:=br.1 hx
  rw [oZ,aU]
  have:=hVk2 y (bk.1 hy).1
  omega
 have hsn2:((iG V2).map cW).length≤2147483647:=by
  rw [aU]
  have:(iG V2).length≤V2.length:=bz _ _
  omega
 refine an ?_
 refine sr ((s9.inc eN.mono (g10.trans g11).i).inc eN.mono i11.j) (s11.inc eN.mono i11.j) hsn2 hsl fun w12 x12 => ?_
 rw [aT rfl]
 have i12:=i11.trans (Gr.ext i11.j x12)
 refine an ?_
 refine r8 i12.j fun w13 x13 => ?_
 refine an ?_
 exact hk _ (i12.x.trans x13)
end
end Go.Proofs
end
