/- Parts of the proof: Fh, Vo, Xj, Xk, Xt, Fk, Vp, Fl, Xz. -/
import Derived.Test.YtjcbeinpkafjiaaGreatW22
import Derived.Test.YtjcbeinpkafjiaaGreatW24
import Derived.Test.YtjcbeinpkafjiaaGreatW25
import Derived.Test.YtjcbeinpkafjiaaGreatW26
set_option linter.all false
set_option maxRecDepth 10000
section
namespace Go.E
open Go Go.Sort Go.Proofs
section
variable {c:Nat→Nat} {d w w2:World} {F O A:Nat} {vo vf vp vd vk:Value} {out:List Sp} {lf:List KR} {P:List SR} {q:Bytes}
theorem FrS.ext (s:FrS c d w F O A vo out vf lf vp P vd vk q) (x:bj w w2):FrS c d w2 F O A vo out vf lf vp P vd vk q:=by
 obtain ⟨n,xs,ho⟩:=s.kown
 refine ⟨s.core.keep3 x fun _ _ h=>h.elim,x.cell s.f3,aT s.pown x fun _ _ _ h=>h,s.pgood,s.pc,x.cell s.f4,aT s.down x fun _ _ _ h=>h,s.dc,x.cell s.f8,⟨n,xs,aT ho x fun _ _ _ h=>h⟩,s.kc,?_,x.cell s.f9⟩
 rcases s.kb with h | h
 ·exact .inl h
 ·exact .inr (h.inc x.inc)
theorem FrS.color (s:FrS c d w F O A vo out vf lf vp P vd vk q) {c2:Nat→Nat} (hc:∀ b,b < w.heap.size→c2 b=c b):FrS c2 d w F O A vo out vf lf vp P vd vk q:=by
 obtain ⟨n,xs,ho⟩:=s.kown
 exact ⟨s.core.color hc,s.f3,s.pown,s.pgood,fun b hb=>⟨by rw [hc b (s.pown.lt _ hb).2]; exact (s.pc b hb).1,(s.pc b hb).2⟩,s.f4,s.down,fun b hb=>⟨by rw [hc b (s.down.lt _ hb).2]; exact (s.dc b hb).1,(s.dc b hb).2⟩,s.f8,⟨n,xs,ho⟩,fun b hb=>⟨by rw [hc b (ho.lt _ hb).2]; exact (s.kc b hb).1,(s.kc b hb).2⟩,s.kb,s.f9⟩
theorem FrS.push (s:FrS c d w F O A vo out vf lf vp P vd vk q) (hinc:cN d w) {v2:Value} {r:SR} (o2:w2.ownsRow 0 114 4 v2 (P++[r]).length (jd (P++[r]))) (k2:Keep (fun b _=>vp.ownBlock=some b) w w2) (n2:cP w vp v2) (hr:r.good d) :
    ∃ c2,FrS c2 d (w2.setCell ⟨F,3,none⟩ v2) F O A vo out vf lf v2 (P++[r]) vd vk q∧(∀ b,b < w.heap.size→c2 b=c b)∧Gk (sM c) d w d (w2.setCell ⟨F,3,none⟩ v2):=by
 obtain ⟨n,xs,ho⟩:=s.kown
 obtain ⟨c2,hc2⟩:∃ c2:Nat→Nat,c2=fun b=>if b < w.heap.size then c b else 6:=⟨_,rfl⟩
 have hc:∀ b,b < w.heap.size→c2 b=c b:=fun b hb=>by rw [hc2]; exact if_pos hb
 have lp:∀ b,vp.ownBlock=some b→b < w.heap.size:=fun b hb=>(s.pown.lt _ hb).2
 have hF:=s.core.cF
 have lF:=aD s.core.f0
 have ks:Keep (fun b o=>b=F∧o=3) w2 (w2.setCell ⟨F,3,none⟩ v2):=bW ⟨rfl,rfl⟩
 have kk:Keep (fun b o=>vp.ownBlock=some b∨b=F∧o=3) w (w2.setCell ⟨F,3,none⟩ v2):=(k2.mono fun _ _ _ h => .inl h).tr ks fun _ _ _ h => .inr h
 have nn:∀ {b o},c b≠6→(b=F→o≠3)→¬ (vp.ownBlock=some b∨b=F∧o=3):=fun {b o} h6 h3 hm=>by
  rcases hm with h | ⟨h,h'⟩
  ·exact h6 (s.pc b h).1
  ·exact h3 h h'
 have nF:vp.ownBlock≠some F:=fun h=>by have:=(s.pc F h).1; omega
 have n57:∀ {b o},c b=5∨c b=7→¬ (vp.ownBlock=some b∨b=F∧o=3):=fun {b o} h=>nn (by omega) fun e=>by rw [e] at h; omega
 have nv2:∀ b,v2.ownBlock=some b→c2 b=6∧cx d b:=fun b hb=>by
  rcases n2 b hb with h1 | h1
  ·exact ⟨by rw [hc b (lp b h1)]; exact (s.pc b h1).1,(s.pc b h1).2⟩
  ·exact ⟨by rw [hc2]; exact if_neg (by omega),hinc.out h1⟩
 have inc':cN d (w2.setCell ⟨F,3,none⟩ v2):=hinc.keep kk fun b o hm=>by
  rcases hm with h | ⟨h,_⟩
  ·exact (s.pc b h).2 o
  ·rw [h]; exact s.core.oF o
 have kb':vk = .slice none 0 0∨eN (w2.setCell ⟨F,3,none⟩ v2) vk q:=by
  rcases s.kb with h | h
  ·exact .inl h
  ·refine .inr ?_
   rcases cR ho with ⟨e,_,_⟩ | ⟨g,cap,e,hn,_⟩
   ·rw [e] at h ⊢; exact h
   ·rw [e] at h ⊢
    obtain ⟨h1,h2,h3⟩:=h
    refine ⟨h1,h2,fun i u hu => ?_⟩
    refine kk.some (h3 i u hu) (n57 (.inr (s.kc g (by rw [e]; rfl)).1))
 refine ⟨c2,⟨(s.core.color hc).keep3 kk fun b o hm => ?_,by rw [bu,k2.some s.f3 nF]; rfl,aT o2 ks fun b hb o hm => ?_,fun z hz => ?_,nv2,kk.some s.f4 (nn (by omega) fun _=>by decide),aT s.down kk fun b hb o=>n57 (.inl (s.dc b hb).1),fun b hb=>⟨by rw [hc b (s.down.lt _ hb).2]; exact (s.dc b hb).1,(s.dc b hb).2⟩,kk.some s.f8 (nn (by omega) fun _=>by decide),⟨n,xs,aT ho kk fun b hb o=>n57 (.inr (s.kc b hb).1)⟩,fun b hb=>⟨by rw [hc b (ho.lt _ hb).2]; exact (s.kc b hb).1,(s.kc b hb).2⟩,kb',kk.some s.f9 (nn (by omega) fun _=>by decide)⟩,hc,kk.mono fun b o hb hm => ?_,cN.refl d,inc',fun _ _ h=>h⟩
 ·rcases hm with h | ⟨h,h'⟩
  ·exact .inr (by rw [hc b (lp b h),(s.pc b h).1]; omega)
  ·exact .inl ⟨by rw [h,hc F lF]; exact hF,.inl h'⟩
 ·have h1:=(nv2 b hb).1
  rw [hm.1,hc F lF] at h1
  omega
 ·rcases aV.1 hz with hz | hz
  ·exact s.pgood z hz
  ·rw [aQ.1 hz]; exact hr
 ·unfold sM
  rcases hm with h | ⟨h,_⟩
  ·have:=(s.pc b h).1; omega
  ·rw [h]; omega
end
end Go.E
namespace Go.Proofs
open Go Go.E Go.Sort
section
variable {k:au} {d w:World}
theorem Et {c:Nat→Nat} {F O A:Nat} {vo vf vp vd vk sv ev kv:Value} {out:List Sp} {lf:List KR} {P:List SR} {q:Bytes} {x:Sp} (s:FrS c d w F O A vo out vf lf vp P vd vk q) (hinc:cN d w)
    (b1:eN d sv x.s) (b2:eN d ev x.e) (b3:mn sv=true) (b4:mn ev=true) (b5:Sl KB 3 d kv x.ks) (hlt:x.s < x.e) (hxl:x.s.length < 10000000000) (hP:(P=[]∧vk = .slice none 0 0)∨(P≠[]∧(∀ r ∈ P,r.x.s=q)∧¬ x.s < q))
    (hPn:P.length≤500) (hkn:∀ r ∈ P,r.x.ks≠[]) (hkt:(bq (P.map SR.x)).length < 1000000) (hol:out.length < 80000)
    (hk:∀ d2 w2 c2 vo2 vf2 lf2 vp2 P2 vd2 vk2 o2,FrS c2 d2 w2 F O A vo2 (out++o2) vf2 lf2 vp2 (P2++[⟨x,sv,ev,kv⟩]) vd2 vk2 x.s→((P=[]∨q=x.s)∧P2=P∧o2=[]∨P≠[]∧q < x.s∧P2.map SR.x=iz x.s (P.map SR.x)∧∃ L,L.Perm (jJ x.s (P.map SR.x))∧px L∧FlR L o2)→Gk (sM c) d w d2 w2→(∀ b,b < w.heap.size→c2 b=c b)→k (.tuple #[]) w2) :
    aX Tryz.prog 83 #[.pointer (some ⟨F,0,none⟩),.agg #[sv,ev,kv,.int .i8 0]] k w:=by
 obtain ⟨sa,sc,rfl⟩:=ak b1
 obtain ⟨ea,ec,rfl⟩:=ak b2
 obtain ⟨na,nc,rfl⟩:=b5.form
 obtain ⟨nk,xk,hok⟩:=s.kown
 obtain ⟨fa,fc,rfl,_⟩:=ao hok
 obtain ⟨pa,pcap,rfl,_⟩:=ao s.pown
 refine ae [] Tryz.func83 ?_
 obtain ⟨B1,hB1⟩:∃ b,b=w.heap.size:=⟨_,rfl⟩
 obtain ⟨W,hW⟩:∃ W,W=(w.alloc (.cells #[.pointer (some ⟨F,0,none⟩)] 190)).alloc (.cells #[.slice sa x.s.length sc,.slice ea x.e.length ec,.slice na x.ks.length nc,.int .i8 0] 114):=⟨_,rfl⟩
 have xW:bj w W:=by rw [hW]; exact (aM _).trans (aM _)
 have t0:W.cell? ⟨B1,0,none⟩=some (.pointer (some ⟨F,0,none⟩)):=by rw [hW,hB1]; exact bk @aA
 have a0:W.cell? ⟨B1+1,0,none⟩=some (.slice sa x.s.length sc):=by rw [hW,hB1]; exact bk @aA
 have a1:W.cell? ⟨B1+1,1,none⟩=some (.slice ea x.e.length ec):=by rw [hW,hB1]; exact bk @aA
 have a2:W.cell? ⟨B1+1,2,none⟩=some (.slice na x.ks.length nc):=by rw [hW,hB1]; exact bk @aA
 have a3:W.cell? ⟨B1+1,3,none⟩=some (.int .i8 0):=by rw [hW,hB1]; exact bk @aA
 refine an ?_
 rw [← hW,← hB1]
 have sW:=s.ext xW
 have f9:=sW.f9
 have f8:=sW.f8
 have f3:=sW.f3
 have f0:=sW.core.f0
 have e8:((0:Int) != 0)=false:=rfl
 refine gq @t0 @f9 @a3 @e8 @f8 ?_
 refine pP (fun _:Unit=>[(2,.pointer (some ⟨B1,0,none⟩)),(3,.pointer (some ⟨B1+1,0,none⟩))]) (fun _ w'=>bj W w') (by kernel_rfl) (by kernel_rfl) (fun K hK => ?_) ?_
 ·cases fa with
  | none =>
   simp (disch:=first | exact dZ | fail) only [go_sem,Option.isSome_none]
   refine hK _ _ () ?_ (bj.refl W)
   exact bO
  | some af =>
   have hkb:eN W (.slice (some af) nk fc) q:=by
    rcases sW.kb with h | h
    ·simp at h
    ·exact h
   have hqs:¬ x.s < q:=by
    rcases hP with ⟨_,h⟩ | ⟨_,_,h⟩
    ·simp at h
    ·exact h
   simp (disch:=first | exact dZ | fail) only [go_sem,Option.isSome_some]
   refine ay (.read 0 (sq [1,2] (.read 3 (sq [4] (.read 5 (.read 6 (sq [7,8] (.read 9 (.eff 10 [] (sq [11] .done)))))))))) ?_
   obtain ⟨W2,hW2⟩:∃ W2,W2=W.drew:=⟨_,rfl⟩
   have x2:bj W W2:=by rw [hW2]; exact bj.drew' (bj.refl _)
   rw [← hW2]
   have t0':=x2.cell t0
   have f0':=x2.cell f0
   have f8':=x2.cell f8
   have a0':=x2.cell a0
   refine fI @t0' @f0' @f8' @a0' ?_
   refine cQ (b1.inc (hinc.trans (xW.trans x2).inc)) (hkb.inc x2.inc) ?_
   have hn:¬ ct x.s q < 0:=fun h=>hqs (db.1 h)
   refine dU @hn @decide_false ?_
   refine hK _ _ () ?_ x2
   exact bO
 rintro e _ w2 x2
 have t0:=x2.cell t0
 have a0:=x2.cell a0
 have a1:=x2.cell a1
 have a2:=x2.cell a2
 have a3:=x2.cell a3
 have x02:=xW.trans x2
 have s2:=s.ext x02
 have hinc2:=hinc.trans x02.inc
 clear e8 f0 f3 f8 f9 sW
 refine an ?_
 refine ay (.read 0 (sq [1,2] (.read 3 (sq [4] (.read 5 (sq [6] (.read 7 (.eff 8 [] (sq [9] .done))))))))) ?_
 obtain ⟨w3,hw3⟩:∃ w3,w3=w2.drew:=⟨_,rfl⟩
 have x3:bj w2 w3:=by rw [hw3]; exact bj.drew' (bj.refl _)
 rw [← hw3]
 have t0:=x3.cell t0
 have a0:=x3.cell a0
 have a1:=x3.cell a1
 have a2:=x3.cell a2
 have a3:=x3.cell a3
 have x03:=x02.trans x3
 have s3:=s.ext x03
 have hinc3:=hinc.trans x03.inc
 have f0:=s3.core.f0
 have f3:=s3.f3
 refine fI @t0 @f0 @a0 @a1 ?_
 refine cQ (b1.inc hinc3) (b2.inc hinc3) ?_
 have hn:¬ 0≤ct x.s x.e:=fun h=>gB hlt ((eE.1 h:x.e≤x.s) |> fun h=>absurd hlt h)
 refine fI @hn @decide_false @t0 @f3 ?_
 have hB1':∀ {v:Value} {n:Nat} {xs:List Value},w.ownsRow 0 114 4 v n xs→v.ownBlock≠some B1:=fun h hb=>by have:=(h.lt _ hb).2; omega
 rcases hP with ⟨rfl,hvk⟩ | ⟨hPne,hPq,hqs⟩
 ·have hz:¬ (0:Int) < (([]:List SR).length:Int):=by simp
  have s3':FrS c d w3 F O A vo out vf lf (.slice pa ([]:List SR).length pcap) [] vd (.slice fa nk fc) x.s:=⟨s3.core,s3.f3,s3.pown,s3.pgood,s3.pc,s3.f4,s3.down,s3.dc,s3.f8,s3.kown,s3.kc,.inl hvk,s3.f9⟩
  refine bf @hz ?_
  refine ay (.read 0 (.read 1 (sq [2,3] (.read 4 (.read 5 (.eff 6 [0,1,4] (.eff 7 [0] (sq [8,9] (.eff 10 [] .done))))))))) ?_
  obtain ⟨w8,hw8⟩:∃ w8,w8=(w3).drew:=⟨_,rfl⟩
  have x8:bj (w3) w8:=by rw [hw8]; exact bj.drew' (bj.refl _)
  rw [← hw8]
  have s8:=(s3').ext x8
  have t0':=x8.cell t0
  have a0':=x8.cell a0
  have a1':=x8.cell a1
  have a2':=x8.cell a2
  have a3':=x8.cell a3
  have f3:=s8.f3
  have p3:∀ c t,(w8.alloc (.cells c t)).cell? ⟨F,3,none⟩=some _:=fun c t=>(aM _).cell f3
  have pt:∀ c t,(w8.alloc (.cells c t)).cell? ⟨B1,0,none⟩=some _:=fun c t=>(aM _).cell t0'
  refine xq @t0' @a0' @a1' @a2' @a3' @f3 @p3 @pt ?_
  refine xf (x:=⟨x,.slice sa x.s.length sc,.slice ea x.e.length ec,.slice na x.ks.length nc⟩) s8.pown ⟨b1,b2,b3,b4,b5⟩ (by omega) fun v9 w9 o9 k9 n9 => ?_
  have nF9:(Value.slice pa (([]:List SR)).length pcap).ownBlock≠some F:=fun h=>by have:=(s8.pc F h).1; have:=s8.core.cF; omega
  have nB9:(Value.slice pa (([]:List SR)).length pcap).ownBlock≠some B1:=fun h=>hB1' s.pown h
  have f3_9:=k9.some f3 nF9
  have t0_9:=k9.some t0' nB9
  have fz9:∀ y,w9.frozen? ⟨F,y,none⟩=false:=fun y=>by rw [k9.frozen F y (aD s8.core.f0)]; exact s8.core.fz y
  obtain ⟨ra,rc,rfl,_⟩:=ao o9
  refine eA @f3_9 @t0_9 @fz9 ?_
  have hinc8:=hinc3.trans x8.inc
  obtain ⟨c2,S2,hc2,G2⟩:=s8.push hinc8 o9 k9 n9 ⟨b1,b2,b3,b4,b5⟩
  have x08:=x03.trans x8
  refine hk d _ c2 vo vf lf _ [] vd _ [] (by rw [av]; exact S2) (.inl ⟨.inl rfl,rfl,rfl⟩) (Gk.trans (M1:=sM c) (d1:=d) ⟨x08.keep,cN.refl d,hinc8,fun _ _ h=>h⟩ G2 (fun _ _ _ h=>h) fun _ _ _ h=>h) fun b hb=>hc2 b (aI hb x08.size)
 ·have hP0:P.length≠0:=fun h=>hPne (aZ.1 h)
  have hz:(0:Int) < P.length:=by omega
  obtain ⟨p0,hp0⟩:∃ p0,P[0]? = some p0:=⟨_,aC (by omega)⟩
  have hp0m:=aK hp0
  have hp0q:=hPq p0 hp0m
  have gp0:=s.pgood p0 hp0m
  obtain ⟨g,rfl⟩:∃ g,pa=some ⟨g,0,none⟩:=by
   rcases cR s3.pown with ⟨_,h0,_⟩ | ⟨g,cap,e,_,_⟩
   ·exact absurd h0 hP0
   ·simp only [aW] at e
    exact ⟨g,e.1⟩
  obtain ⟨y0,_⟩:=pq hp0
  have y0:=bL s3.pown y0
  rw [Nat.zero_mul] at y0
  obtain ⟨pb,pn,ep⟩:=ak gp0.1
  have gp1:=gp0.1
  rw [ep] at y0 gp1
  rw [hp0q] at y0 gp1
  refine bf @hz ?_
  refine ay (.read 0 (sq [1,2] (.read 3 (.read 4 (sq [5,6] (.read 7 (sq [8,9] (.read 10 (sq [11] (.read 12 (.eff 13 [] (sq [14] .done)))))))))))) ?_
  obtain ⟨w4,hw4⟩:∃ w4,w4=w3.drew:=⟨_,rfl⟩
  have x4:bj w3 w4:=by rw [hw4]; exact bj.drew' (bj.refl _)
  rw [← hw4]
  have t0:=x4.cell t0
  have a0:=x4.cell a0
  have a1:=x4.cell a1
  have a2:=x4.cell a2
  have a3:=x4.cell a3
  have y0:=x4.cell y0
  have x04:=x03.trans x4
  have s4:=s.ext x04
  have hinc4:=hinc.trans x04.inc
  have f0:=s4.core.f0
  have f3:=s4.f3
  refine zV @t0 @f0 @f3 @a0 @y0 @hz @Int.toNat_zero @Nat.zero_mul @Nat.add_zero ?_
  refine cQ (gp1.inc hinc4) (b1.inc hinc4) ?_
  have hn:¬ 0 < ct q x.s:=fun h=>hqs (gG.1 h)
  by_cases hqx:q=x.s
  ·have he:(ct q x.s == 0)=true:=by rw [beq_iff_eq,dG]; exact hqx
   refine eA @hn @decide_false @he ?_
   refine ay (.read 0 (.read 1 (sq [2,3] (.read 4 (.read 5 (.eff 6 [0,1,4] (.eff 7 [0] (sq [8,9] (.eff 10 [] .done))))))))) ?_
   obtain ⟨w8,hw8⟩:∃ w8,w8=(w4).drew:=⟨_,rfl⟩
   have x8:bj (w4) w8:=by rw [hw8]; exact bj.drew' (bj.refl _)
   rw [← hw8]
   have s8:=(s4).ext x8
   have t0':=x8.cell t0
   have a0':=x8.cell a0
   have a1':=x8.cell a1
   have a2':=x8.cell a2
   have a3':=x8.cell a3
   have f3:=s8.f3
   have p3:∀ c t,(w8.alloc (.cells c t)).cell? ⟨F,3,none⟩=some _:=fun c t=>(aM _).cell f3
   have pt:∀ c t,(w8.alloc (.cells c t)).cell? ⟨B1,0,none⟩=some _:=fun c t=>(aM _).cell t0'
   refine xq @t0' @a0' @a1' @a2' @a3' @f3 @p3 @pt ?_
   refine xf (x:=⟨x,.slice sa x.s.length sc,.slice ea x.e.length ec,.slice na x.ks.length nc⟩) s8.pown ⟨b1,b2,b3,b4,b5⟩ (by omega) fun v9 w9 o9 k9 n9 => ?_
   have nF9:(Value.slice (some ⟨g,0,none⟩) (P).length pcap).ownBlock≠some F:=fun h=>by have:=(s8.pc F h).1; have:=s8.core.cF; omega
   have nB9:(Value.slice (some ⟨g,0,none⟩) (P).length pcap).ownBlock≠some B1:=fun h=>hB1' s.pown h
   have f3_9:=k9.some f3 nF9
   have t0_9:=k9.some t0' nB9
   have fz9:∀ y,w9.frozen? ⟨F,y,none⟩=false:=fun y=>by rw [k9.frozen F y (aD s8.core.f0)]; exact s8.core.fz y
   obtain ⟨ra,rc,rfl,_⟩:=ao o9
   refine eA @f3_9 @t0_9 @fz9 ?_
   have hinc8:=hinc4.trans x8.inc
   have x08:=x04.trans x8
   subst hqx
   obtain ⟨c2,S2,hc2,G2⟩:=s8.push hinc8 o9 k9 n9 ⟨b1,b2,b3,b4,b5⟩
   refine hk d _ c2 vo vf lf _ P vd _ [] (by rw [av]; exact S2) (.inl ⟨.inr rfl,rfl,rfl⟩) (Gk.trans (M1:=sM c) (d1:=d) ⟨x08.keep,cN.refl d,hinc8,fun _ _ h=>h⟩ G2 (fun _ _ _ h=>h) fun _ _ _ h=>h) fun b hb=>hc2 b (aI hb x08.size)
  ·have he:(ct q x.s == 0)=false:=by rw [beq_eq_false_iff_ne,ne_eq,dG]; exact hqx
   have hlq:q < x.s:=by
    rcases gg q x.s with h | h | h
    ·exact h
    ·exact absurd h hqx
    ·exact absurd h hqs
   refine gq @hn @decide_false @he @t0 @a0 ?_
   obtain ⟨c4,hc4⟩:∃ c4:Nat→Nat,c4=fun b=>if b < w.heap.size then c b else 9:=⟨_,rfl⟩
   have hc4':∀ b,b < w.heap.size→c4 b=c b:=fun b hb=>by rw [hc4]; exact if_pos hb
   refine Bn ((s.color hc4').ext x04) hinc4 b1 b3 hxl hPn hkn hkt hol (fun r hr=>by rw [hPq r hr]; exact hlq) fun d5 w5 c5 vo5 vf5 lf5 vp5 P5 vd5 vk5 L o5 S5 h5 hp5 hs5 hf5 G5 hc5 => ?_
   have nB:∀ {b o},w.heap.size≤b→¬ sM c4 b o:=fun {b o} hb hm=>by
    unfold sM at hm
    rw [hc4] at hm
    simp only at hm
    rw [if_neg (by omega)] at hm
    omega
   have t0:=G5.k.some t0 (nB (by omega))
   have a0:=G5.k.some a0 (nB (by omega))
   have a1:=G5.k.some a1 (nB (by omega))
   have a2:=G5.k.some a2 (nB (by omega))
   have a3:=G5.k.some a3 (nB (by omega))
   have hz4:=x04.size
   have lB:B1 < w4.heap.size:=by
    have q1:W.heap.size=w.heap.size+2:=by rw [hW]; simp only [World.size_alloc]
    have q2:=x2.size
    have q3:=x3.size
    have q4:=x4.size
    omega
   have hcB:c5 B1=9:=by rw [hc5 B1 lB,hc4]; exact if_neg (by omega)
   obtain ⟨qa,qcap,rfl,_⟩:=ao S5.pown
   have hP5:P5.length≤500:=by
    have h1:=congrArg List.length h5
    rw [aS] at h1
    rw [h1]
    refine ai (Du _ _) ?_
    rw [aS]; exact hPn
   have b1:=b1.inc G5.i
   have b2:=b2.inc G5.i
   have b5:=b5.inc KB.mono G5.i
   refine an ?_
   refine ay (.read 0 (.read 1 (sq [2,3] (.read 4 (.read 5 (.eff 6 [0,1,4] (.eff 7 [0] (sq [8,9] (.eff 10 [] .done))))))))) ?_
   obtain ⟨w8,hw8⟩:∃ w8,w8=(w5).drew:=⟨_,rfl⟩
   have x8:bj (w5) w8:=by rw [hw8]; exact bj.drew' (bj.refl _)
   rw [← hw8]
   have s8:=(S5).ext x8
   have t0':=x8.cell t0
   have a0':=x8.cell a0
   have a1':=x8.cell a1
   have a2':=x8.cell a2
   have a3':=x8.cell a3
   have f3:=s8.f3
   have p3:∀ c t,(w8.alloc (.cells c t)).cell? ⟨F,3,none⟩=some _:=fun c t=>(aM _).cell f3
   have pt:∀ c t,(w8.alloc (.cells c t)).cell? ⟨B1,0,none⟩=some _:=fun c t=>(aM _).cell t0'
   refine xq @t0' @a0' @a1' @a2' @a3' @f3 @p3 @pt ?_
   refine xf (x:=⟨x,.slice sa x.s.length sc,.slice ea x.e.length ec,.slice na x.ks.length nc⟩) s8.pown ⟨b1,b2,b3,b4,b5⟩ (by omega) fun v9 w9 o9 k9 n9 => ?_
   have nF9:(Value.slice qa (P5).length qcap).ownBlock≠some F:=fun h=>by have:=(s8.pc F h).1; have:=s8.core.cF; omega
   have nB9:(Value.slice qa (P5).length qcap).ownBlock≠some B1:=fun h=>(by have:=(S5.pc B1 h).1; omega)
   have f3_9:=k9.some f3 nF9
   have t0_9:=k9.some t0' nB9
   have fz9:∀ y,w9.frozen? ⟨F,y,none⟩=false:=fun y=>by rw [k9.frozen F y (aD s8.core.f0)]; exact s8.core.fz y
   obtain ⟨ra,rc,rfl,_⟩:=ao o9
   refine eA @f3_9 @t0_9 @fz9 ?_
   have hinc8:=G5.j.trans x8.inc
   obtain ⟨c2,S2,hc2,G2⟩:=s8.push hinc8 o9 k9 n9 ⟨b1,b2,b3,b4,b5⟩
   have hz5:=G5.k.size
   have hz8:=x8.size
   have G48:Gk (sM c) d w d5 w8:=⟨(x04.keep.tr G5.k fun b o hb hm=>by unfold sM at hm ⊢; rw [hc4' b hb] at hm; exact hm).tr x8.keep fun _ _ _ h=>h,G5.i,hinc8,fun b hb ho=>G5.o b (by omega) ho⟩
   refine hk d5 _ c2 vo5 vf5 lf5 _ P5 vd5 vk5 o5 S2 (.inr ⟨hPne,hlq,h5,L,hp5,hs5,hf5⟩) (G48.trans G2 (fun _ _ _ h=>h) fun b o hb hm => ?_) fun b hb => ?_
   ·unfold sM at hm ⊢
    rw [hc5 b (by omega),hc4' b hb] at hm
    exact hm
   ·rw [hc2 b (by omega),hc5 b (by omega)]
    exact hc4' b hb
end
end Go.Proofs
end
section
namespace Go.E
open Go Go.Sort Go.Proofs
theorem Bp {α:Type} [DecidableEq α]:∀ {A B:List α},A.Pairwise (· ≠ ·)→(∀ a ∈ A,a ∈ B)→A.length≤B.length:=by
 intro A
 induction A with
 | nil=>intro B _ _; exact aP _
 | cons a A ih =>
  intro B h hB
  have ha:=hB a aO
  have h1:=ih (B:=B.erase a) h.of_cons fun x hx=>(List.mem_erase_of_ne (bJ h hx).symm).2 (hB x (aj _ hx))
  have h2:=List.length_erase_of_mem ha
  have h3:=List.length_pos_of_mem ha
  rw [aY]
  omega
theorem Dv {l out:List Sp} (h:Ch out) (hs:∀ f ∈ out,∃ y ∈ l,f.s=y.s∨f.s=y.e):out.length≤2 * l.length:=by
 refine ai ?_ (gL l)
 rw [← aS (f:=Sp.s)]
 refine Bp ?_ fun x hx => ?_
 ·rw [List.pairwise_map]
  refine (List.Pairwise.and_mem.1 h.2).imp ?_
  rintro a b ⟨ha,_,hab⟩ he
  have:=h.1 a ha
  rw [he] at this
  exact hab this
 ·obtain ⟨f,hf,rfl⟩:=bU.1 hx
  exact ((lH l).2 _).2 (hs f hf)
structure FrOut (l F:List Sp):Prop where
 ch:Ch F
 ne:∀ f ∈ F,f.ks≠[]∧qv f.ks
 pt:∀ x,(fZ F x).Perm (fZ l x)
 str:∀ f ∈ F,(∃ y ∈ l,f.s=y.s∨f.s=y.e)∧∃ y ∈ l,f.e=y.s∨f.e=y.e
 key:∀ f ∈ F,∀ k ∈ f.ks,∃ y ∈ l,k ∈ y.ks
theorem AM {F:List Sp} {f:Sp} (h:Ch F) (hf:f ∈ F):f.ks.Sublist (fZ F f.s):=by
 unfold fZ
 induction F with
 | nil=>cases hf
 | cons a F ih =>
  rw [ax]
  rcases al.1 hf with rfl | hf
  ·rw [if_pos (dz.2 ⟨bA _,h.1 f aO⟩)]
   exact List.sublist_append_left _ _
  ·exact (ih ⟨fun t ht=>h.1 t (aj _ ht),h.2.of_cons⟩ hf).trans (List.sublist_append_right _ _)
theorem GX {F:List Sp} {f:Sp} (h:Ch F) (hf:f ∈ F):f.ks.length≤(fZ F f.s).length:=(AM h hf).length_le
theorem Bs {l P out:List Sp} {q:Bytes} (h:FrI l P out q):(bq P).length≤(bq l).length:=by
 have h1:fZ P q=bq P:=AJ fun s hs=>dz.2 ⟨by rw [h.j.pa.s s hs]; exact bA _,by
  have:=h.j.pa.lt s hs
  rw [h.j.pa.s s hs] at this
  exact this⟩
 have h2:=(h.pt q).length_eq
 rw [aJ,h1] at h2
 have h3:∀ (L:List Sp),(fZ L q).length≤(bq L).length:=fun L=>by
  unfold fZ bq
  induction L with
  | nil=>simp
  | cons a L ih =>
   rw [ax,ax,aJ,aJ]
   split
   ·omega
   ·rw [List.length_nil]; omega
 have:=h3 l
 omega
theorem Bt {a b:List K} (p:a.Perm b):eF a=eF b:=by
 have h1:(eF a).Perm (eF b):=(ef a).trans (p.trans (ef b).symm)
 have s1:=jP pe a
 have s2:=jP pe b
 refine List.Perm.eq_of_pairwise (fun x y _ _ q1 q2 => ?_) s1 s2 h1
 have q1:=gy.1 q1
 have q2:=gy.1 q2
 obtain ⟨xt,xs,xv⟩:=x
 obtain ⟨yt,ys,yv⟩:=y
 simp only at q1 q2
 rcases q1 with q1 | ⟨t1,q1⟩
 ·rcases q2 with q2 | ⟨t2,_⟩ <;> omega
 rcases q2 with q2 | ⟨_,q2⟩
 ·omega
 rcases q1 with q1 | ⟨e1,q1⟩
 ·rcases q2 with q2 | ⟨e2,_⟩
  ·exact absurd q2 (gB q1)
  ·rw [e2] at q1; exact absurd q1 (bA _)
 rcases q2 with q2 | ⟨_,q2⟩
 ·rw [e1] at q2; exact absurd q2 (bA _)
 have e3:xv=yv:=cy q2 q1
 subst t1 e1 e3
 rfl
theorem FM {snap:Nat} {a b:List K} (h:Cd a) (p:a.Perm b):(Tf snap a).map K.sv=(Tf snap b).map K.sv:=by
 rw [← sE h,← sE (h.perm p),Bt p]
theorem xg {Lv:List (List Sp)} {F:List Sp} {snap:Nat} (hw:∀ L ∈ Lv,Wf L) (hF:Wf F) (hp:∀ x,(Tf snap (fZ Lv.flatten x)).map K.sv=(Tf snap (fZ F x)).map K.sv):(gZ (rV Lv snap none none)).map cT=(gZ (rV [F] snap none none)).map cT:=by
 have hw2:∀ L ∈ [F],Wf L:=fun L hL=>by rw [aQ.1 hL]; exact hF
 rw [rV,rV,vF,vF]
 refine xG (wM (lI hw)) (wM (lI hw2)) fun x => ?_
 rw [xI hw,xI hw2,hp x,show [F].flatten=F by simp]
end Go.E
end
section
namespace Go.E
open Go Go.Sort Go.Proofs
end Go.E
namespace Go.Proofs
open Go Go.E Go.Sort
section
variable {k:au} {d w:World}
end
end Go.Proofs
end
section
namespace Go.E
open Go Go.Sort Go.Proofs
def JX (p:SV):List Value:=[str p.1,str p.2]
theorem Eu (p:SV):(JX p).length=2:=rfl
theorem OwnC.empty {w:World}:OwnC JX 2 64 (w.alloc (.cells #[] 64)) (.slice (some ⟨w.heap.size,0,none⟩) 0 0) []:=⟨⟨rfl,.inr ⟨w.heap.size,0,#[],rfl,aP _,(show (w.heap.push _)[w.heap.size]? = _ from Array.getElem?_push_size),aE _,by decide,rfl,rfl⟩⟩,Eu⟩
end Go.E
namespace Go.Proofs
open Go Go.E Go.Sort
section
variable {k:au} {d w:World}
end
end Go.Proofs
end
section
namespace Go.E
open Go Go.Sort Go.Proofs Go.Proofs.Tryz
theorem Dw {l:List Sp} {key:Bytes} {i:Nat} {x:Sp} (h:l[i]? = some x):fZ (l.take (i+1)) key=fZ (l.take i) key++if eK key x then x.ks else []:=by
 rw [bw h,dW]
 unfold fZ
 simp
theorem AN {l:List Sp} {key:Bytes} {m:Nat} (h:∀ x ∈ l,x.ks.length≤m):(fZ l key).length≤l.length * m:=by
 induction l with
 | nil=>simp [fZ]
 | cons x l ih =>
  have h1:=h x aO
  have h2:=ih fun y hy=>h y (aj _ hy)
  have e:fZ (x :: l) key=(if eK key x then x.ks else [])++fZ l key:=by unfold fZ; rw [ax]
  rw [e,aJ,aY,Nat.add_mul]
  split
  ·omega
  ·rw [List.length_nil]; omega
end Go.E
namespace Go.Proofs
open Go Go.E Go.Sort Go.Proofs.Tryz
section
variable {k:au} {d w:World}
theorem GY {v:Value} {l:List Sp} {key:Bytes} (hv:Sl eJ 3 w v l) (hl:l.length≤1000) (hks:∀ x ∈ l,x.ks.length≤40) (hk:∀ v2 w2,bj w w2→OwnC xw 3 88 w2 v2 (eF (fZ l key))→(∀ g,v2.ownBlock=some g→w.heap.size≤g)→k v2 w2):aX prog 24 #[v,.string ⟨key.toArray⟩] k w:=by
 have htr:=AB hv
 obtain ⟨ka,kc,rfl⟩:=hv.form
 refine ae [.tmp 4] func24 ?_
 refine an ?_
 refine bR (fun c:Nat × Value=>[(1,.string ⟨key.toArray⟩),(5,c.2),(8,.slice ka l.length kc),(9,.int .i64 l.length),(10,.int .i64 c.1)])
  (fun c w'=>c.1≤l.length∧bj w w'∧OwnC xw 3 88 w' c.2 (fZ (l.take c.1) key)∧∀ g,c.2.ownBlock=some g→w.heap.size≤g) (fun c _=>l.length - c.1) (0,.slice none 0 0) (by kernel_rfl) ?_ ⟨aP _,bj.refl _,OwnC.nil rB,by simp [Value.ownBlock]⟩ ?_
 ·exact bO
 rintro K2 e ⟨i,vo⟩ w1 ⟨i2,i3,i4,i5⟩ hK2
 simp only at i2 i4 i5
 have hlen:=AN (key:=key) (m:=40) fun y hy=>hks y (List.mem_of_mem_take (i:=i) hy)
 rw [dS i2] at hlen
 have h40:i * 40≤1000 * 40:=bN _ (by omega)
 rcases aG i l.length with hi | hi
 rotate_left
 ·have hi':¬ (i:Int) < l.length:=by omega
  obtain rfl:i=l.length:=by omega
  rw [ah] at i4 hlen
  have ht:H8 (fZ l key):=fun y hy=>by
   unfold fZ at hy
   obtain ⟨x,hx,hy⟩:=dX.1 hy
   split at hy
   ·exact htr x hx y hy
   ·simp at hy
  obtain ⟨va,vc,rfl,_⟩:=i4.form
  refine bf @hi' ?_
  refine tx (i4.ke ht) (by omega) fun v2 w2 x2 o2 n2 => ?_
  refine an ?_
  exact hk _ _ (i3.trans x2) o2 fun g hg=>ai i3.size (n2 g hg)
 have hi':(i:Int) < l.length:=by omega
 obtain ⟨g,f,c,hv',hc,hat⟩:=(hv.inc eJ.mono i3.inc).at (by omega)
 obtain ⟨rfl,rfl⟩:=sEq hv'
 obtain ⟨x,hx⟩:=gEl hi
 have hxm:=aK hx
 obtain ⟨h0,h1,a,cc,h2,hkx⟩:=eL (hat i x hx)
 obtain ⟨T,hT⟩:∃ T,T=w1.heap.size:=⟨_,rfl⟩
 obtain ⟨w2,hw2⟩:∃ w2,w2=w1.alloc (.cells #[.string ⟨x.s.toArray⟩,.string ⟨x.e.toArray⟩,.slice a x.ks.length cc] 46):=⟨_,rfl⟩
 have x2:bj w1 w2:=by rw [hw2]; exact aM _
 have a0:w2.cell? ⟨T,0,none⟩=some (.string ⟨x.s.toArray⟩):=by rw [hw2,hT]; exact bk @aA
 have a1:w2.cell? ⟨T,1,none⟩=some (.string ⟨x.e.toArray⟩):=by rw [hw2,hT]; exact bk @aA
 have a2:w2.cell? ⟨T,2,none⟩=some (.slice a x.ks.length cc):=by rw [hw2,hT]; exact bk @aA
 have more:=Dw (key:=key) hx
 refine gq @hi' @h0 @h1 @h2 @aA ?_
 rw [← hw2,← hT]
 refine uv ⟨_,_,_,rfl⟩ fun w3 x3 => ?_
 have x13:=x2.trans x3
 have a2:=x3.cell a2
 cases hc:eK key x with
 | false =>
  rw [hc,if_neg (by decide),av] at more
  refine an ?_
  refine hK2 _ _ (i+1,vo) ?_ ⟨hi,i3.trans x13,by simp only; rw [more]; exact i4.ext x13,i5⟩ (by simp only; omega)
  exact bO
 | true =>
  rw [hc,if_pos rfl] at more
  obtain ⟨va,vc,rfl,_⟩:=i4.form
  refine bf @a2 ?_
  have hxl:=hks x hxm
  refine GO (m:=x.ks) rw44 (i4.ext x13) (AA hkx x13.inc) (fun y _=>rC y) (by omega) fun v5 w5 o5 k5 n5 => ?_
  obtain ⟨va5,vc5,rfl,_⟩:=o5.form
  refine an ?_
  have hx5:bj w w5:=(i3.trans x13).tr k5 fun b o hb h=>by have:=i5 b h; omega
  refine hK2 _ _ (i+1,_) ?_ ⟨hi,hx5,by simp only; rw [more]; exact o5,fun g hg => ?_⟩ (by simp only; omega)
  ·exact bO
  ·rcases n5 g hg with h | h
   ·exact i5 g h
   ·have:=(i3.trans x13).size; omega
theorem sX {v:Value} {l:List K} (hv:Sl KE 3 d v l) (hl:l.length≤100000) (hinc:cN d w) (hk:∀ d' w' v',Gr d w d' w'→Sl KE 3 d' v' l→k v' w'):aX prog 44 #[v] k w:=by
 obtain ⟨ka,kc,rfl⟩:=hv.form
 refine ae [.tmp 2] func44 ?_
 refine an ?_
 refine bR (fun b:Nat × Value=>[(3,b.2),(6,.slice ka l.length kc),(7,.int .i64 l.length),(8,.int .i64 b.1)])
  (fun b w'=>b.1≤l.length∧∃ d1,LoopL KE 3 88 d w d1 w' b.2 (l.take b.1)) (fun b _=>l.length - b.1) (0,.slice none 0 0) (by kernel_rfl) ?_ ⟨aP _,d,LoopL.nil hinc⟩ ?_
 ·exact bO
 rintro K2 e ⟨i,v⟩ w1 ⟨i2,d1,i3⟩ hK2
 simp only at i2 i3
 rcases aG i l.length with hi | hi
 rotate_left
 ·have hi':¬ (i:Int) < l.length:=by omega
  refine bf @hi' ?_
  obtain rfl:i=l.length:=by omega
  rw [ah] at i3
  obtain ⟨d2,g2,_,_,s2⟩:=i3.done KE.mono
  exact hk d2 w1 v g2 s2
 have hi':(i:Int) < l.length:=by omega
 obtain ⟨g,f,c,hv',hc,hat⟩:=(hv.inc KE.mono i3.g.i).at (by omega)
 obtain ⟨rfl,rfl⟩:=sEq hv'
 obtain ⟨x,hx⟩:=gEl hi
 obtain ⟨cs,_,hcs,hR⟩:=hat i x hx
 have hmem:=aK hx
 obtain ⟨rfl,htr⟩:=hR
 have h0:w1.cell? ⟨g,f+i * 3,none⟩=some (.int .u64 x.tr):=i3.g.j _ _ _ (hcs 0 _ rfl)
 have h1:w1.cell? ⟨g,f+i * 3+1,none⟩=some (.string ⟨x.suf.toArray⟩):=i3.g.j _ _ _ (hcs 1 _ rfl)
 have h2:w1.cell? ⟨g,f+i * 3+2,none⟩=some (.string ⟨x.val.toArray⟩):=i3.g.j _ _ _ (hcs 2 _ rfl)
 obtain ⟨va,vcap,rfl,_⟩:=i3.form
 have i4:=i3.ext KE.mono (aM (.cells #[.int .u64 x.tr,.string ⟨x.suf.toArray⟩,.string ⟨x.val.toArray⟩] 62))
 obtain ⟨css,o4⟩:=i4.o
 refine gq @hi' @h0 @h1 @h2 @aA ?_
 refine ju x [.int .u64 x.tr,.string ⟨x.suf.toArray⟩,.string ⟨x.val.toArray⟩] rw44 o4 ⟨rfl,htr⟩ rfl (.inl rfl) (World.size_alloc _ _).symm rfl (by simp [Value.oneCell']) (by rw [dS i2]; omega) i4.g.j fun v2 w2 o2 k2 n2 j2 _ => ?_
 refine an ?_
 refine hK2 _ _ (i+1,v2) ?_ ⟨hi,d1,?_⟩ (by simp only; omega)
 ·exact bO
 ·rw [bw hx]
  exact i4.more o2 k2 n2 j2
theorem zN {kv:Value} {x:Sp} (hv:Sl KE 3 d kv x.ks) (hl:x.ks.length≤100000) (hinc:cN d w) (hk:∀ d' w' v',Gr d w d' w'→Sl KE 3 d' v' x.ks→k (.agg #[.string ⟨x.s.toArray⟩,.string ⟨x.e.toArray⟩,v']) w') :
    aX prog 28 #[.agg #[.string ⟨x.s.toArray⟩,.string ⟨x.e.toArray⟩,kv]] k w:=by
 obtain ⟨ka,kc,rfl⟩:=hv.form
 refine ae [.cell 2 46] func28 ?_
 refine an ?_
 refine ay (sq [0] (.read 1 (sq [2] (.read 3 (sq [4] (.read 5 (.eff 6 [1,3] (sq [7] (.eff 8 [] .done))))))))) ?_
 obtain ⟨A,hA⟩:∃ A,A=w.heap.size:=⟨_,rfl⟩
 obtain ⟨W,hW⟩:∃ W,W=((w.alloc (.cells #[.string ⟨x.s.toArray⟩,.string ⟨x.e.toArray⟩,.slice ka x.ks.length kc] 56)).alloc (.cells #[.string ByteArray.empty,.string ByteArray.empty,.slice none 0 0] 46)).drew:=⟨_,rfl⟩
 have xW:bj w W:=by rw [hW]; exact bj.drew' ((aM _).trans (aM _))
 have a0:W.cell? ⟨A,0,none⟩=some (.string ⟨x.s.toArray⟩):=by rw [hW,hA]; exact bk @aA
 have a1:W.cell? ⟨A,1,none⟩=some (.string ⟨x.e.toArray⟩):=by rw [hW,hA]; exact bk @aA
 have b0:W.cell? ⟨A+1,0,none⟩=some (.string ByteArray.empty):=by rw [hW,hA]; exact bk @aA
 have b1:W.cell? ⟨A+1,1,none⟩=some (.string ByteArray.empty):=by rw [hW,hA]; exact bk @aA
 have b2:W.cell? ⟨A+1,2,none⟩=some (.slice none 0 0):=by rw [hW,hA]; exact bk @aA
 have fz:∀ y,W.frozen? ⟨A+1,y,none⟩=false:=fun y=>by rw [hW,hA]; exact bk @dA
 have zW:W.heap.size=A+2:=by rw [hW,hA]; simp only [World.size_drew,World.size_alloc]
 refine bf @aA ?_
 rw [← hA,← hW]
 refine sX hv hl (hinc.trans xW.inc) fun d1 w1 v1 g1 s1 => ?_
 obtain ⟨va,vc,rfl⟩:=s1.form
 have a0:=g1.x.cell a0
 have a1:=g1.x.cell a1
 have b0:=g1.x.cell b0
 have b1:=g1.x.cell b1
 have b2:=g1.x.cell b2
 have fz:∀ y,w1.frozen? ⟨A+1,y,none⟩=false:=fun y=>by rw [g1.x.frozen _ y (by omega)]; exact fz y
 have hoA:cx d (A+1):=hinc.out (by omega)
 refine pI @a0 @a1 @b0 @b1 @b2 @fz ?_
 have kk:=(((Keep.refl (M:=fun b _=>b=A+1) w1).set (b:=A+1) (o:=0) (v := .string ⟨x.s.toArray⟩) fun _=>rfl).set (b:=A+1) (o:=1) (v := .string ⟨x.e.toArray⟩) fun _=>rfl).set (b:=A+1) (o:=2) (v := .slice va x.ks.length vc) fun _=>rfl
 exact hk _ _ _ (((Gr.ext hinc xW).trans g1).mut kk fun b o h=>by
  subst h
  exact ⟨by omega,g1.o _ (by omega) hoA⟩) s1
end
end Go.Proofs
end
section
namespace Go.E
open Go Go.Sort Go.Proofs Go.Proofs.Tryz
theorem FrC.recolor {c:Nat→Nat} {d w:World} {F O A:Nat} {vo vf:Value} {out:List Sp} {lf:List KR} (h:FrC c d w F O A vo out vf lf) {c2:Nat→Nat} (hc:∀ b,c b < 5→c2 b=c b):FrC c2 d w F O A vo out vf lf :=
 ⟨h.em,h.f0,h.f2,h.f5,h.f6,h.f7,h.fz,h.oF,h.oO,by rw [hc F (by rw [h.cF]; omega)]; exact h.cF,by rw [hc O (by rw [h.cO]; omega)]; exact h.cO,by rw [hc A (by rw [h.cA]; omega)]; exact h.cA,
  fun g hg=>by rw [hc g (by rw [h.c3 g hg]; omega)]; exact h.c3 g hg,fun g hg=>by rw [hc g (by rw [(h.c4 g hg).1]; omega)]; exact h.c4 g hg⟩
theorem FrC.gr {c:Nat→Nat} {d w d2 w2:World} {F O A:Nat} {vo vf:Value} {out:List Sp} {lf:List KR} (h:FrC c d w F O A vo out vf lf) (g:Gr d w d2 w2):FrC c d2 w2 F O A vo out vf lf:=by
 have h2:=h.keep3 g.x fun _ _ h=>h.elim
 obtain ⟨css,oo⟩:=h2.em.oo
 obtain ⟨css1,oo1⟩:=h.em.oo
 exact ⟨⟨h2.em.cA,h2.em.cO,h2.em.fO,css,oo.ghost eJ.mono g.i fun b hb=>g.o b (oo1.own.lt _ hb).2 (oo1.out b hb)⟩,h2.f0,h2.f2,h2.f5,h2.f6,⟨h2.f7.hd,h2.f7.own,fun x hx=>by
  obtain ⟨a,b,e⟩:=h2.f7.good x hx
  exact ⟨a,b.inc g.i,e.inc g.i⟩⟩,h2.fz,g.o F (aD h.f0) h.oF,g.o O (aD h.em.cO) h.oO,h2.cF,h2.cO,h2.cA,h2.c3,fun b hb=>⟨(h2.c4 b hb).1,g.o b (h.f7.own.lt _ hb).2 (h2.c4 b hb).2⟩⟩
theorem FrS.gr {c:Nat→Nat} {d w d2 w2:World} {F O A:Nat} {vo vf vp vd vk:Value} {out:List Sp} {lf:List KR} {P:List SR} {q:Bytes} (s:FrS c d w F O A vo out vf lf vp P vd vk q) (g:Gr d w d2 w2):FrS c d2 w2 F O A vo out vf lf vp P vd vk q:=by
 have h2:=s.ext g.x
 obtain ⟨n,xs,ho⟩:=s.kown
 exact ⟨s.core.gr g,h2.f3,h2.pown,fun r hr=>(h2.pgood r hr).inc g.i,fun b hb=>⟨(h2.pc b hb).1,g.o b (s.pown.lt _ hb).2 (h2.pc b hb).2⟩,h2.f4,h2.down,fun b hb=>⟨(h2.dc b hb).1,g.o b (s.down.lt _ hb).2 (h2.dc b hb).2⟩,h2.f8,h2.kown,fun b hb=>⟨(h2.kc b hb).1,g.o b (ho.lt _ hb).2 (h2.kc b hb).2⟩,h2.kb,h2.f9⟩
theorem Gr.gk {d w d1 w1 d2 w2:World} {M:Nat→Nat→Prop} (g:Gr d w d1 w1) (G:Gk M d1 w1 d2 w2) (hM:∀ b o,b < w.heap.size→¬ M b o):Gr d w d2 w2 :=
 ⟨g.x.tr G.k fun b o hb hm=>(hM b o hb hm).elim,g.i.trans G.i,G.j,fun b hb ho=>G.o b (aI hb g.x.size) (g.o b hb ho)⟩
end Go.E
namespace Go.Proofs
open Go Go.E Go.Sort Go.Proofs.Tryz
section
variable {k:au} {d w:World}
theorem FN {v:Value} {l:List Sp} (hv:Sl eJ 3 d v l) (hl:l.length≤100000) (hks:∀ x ∈ l,x.ks.length≤100000) (hinc:cN d w) (hk:∀ d' w' v',Gr d w d' w'→Sl eJ 3 d' v' l→k v' w'):aX prog 50 #[v] k w:=by
 obtain ⟨ka,kc,rfl⟩:=hv.form
 refine ae [.tmp 2] func50 ?_
 refine an ?_
 refine bR (fun b:Nat × Value=>[(3,b.2),(6,.slice ka l.length kc),(7,.int .i64 l.length),(8,.int .i64 b.1)])
  (fun b w'=>b.1≤l.length∧∃ d1,LoopL eJ 3 46 d w d1 w' b.2 (l.take b.1)) (fun b _=>l.length - b.1) (0,.slice none 0 0) (by kernel_rfl) ?_ ⟨aP _,d,LoopL.nil hinc⟩ ?_
 ·exact bO
 rintro K2 e ⟨i,v⟩ w1 ⟨i2,d1,i3⟩ hK2
 simp only at i2 i3
 rcases aG i l.length with hi | hi
 rotate_left
 ·have hi':¬ (i:Int) < l.length:=by omega
  refine bf @hi' ?_
  obtain rfl:i=l.length:=by omega
  rw [ah] at i3
  obtain ⟨d2,g2,_,_,s2⟩:=i3.done eJ.mono
  exact hk d2 w1 v g2 s2
 have hi':(i:Int) < l.length:=by omega
 obtain ⟨g,f,c,hv',hc,hat⟩:=(hv.inc eJ.mono i3.g.i).at (by omega)
 obtain ⟨rfl,rfl⟩:=sEq hv'
 obtain ⟨x,hx⟩:=gEl hi
 obtain ⟨cs,_,hcs,hR⟩:=hat i x hx
 have hmem:=aK hx
 obtain ⟨kv,rfl,hkv⟩:=hR
 obtain ⟨kva,kvc,rfl⟩:=hkv.form
 have h0:w1.cell? ⟨g,f+i * 3,none⟩=some (.string ⟨x.s.toArray⟩):=i3.g.j _ _ _ (hcs 0 _ rfl)
 have h1:w1.cell? ⟨g,f+i * 3+1,none⟩=some (.string ⟨x.e.toArray⟩):=i3.g.j _ _ _ (hcs 1 _ rfl)
 have h2:w1.cell? ⟨g,f+i * 3+2,none⟩=some (.slice kva x.ks.length kvc):=i3.g.j _ _ _ (hcs 2 _ rfl)
 have i4:=i3.ext eJ.mono (aM (.cells #[.string ⟨x.s.toArray⟩,.string ⟨x.e.toArray⟩,.slice kva x.ks.length kvc] 56))
 refine gq @hi' @h0 @h1 @h2 @aA ?_
 refine zN (x:=x) hkv (hks x hmem) i4.g.j fun d4 w4 v4 g4 s4 => ?_
 have i5:=i4.call eJ.mono g4
 obtain ⟨css,o5⟩:=i5.o
 obtain ⟨va,vcap,rfl,_⟩:=i5.form
 obtain ⟨k4,c4,rfl⟩:=s4.form
 refine an ?_
 refine ju x [.string ⟨x.s.toArray⟩,.string ⟨x.e.toArray⟩,.slice k4 x.ks.length c4] rw28 o5 ⟨_,rfl,s4⟩ rfl (.inl rfl) rfl rfl (by simp [Value.oneCell']) (by rw [dS i2]; omega) i5.g.j fun v2 w2 o2 k2 n2 j2 _ => ?_
 refine an ?_
 refine hK2 _ _ (i+1,v2) ?_ ⟨hi,d4,?_⟩ (by simp only; omega)
 ·exact bO
 ·rw [bw hx]
  exact i5.more o2 k2 n2 j2
theorem zO {c:Nat→Nat} {F O A:Nat} {vo vf vp vd vk:Value} {out:List Sp} {lf:List KR} {P:List SR} {q:Bytes} (s:FrS c d w F O A vo out vf lf vp P vd vk q) (hinc:cN d w) (hPn:P.length≤500) (hkn:∀ r ∈ P,r.x.ks≠[]) (hkt:(bq (P.map SR.x)).length < 1000000) (hol:out.length < 80000)
    (hk:∀ d2 w2 vo2 L o2,EmO d2 w2 O A vo2 (out++o2)→L.Perm (P.map SR.x)→px L→FlR L o2→Gk (sM c) d w d2 w2→(∀ g,vo2.ownBlock=some g→w.heap.size≤g∨c g < 8)→k (.tuple #[]) w2) :
    aX prog 85 #[.pointer (some ⟨F,0,none⟩)] k w:=by
 obtain ⟨pa,pcap,rfl,_⟩:=ao s.pown
 have f9:=s.f9
 have f3:=s.f3
 have cF:=s.core.cF
 refine ae [] func85 ?_
 refine dU @f9 @f3 ?_
 obtain ⟨c1,hc1⟩:∃ c1:Nat→Nat,c1=fun b=>if c b=6 then 5 else c b:=⟨_,rfl⟩
 have hle:∀ b,c b < 5→c1 b=c b:=fun b hb=>by rw [hc1]; exact if_neg (by omega)
 refine uF (s.core.recolor hle) hinc s.pown s.pgood (fun g hg=>⟨by rw [hc1]; exact if_pos (s.pc g hg).1,(s.pc g hg).2⟩) (by omega) hkn hkt (by omega) fun d2 w2 c2 vo2 vf2 lf2 L o2 hC hp hs hf G hcc _ => ?_
 have nF:¬ fM c1 F 9:=fun hm=>by
  have:=hle F (by omega)
  unfold fM at hm
  omega
 have f9_2:=G.k.some f9 nF
 have fz2:=hC.fz
 refine dU @f9_2 @fz2 ?_
 have ks:Keep (fun b o=>b=F∧o=9) w2 (w2.setCell ⟨F,9,none⟩ (.bool true)):=bW ⟨rfl,rfl⟩
 have hC3:=hC.keep3 ks fun b o hm => .inl ⟨by rw [hm.1]; exact hC.cF,by omega⟩
 have cc:∀ b,c1 b≤5→c b < 8:=fun b hb=>by
  rw [hc1] at hb
  simp only at hb
  split at hb <;> omega
 refine hk d2 _ vo2 L o2 hC3.em hp hs hf ⟨(G.k.mono fun b o _ hm => ?_).tr ks fun b o hb hm => ?_,G.i,G.j.keep ks fun b o hm=>by rw [hm.1]; exact hC.oF o,G.o⟩ fun g hg => ?_
 ·unfold fM at hm
  exact cc b (by omega)
 ·unfold sM; rw [hm.1]; omega
 ·rcases aG g w.heap.size with h1 | h1
  ·have:=hC.c3 g hg
   rw [hcc g h1] at this
   exact .inr (cc g (by omega))
  ·exact .inl h1
theorem xh {O:Nat} (hk:∀ w2 F A,bj w w2→w.heap.size≤A→A < F→F < w2.heap.size→w2.cell? ⟨A,0,none⟩=some (.pointer (some ⟨O,0,none⟩))→(∀ o u,(#[.func (.func 102) #[] #[],.nilFunc,.func (.func 117) #[] #[.pointer (some ⟨A,0,none⟩)],.slice none 0 0,.slice none 0 0,.nilFunc,.slice none 0 0,.slice none 0 0,.slice none 0 0,.bool false]:Array Value)[o]? = some u→w2.cell? ⟨F,o,none⟩=some u)→(∀ y,w2.frozen? ⟨F,y,none⟩=false)→k (.pointer (some ⟨F,0,none⟩)) w2) :
    aX prog 82 #[.pointer (some ⟨O,0,none⟩)] k w:=by
 refine ae [.tmp 2] func82 ?_
 refine an ?_
 refine ez ?_
 have c0:((w.alloc (.cells #[.pointer (some ⟨O,0,none⟩)] 192)).alloc pZ).cell? ⟨w.heap.size+1,0,none⟩=some (.func (.func 102) #[] #[]):=by
  unfold pZ
  exact bk @aA
 refine bf @c0 ?_
 refine hk _ _ _ (((aM _).trans (aM _)).trans (aM _)) (aE _) (by omega) (by simp only [World.size_alloc]; omega) (by exact bk @aA) (fun o u hu => ?_) fun y => ?_
 ·rw [aA (by simp only [World.size_alloc]; omega) (by simp only [World.size_alloc]; omega)]
  exact hu
 ·exact dA (by simp only [World.size_alloc]; omega) (by simp only [World.size_alloc]; omega)
set_option maxHeartbeats 1000000 in
theorem py {v:Value} {l:List Sp} (hv:Sl eJ 3 d v l) (hl:l.length≤300) (hlen:∀ x ∈ l,wm x) (hlt:∀ x ∈ l,x.s < x.e) (hne:∀ x ∈ l,x.ks≠[]) (hs:l.Pairwise fun a b=>¬ b.s < a.s) (hkt:(bq l).length < 1000000) (hinc:cN d w)
    (hk:∀ d' w' v' F,Gr d w d' w'→Sl eJ 3 d' v' F→FrOut l F→k v' w'):aX prog 51 #[v] k w:=by
 obtain ⟨ka,kc,rfl⟩:=hv.form
 refine ae [.tmp 2] func51 ?_
 refine an ?_
 obtain ⟨O,hO⟩:∃ O,O=w.heap.size:=⟨_,rfl⟩
 obtain ⟨w1,hw1⟩:∃ w1,w1=w.alloc (.cells #[.slice none 0 0] 74):=⟨_,rfl⟩
 have x1:bj w w1:=by rw [hw1]; exact aM _
 have z1:w1.heap.size=w.heap.size+1:=by rw [hw1,World.size_alloc]
 have cO:w1.cell? ⟨O,0,none⟩=some (.slice none 0 0):=by rw [hw1,hO]; exact bk @aA
 have fO:∀ y,w1.frozen? ⟨O,y,none⟩=false:=fun y=>by rw [hw1,hO]; exact dA (aE _) (Nat.lt_succ_self _)
 rw [← hw1,← hO]
 refine xh fun w2 F A x2 hA hF hF2 cA cF fF => ?_
 refine an ?_
 have x12:=x1.trans x2
 have hinc2:=hinc.trans x12.inc
 obtain ⟨c0,hc0⟩:∃ c0:Nat→Nat,c0=fun b=>if b=F then 0 else if b=O then 1 else if b=A then 2 else 9:=⟨_,rfl⟩
 have cc0:∀ b,b < w.heap.size→c0 b=9:=fun b hb=>by rw [hc0]; simp only; rw [if_neg (by omega),if_neg (by omega),if_neg (by omega)]
 have on:∀ {el:TypeId} {n:Nat},w2.ownsRow 0 el n (.slice none 0 0) 0 []:=dq
 have core0:FrC c0 d w2 F O A (.slice none 0 0) [] (.slice none 0 0) []:=⟨⟨cA,x2.cell cO,fun y=>by rw [x2.frozen O y (aD cO)]; exact fO y,[],OwnL.nil dq⟩,cF 0 _ rfl,cF 2 _ rfl,by rw [cF 5 _ rfl]; rfl,by rw [cF 6 _ rfl]; rfl,⟨cF 7 _ rfl,dq,by simp⟩,fF,hinc.out (by omega),hinc.out (by omega),
  by rw [hc0]; simp,by rw [hc0]; show (if O=F then 0 else if O=O then 1 else if O=A then 2 else 9)=1; rw [if_neg (by omega),if_pos rfl],by rw [hc0]; show (if A=F then 0 else if A=O then 1 else if A=A then 2 else 9)=2; rw [if_neg (by omega),if_neg (by omega),if_pos rfl],by simp [Value.ownBlock],by simp [Value.ownBlock]⟩
 have s0:FrS c0 d w2 F O A (.slice none 0 0) [] (.slice none 0 0) [] (.slice none 0 0) [] (.slice none 0 0) (.slice none 0 0) []:=⟨core0,cF 3 _ rfl,dq,by simp,by simp [Value.ownBlock],cF 4 _ rfl,dq,by simp [Value.ownBlock],cF 8 _ rfl,⟨0,[],dq⟩,by simp [Value.ownBlock],.inl rfl,cF 9 _ rfl⟩
 have sub:∀ i,(bq (l.take i)).length≤(bq l).length:=fun i=>by
  have:bq l=bq (l.take i)++bq (l.drop i):=by
   unfold bq
   rw [← bP,cm]
  rw [this,aJ]; omega
 refine bR (fun i:Nat=>[(3,.pointer (some ⟨O,0,none⟩)),(4,.pointer (some ⟨F,0,none⟩)),(8,.slice ka l.length kc),(9,.int .i64 l.length),(10,.int .i64 i)])
  (fun i w'=>∃ (c':Nat→Nat) (d':World) (vo vf:Value) (lf:List KR) (vp:Value) (P:List SR) (vd vk:Value) (q:Bytes) (out:List Sp),i≤l.length∧FrS c' d' w' F O A vo out vf lf vp P vd vk q∧FrI (l.take i) (P.map SR.x) out q∧(i=0∧P=[]∧out=[]∧vk = .slice none 0 0∨P≠[]∧∃ j y,i=j+1∧l[j]? = some y∧q=y.s)∧Gr d w d' w'∧∀ b,b < w.heap.size→c' b=9)
  (fun i _=>l.length - i) 0 (by kernel_rfl) ?_ ⟨c0,d,_,_,_,_,[],_,_,[],[],aP _,s0,AK [],.inl ⟨rfl,rfl,rfl,rfl⟩,Gr.ext hinc x12,cc0⟩ ?_
 ·exact bO
 clear s0 core0 cA cF fF cO fO
 rintro K2 e i w3 ⟨c3,d3,vo,vf,lf,vp,P,vd,vk,q,out,hi0,s,I,hst,g3,hc3⟩ hK2
 have hPn:P.length≤300:=by
  have:=I.len
  rw [aS,bB] at this
  omega
 have hkn:∀ r ∈ P,r.x.ks≠[]:=fun r hr=>I.j.pa.ne _ (List.mem_map_of_mem hr)
 have hkP:(bq (P.map SR.x)).length < 1000000:=fT (Bs I) (fT (sub i) hkt)
 have hol:out.length < 80000:=by
  have:=Dv I.j.ch fun f hf=>(I.j.str f (List.mem_append_left _ hf)).1
  rw [bB] at this
  omega
 have hM3:∀ b (o:Nat),b < w.heap.size→¬ sM c3 b o:=fun b o hb hm=>by
  unfold sM at hm
  rw [hc3 b hb] at hm
  omega
 rcases aG i l.length with hi | hi
 rotate_left
 ·have hi':¬ (i:Int) < l.length:=by omega
  obtain rfl:i=l.length:=by omega
  rw [ah] at I
  refine bf @hi' ?_
  refine zO s g3.j (by omega) hkn hkP hol fun d5 w5 vo5 L o5 em5 hp5 hs5 hf5 G5 hb5 => ?_
  have g5:=g3.gk G5 hM3
  obtain ⟨css,oo⟩:=em5.oo
  obtain ⟨d6,g6,_,_,s6⟩:=oo.grown eJ.mono g5 fun b hb=>by
   rcases hb5 b hb with h1 | h1
   ·exact ai g3.x.size h1
   ·rcases aG b w.heap.size with h2 | h2
    ·rw [hc3 b h2] at h1; omega
    ·exact h2
  have cO5:=em5.cO
  obtain ⟨a6,c6,rfl⟩:=s6.form
  refine bf @cO5 ?_
  obtain ⟨f1,f2,f3,f4,f5⟩:=Ep I hp5 hs5 hf5
  exact hk d6 w5 _ (out++o5) g6 s6 ⟨f1,f2,f3,f4,f5⟩
 have hi':(i:Int) < l.length:=by omega
 obtain ⟨g,f,c,hv',hc,hat⟩:=(hv.inc eJ.mono g3.i).at (by omega)
 obtain ⟨rfl,rfl⟩:=sEq hv'
 obtain ⟨x,hx⟩:=gEl hi
 have hxm:=aK hx
 obtain ⟨h0,h1,a,cc,h2,hkx⟩:=eL (hat i x hx)
 have h0:=g3.j _ _ _ h0
 have h1:=g3.j _ _ _ h1
 have h2:=g3.j _ _ _ h2
 have hlx:=hlen x hxm
 obtain ⟨w4,hw4⟩:∃ w4,w4=w3.alloc (.cells #[.string ⟨x.s.toArray⟩,.string ⟨x.e.toArray⟩,.slice a x.ks.length cc] 56):=⟨_,rfl⟩
 have x4:bj w3 w4:=by rw [hw4]; exact aM _
 refine gq @hi' @h0 @h1 @h2 @aA ?_
 rw [← hw4]
 have g34:Gr d3 w3 d3 w4:=Gr.ext g3.j x4
 refine r8 (x:=x) hkx hlx g34.j fun d5 w5 sa ea v5 g5 q1 q2 q3 q4 q5 => ?_
 have g35:=g34.trans g5
 have s5:=s.gr g35
 have g05:=g3.trans g35
 obtain ⟨sb,sbc,rfl⟩:=ak q2
 obtain ⟨eb,ebc,rfl⟩:=ak q4
 obtain ⟨k5,c5,rfl⟩:=q5.form
 refine an ?_
 refine Et (x:=x) s5 g5.j q2 q4 q1 q3 q5 (hlt x hxm) (by have:=hlx.1; omega) ?_ (by omega) hkn hkP hol fun d6 w6 c6 vo6 vf6 lf6 vp6 P6 vd6 vk6 o6 S6 hcase G6 hc6 => ?_
 ·rcases hst with ⟨_,e1,_,e3⟩ | ⟨e1,j,y,rfl,hy,rfl⟩
  ·exact .inl ⟨e1,e3⟩
  ·refine .inr ⟨e1,fun r hr=>I.j.pa.s _ (List.mem_map_of_mem hr),?_⟩
   obtain ⟨hj1,e1⟩:=aR.1 hy
   obtain ⟨hj2,e2⟩:=aR.1 hx
   have:=bK.1 hs j (j+1) hj1 hj2 (by omega)
   rw [e1,e2] at this
   exact this
 ·have g6:=g05.gk G6 hM3
  have ht:l.take (i+1)=l.take i++[x]:=bw hx
  refine an ?_
  refine hK2 _ _ (i+1) ?_ ⟨c6,d6,vo6,vf6,lf6,vp6,_,vd6,vk6,x.s,out++o6,hi,S6,?_,.inr ⟨by simp,i,x,rfl,hx,rfl⟩,g6,fun b hb => ?_⟩ (by omega)
  ·exact bO
  ·rw [ht,bH]
   rcases hcase with ⟨hc,rfl,rfl⟩ | ⟨hP,hq,h5,L,hp,hs',hf⟩
   ·rw [av]
    rcases hst with ⟨rfl,rfl,rfl,_⟩ | ⟨e1,_⟩
    ·exact xd (AK x.s) rfl (hlt x hxm) (hne x hxm)
    ·rcases hc with hc | hc
     ·exact absurd hc e1
     ·subst hc
      exact xd I rfl (hlt x hxm) (hne x hxm)
   ·rw [h5]
    exact Dp I hq (hlt x hxm) (hne x hxm) hp hs' hf
  ·rw [hc6 b (aI hb g05.x.size)]
   exact hc3 b hb
end
end Go.Proofs
end
section
namespace Go.E
open Go Go.Sort Go.Proofs
theorem Ev {t:Nat} (h:t < 18446744073709551616):ir 18446744073709551615 t=true:=by
 unfold ir
 rw [Bool.or_eq_true]
 left
 rw [decide_eq_true_eq]
 omega
theorem Ew {t:Nat} (h:t < 18446744073709551616):ir 72057594037927935 t=true:=by
 unfold ir
 rw [Bool.or_eq_true]
 by_cases h1:t / 256 < 72057594037927935
 ·left; exact aU h1
 ·right
  have:t / 256=72057594037927935:=by omega
  rw [this]
  decide
theorem GZ {snap:Nat} {a b:List K} (ha:Cd a) (hb:Cd b) (hs:∀ x ∈ a,x ∈ b) (h1:∀ x ∈ b,yX snap b x=true→x ∈ a) (h2:∀ x ∈ a,yX snap a x=true→yX snap b x=true):Tf snap a=Tf snap b:=by
 refine oV (mU ha) (mU hb) fun x => ?_
 rw [lC,lC]
 constructor
 ·rintro ⟨p,q⟩
  exact ⟨hs x p,h2 x p q⟩
 ·rintro ⟨p,q⟩
  refine ⟨h1 x p q,?_⟩
  rw [gS] at q ⊢
  exact ⟨q.1,q.2.1,fun y hy=>q.2.2 y (hs y hy)⟩
structure CoK (a b:List K):Prop where
 ne:b≠[]
 sub:∀ x ∈ b,x ∈ a
 len:b.length≤a.length+1
 cd:Cd b
 tf:(Tf 72057594037927935 b).map K.sv=(Tf 72057594037927935 a).map K.sv
theorem FO {l:List KR} (hc:Cd (l.map KR.k)) (hd:qv (l.map KR.k)):DK l:=by
 have h1:=hc.dist
 unfold qv at hd
 rw [List.pairwise_map] at h1 hd
 unfold DK
 refine (h1.and hd).imp ?_
 rintro x y ⟨p,q⟩
 exact ⟨q,fun e=>by have:=p e; omega⟩
theorem Ga {l r L:List KR} (hc:Cd (l.map KR.k)) (hd:qv (l.map KR.k)) (hv:∀ x ∈ l,x.k.tr < 18446744073709551616) (hr:CoR 18446744073709551615 l r) (hl:r.length≤l.length) (hn:l≠[]) (hp:L.Perm (r++(gP 18446744073709551615 l).toList)):CoK (l.map KR.k) (L.map KR.k):=by
 have hk:=FO hc hd
 obtain ⟨M,hM⟩:∃ M,M=18446744073709551615:=⟨_,rfl⟩
 have hvM:∀ x ∈ l,ir M x.k.tr=true:=fun x hx=>by rw [hM]; exact Ev (hv x hx)
 rw [← hM] at hr hp
 have hkd:∀ x ∈ l,bI x.k.tr=19∨bI x.k.tr=20∨bI x.k.tr=21:=fun x hx=>hc.kind _ (List.mem_map_of_mem hx)
 have hmem:∀ x,x ∈ L↔x ∈ r∨gP M l=some x:=fun x=>by
  rw [hp.mem_iff,aV,Option.mem_toList]
 have hsub:∀ x ∈ L,x ∈ l:=fun x hx=>by
  rcases (hmem x).1 hx with h | h
  ·exact hr.sub h
  ·exact oS h
 have hdel:∀ x z,x ∈ r→gP M l=some z→z.k.tr < x.k.tr:=fun x z hx hz =>
  ((iE hk x).1 ((hr.mem x).1 hx).1).2.2.2 z (oS hz) (hvM z (oS hz)) (mX hz)
 have hcd:Cd (L.map KR.k):=by
  refine ⟨?_,fun x hx => ?_⟩
  ·rw [List.pairwise_map]
   refine (List.Perm.pairwise_iff (fun {x y} h e e2=>h e.symm e2.symm) hp).2 (List.pairwise_append.2 ⟨hr.sorted.imp fun {x y} h e=>absurd h (by rw [e]; exact bA _),?_,fun x hx z hz _ => ?_⟩)
   ·cases gP M l <;> simp
   ·have:=hdel x z hx (by simpa using hz)
    omega
  ·obtain ⟨y,hy,rfl⟩:=bU.1 hx
   exact hkd y (hsub y hy)
 refine ⟨fun h0 => ?_,fun x hx => ?_,?_,hcd,?_⟩
 ·have h0:L=[]:=by simpa using h0
  subst h0
  obtain ⟨x,l',rfl⟩:=List.exists_cons_of_ne_nil hn
  have hx:=hvM x aO
  by_cases h9:bI x.k.tr=19
  ·have:gP M (x :: l')=some x:=by unfold gP; rw [if_pos hx,if_pos h9]
   have:=(hmem x).2 (.inr this)
   simp at this
  ·have hx1:x ∈ jG M (x :: l'):=by unfold jG; rw [if_pos hx,if_neg h9]; exact aO
   have:x ∈ r:=(hr.mem x).2 ⟨hx1,fun y hy _=>by
    rcases al.1 (jX.subset hy) with rfl | h
    ·exact aE _
    ·exact (bJ hk h).1⟩
   have:=(hmem x).2 (.inl this)
   simp at this
 ·obtain ⟨y,hy,rfl⟩:=bU.1 hx
  exact List.mem_map_of_mem (hsub y hy)
 ·have:=hp.length_eq
  rw [aJ] at this
  rw [aS,aS]
  have h2:(gP M l).toList.length≤1:=by cases gP M l <;> simp
  omega
 ·refine congrArg (List.map K.sv) (GZ hcd hc (fun x hx => ?_) (fun x hx hw => ?_) fun x hx hw => ?_)
  ·obtain ⟨y,hy,rfl⟩:=bU.1 hx
   exact List.mem_map_of_mem (hsub y hy)
  ·obtain ⟨y,hy,rfl⟩:=bU.1 hx
   obtain ⟨q1,q2,q3⟩:=gS.1 hw
   have hv2:∀ z ∈ l,ir 72057594037927935 z.k.tr=true:=fun z hz=>Ew (hv z hz)
   have hp1:y ∈ jG M l:=(iE hk y).2 ⟨hy,hvM y hy,by omega,fun z hz _ h9=>(q3 z.k (List.mem_map_of_mem hz) (hv2 z hz)).1 h9⟩
   refine List.mem_map_of_mem ((hmem y).2 (.inl ((hr.mem y).2 ⟨hp1,fun z hz e => ?_⟩)))
   have hzl:=jX.subset hz
   exact (q3 z.k (List.mem_map_of_mem hzl) (hv2 z hzl)).2 ((iE hk z).1 hz).2.2.1 e
  ·obtain ⟨y,hy,rfl⟩:=bU.1 hx
   obtain ⟨q1,q2,q3⟩:=gS.1 hw
   have hyr:y ∈ r:=by
    rcases (hmem y).1 hy with h | h
    ·exact h
    ·have:=mX h; omega
   obtain ⟨y1,y2⟩:=(hr.mem y).1 hyr
   obtain ⟨_,_,_,y3⟩:=(iE hk y).1 y1
   refine gS.2 ⟨q1,q2,fun z hz hzv => ?_⟩
   obtain ⟨z,hzl,rfl⟩:=bU.1 hz
   refine ⟨fun h9=>y3 z hzl (hvM z hzl) h9,fun h9 e => ?_⟩
   by_cases hzp:z ∈ jG M l
   ·exact y2 z hzp e
   ·refine Classical.byContradiction fun hlt=>hzp ((iE hk z).2 ⟨hzl,hvM z hzl,h9,fun u hu hv' h9' => ?_⟩)
    have:=y3 u hu hv' h9'
    omega
inductive CoL:List Sp→List Sp→Prop
 | nil:CoL [] []
 | snoc {F G:List Sp} {f:Sp} {ks:List K} (h:CoL F G) (hk:CoK f.ks ks):CoL (F++[f]) (G++[⟨f.s,f.e,ks⟩])
theorem CoL.len {F G:List Sp} (h:CoL F G):G.length=F.length:=by
 induction h with
 | nil=>rfl
 | snoc h hk ih=>rw [aJ,aJ,ih]; rfl
theorem CoL.mem {F G:List Sp} (h:CoL F G):∀ g ∈ G,∃ f ∈ F,g.s=f.s∧g.e=f.e∧CoK f.ks g.ks:=by
 induction h with
 | nil=>simp
 | @snoc F G f ks h hk ih =>
  intro g hg
  rcases aV.1 hg with hg | hg
  ·obtain ⟨f,hf,q⟩:=ih g hg
   exact ⟨f,List.mem_append_left _ hf,q⟩
  ·obtain rfl:=aQ.1 hg
   exact ⟨f,by simp,rfl,rfl,hk⟩
theorem CoL.ch {F G:List Sp} (h:CoL F G) (hc:Ch F):Ch G:=by
 refine ⟨fun g hg => ?_,?_⟩
 ·obtain ⟨f,hf,e1,e2,_⟩:=h.mem g hg
  rw [e1,e2]; exact hc.1 f hf
 ·have hp:=hc.2
  clear hc
  induction h with
  | nil=>exact .nil
  | @snoc F G f ks h hk ih =>
   obtain ⟨p1,_,p3⟩:=List.pairwise_append.1 hp
   refine List.pairwise_append.2 ⟨ih p1,by simp,fun a ha b hb => ?_⟩
   obtain rfl:=aQ.1 hb
   obtain ⟨f',hf',_,e2,_⟩:=h.mem a ha
   rw [e2]
   exact p3 f' hf' f (by simp)
theorem CoL.pt {F G:List Sp} (h:CoL F G) (hc:Ch F) (x:Bytes):fZ F x=[]∧fZ G x=[]∨CoK (fZ F x) (fZ G x):=by
 induction h with
 | nil=>exact .inl ⟨rfl,rfl⟩
 | @snoc F G f ks h hk ih =>
  have hc1:Ch F:=⟨fun s hs=>hc.1 s (List.mem_append_left _ hs),(List.pairwise_append.1 hc.2).1⟩
  have h1:∀ k,fZ [⟨f.s,f.e,k⟩] x=if eK x f then k else []:=fun k=>by
   rw [pE]
   show (if eK x ⟨f.s,f.e,k⟩ then k else [])++[]=_
   rw [av]
   rfl
  have h1f:fZ [f] x=if eK x f then f.ks else []:=h1 f.ks
  rw [dW,dW,h1f,h1 ks]
  by_cases hx:eK x f=true
  ·rw [if_pos hx,if_pos hx]
   have hnF:∀ s,s.s < s.e→¬ f.s < s.e→eK x s=false:=fun s _ hs=>Bool.eq_false_iff.2 fun h=>(dz.1 hx).1 (bm (dz.1 h).2 hs)
   have e1:fZ F x=[]:=kV fun s hs=>hnF s (hc1.1 s hs) ((List.pairwise_append.1 hc.2).2.2 s hs f (by simp))
   have e2:fZ G x=[]:=kV fun s hs=>by
    obtain ⟨f',hf',q1,q2,_⟩:=h.mem s hs
    exact hnF s (by rw [q1,q2]; exact hc1.1 f' hf') (by rw [q2]; exact (List.pairwise_append.1 hc.2).2.2 f' hf' f (by simp))
   rw [e1,e2]
   exact .inr hk
  ·rw [if_neg hx,if_neg hx,av,av]
   exact ih hc1
end Go.E
end
section
namespace Go.E
open Go Go.Sort Go.Proofs Go.Proofs.Tryz
theorem Dx {d:World}:∀ {l:List K} {css:List (List Value)},css.length=l.length→(∀ (i:Nat) (x:K) (cs:List Value),l[i]? = some x→css[i]? = some cs→KB d cs x)→∃ rs:List KR,rs.map KR.k=l∧css.flatten=flat rs∧∀ r ∈ rs,r.good d:=by
 intro l
 induction l with
 | nil =>
  intro css h _
  obtain rfl:css=[]:=aZ.1 h
  exact ⟨[],rfl,rfl,by simp⟩
 | cons x l ih =>
  intro css h hR
  match css,h with
  | cs :: css,h =>
   obtain ⟨rs,h1,h2,h3⟩:=ih (css:=css) (by simpa using h) fun i y c hy hc=>hR (i+1) y c (by simpa using hy) (by simpa using hc)
   obtain ⟨a,b,rfl,q1,q2,q3⟩:=hR 0 x cs rfl rfl
   refine ⟨⟨x,a,b⟩ :: rs,by rw [List.map_cons,h1],by rw [List.flatten_cons,h2]; rfl,fun r hr => ?_⟩
   rcases al.1 hr with rfl | hr
   ·exact ⟨q1,q2,q3⟩
   ·exact h3 r hr
theorem LoopL.krows {d w d1 w1:World} {v:Value} {l:List K} (h:LoopL KB 3 256 d w d1 w1 v l):∃ rs:List KR,rs.map KR.k=l∧w1.ownsRow 0 256 3 v rs.length (flat rs)∧(∀ r ∈ rs,r.good d1)∧∀ g,v.ownBlock=some g→cx d1 g∧w.heap.size≤g:=by
 obtain ⟨css,o⟩:=h.o
 obtain ⟨rs,h1,h2,h3⟩:=Dx o.len o.R
 refine ⟨rs,h1,?_,h3,fun g hg=>⟨o.out g hg,h.n g hg⟩⟩
 have:=o.own
 rw [h2] at this
 rwa [← h1,aS] at this
end Go.E
namespace Go.Proofs
open Go Go.E Go.Sort Go.Proofs.Tryz
section
variable {k:au} {d w:World}
theorem vL {Hb:Nat} {v:Value} {l:List KR} (h:KOwn d w Hb 0 v l) (hinc:cN d w) (hne:∀ g,v.ownBlock=some g→g≠Hb∧cx d g) (hz:l.length < 1000000)
    (hk:∀ w' l',KOwn d w' Hb 0 v l'→l'.Perm l→l'.Pairwise (fun x y=>y.k.tr≤x.k.tr)→Keep (fun b _=>v.ownBlock=some b) w w'→k (.tuple #[]) w') :
    aX prog 125 #[.pointer (some ⟨Hb,0,none⟩)] k w:=by
 refine ae [] func125 ?_
 refine an ?_
 refine mW h hinc hne hz fun w' l' h1 h2 h3 h4 => ?_
 refine an ?_
 exact hk w' l' h1 h2 h3 h4
theorem vM {D:Nat} {kv:Value} {rs:List KR} (cD:w.cell? ⟨D,0,none⟩=some (.slice none 0 0)) (fD:∀ y,w.frozen? ⟨D,y,none⟩=false) (oD:cx d D) (own:w.ownsRow 0 256 3 kv rs.length (flat rs)) (good:∀ r ∈ rs,r.good d) (hout:∀ g,kv.ownBlock=some g→cx d g)
    (hinc:cN d w) (hdk:DK rs) (hl:rs.length < 50000) (hn:rs≠[])
    (hk:∀ w' v' L r,KOwn d w' D 0 v' L→L.Perm (r++(gP 18446744073709551615 rs).toList)→CoR 18446744073709551615 rs r→r.length≤rs.length→Keep (fun b o=>b=D∧o=0) w w'→k .nilIface w') :
    aX prog 90 #[.func (.func 102) #[] #[],.func (.func 103) #[] #[],kv,.pointer (some ⟨D,0,none⟩)] k w:=by
 have hpos:0 < rs.length:=List.length_pos_iff.2 hn
 obtain ⟨gk,cap,rfl,hgl⟩:∃ g c,kv = .slice (some ⟨g,0,none⟩) rs.length c∧g < w.heap.size:=by
  rcases cR own with ⟨_,h,_⟩ | ⟨g,c,h,_,h2⟩
  ·omega
  ·exact ⟨g,c,h,h2⟩
 have hDl:=aD cD
 have z0:(0:Int).toNat=0:=rfl
 have zc:(0:Int)≤((0:Nat):Int):=by omega
 refine ae [.tmp 8] func90 ?_
 simp (disch:=first | exact dZ | fail) only [go_sem,cD,qq Tryz.es110,z0,zc]
 obtain ⟨H,hH⟩:∃ H,H=w.heap.size:=⟨_,rfl⟩
 obtain ⟨w1,hw1⟩:∃ w1,w1=w.alloc (.cells #[.func (.func 102) #[] #[],.slice none 0 0] 170):=⟨_,rfl⟩
 have x1:bj w w1:=by rw [hw1]; exact aM _
 have c0:w1.cell? ⟨H,0,none⟩=some (.func (.func 102) #[] #[]):=by rw [hw1,hH]; exact bk @aA
 have c1:w1.cell? ⟨H,1,none⟩=some (.slice none 0 0):=by rw [hw1,hH]; exact bk @aA
 have fH:∀ y,w1.frozen? ⟨H,y,none⟩=false:=fun y=>by rw [hw1,hH]; exact dA (aE _) (Nat.lt_succ_self _)
 rw [← hw1,← hH]
 have oH:cx d H:=hinc.out (by omega)
 have own1:=aT own x1 fun _ _ _ h=>h
 refine og (d:=d) (ho:=0) c0 ⟨c1,dq,by simp⟩ fH (by simp [Value.ownBlock]) (gk:=gk) (by omega) (oH _) (fun _=>rfl) (fun i x hx => ?_) (fun _=>aI hgl x1.size) good (hinc.trans x1.inc) hdk (by omega) (by decide) fun w2 vs r k2 hr hrl kk2 n2 => ?_
 ·obtain ⟨f1,f2,f3⟩:=jh hx
  exact ⟨bL own1 f1,bL own1 f2,bL own1 f3⟩
 have nD:∀ o,¬ iJ H 1 (.slice none 0 0) D o:=by
  rintro o (⟨h,_⟩ | h)
  ·omega
  ·simp [Value.ownBlock] at h
 have cD2:=kk2.some (x1.cell cD) (nD 0)
 have fD2:∀ y,w2.frozen? ⟨D,y,none⟩=false:=fun y=>by rw [kk2.frozen D y (aI hDl x1.size),x1.frozen D y hDl]; exact fD y
 obtain ⟨va,vc,rfl,_⟩:=ao k2.own
 have h1:=k2.hd
 have k12:bj w w2:=x1.tr kk2 fun b o hb hm=>by
  rcases hm with ⟨h,_⟩ | h
  ·omega
  ·simp [Value.ownBlock] at h
 refine eA @h1 @cD2 @fD2 ?_
 obtain ⟨w3,hw3⟩:∃ w3,w3=w2.setCell ⟨D,0,none⟩ (.slice va (r++(gP 18446744073709551615 rs).toList).length vc):=⟨_,rfl⟩
 have kk3:Keep (fun b o=>b=D∧o=0) w2 w3:=by rw [hw3]; exact bW ⟨rfl,rfl⟩
 have nv:∀ g,(Value.slice va (r++(gP 18446744073709551615 rs).toList).length vc).ownBlock=some g→g≠D∧cx d g∧w.heap.size≤g:=fun g hg=>by
  rcases n2 g hg with h | h
  ·simp [Value.ownBlock] at h
  ·have:=x1.size
   exact ⟨by omega,hinc.out (by omega),by omega⟩
 have k3:KOwn d w3 D 0 (.slice va (r++(gP 18446744073709551615 rs).toList).length vc) (r++(gP 18446744073709551615 rs).toList):=⟨by rw [hw3,bu,cD2]; rfl,aT k2.own kk3 fun g hg o hm=>(nv g hg).1 hm.1,k2.good⟩
 have hinc3:cN d w3:=(hinc.trans k12.inc).keep kk3 fun b o hm=>by rw [hm.1]; exact oD o
 have hlen:(r++(gP 18446744073709551615 rs).toList).length < 1000000:=by
  rw [aJ]
  have:(gP 18446744073709551615 rs).toList.length≤1:=by cases gP 18446744073709551615 rs <;> simp
  omega
 rw [← hw3]
 refine vL k3 hinc3 (fun g hg=>⟨(nv g hg).1,(nv g hg).2.1⟩) hlen fun w4 L k4 hp4 hs4 kk4 => ?_
 refine an ?_
 exact hk w4 _ L r k4 hp4 hr hrl ((k12.keep.tr kk3 fun b o hb hm=>hm).tr kk4 fun b o hb hm=>by have:=(nv b hm).2.2; omega)
set_option maxHeartbeats 1000000 in
theorem pG {v:Value} {ks:List K} (hv:Sl KE 3 d v ks) (hl:ks.length < 50000) (hlen:∀ x ∈ ks,wk x) (hn:ks≠[]) (hc:Cd ks) (hd:qv ks) (hinc:cN d w) (hk:∀ d' w' v' L,Gr d w d' w'→Sl KE 3 d' v' L→CoK ks L→k (.tuple #[v',.bool true]) w'):aX prog 54 #[v] k w:=by
 obtain ⟨ka,kc,rfl⟩:=hv.form
 refine ae [.tmp 2,.tmp 3] func54 ?_
 refine an ?_
 obtain ⟨D,hD⟩:∃ D,D=w.heap.size:=⟨_,rfl⟩
 obtain ⟨w1,hw1⟩:∃ w1,w1=w.alloc (.cells #[.slice none 0 0] 110):=⟨_,rfl⟩
 have x1:bj w w1:=by rw [hw1]; exact aM _
 have z1:w1.heap.size=w.heap.size+1:=by rw [hw1,World.size_alloc]
 have cD:w1.cell? ⟨D,0,none⟩=some (.slice none 0 0):=by rw [hw1,hD]; exact bk @aA
 have fD:∀ y,w1.frozen? ⟨D,y,none⟩=false:=fun y=>by rw [hw1,hD]; exact dA (aE _) (Nat.lt_succ_self _)
 rw [← hw1,← hD]
 refine ez ?_
 obtain ⟨C,hC⟩:∃ C,C=w1.heap.size:=⟨_,rfl⟩
 obtain ⟨w2,hw2⟩:∃ w2,w2=(w1.alloc pZ).drew:=⟨_,rfl⟩
 have c0:w2.cell? ⟨C,0,none⟩=some (.func (.func 102) #[] #[]):=by
  rw [hw2,hC]
  unfold pZ
  exact bk @aA
 have c1:w2.cell? ⟨C,1,none⟩=some (.func (.func 103) #[] #[]):=by
  rw [hw2,hC]
  unfold pZ
  exact bk @aA
 have x2:bj w1 w2:=by rw [hw2]; exact bj.drew' (aM _)
 rw [← hC]
 refine an ?_
 refine ay (sq [0,1,2] (.read 3 (sq [4,5,6] (.read 7 (sq [8] (.eff 9 [3,7] (.eff 10 [] (sq [11] .done)))))))) ?_
 rw [← hw2]
 refine dU @c0 @c1 ?_
 have x12:=x1.trans x2
 have cD2:=x2.cell cD
 have fD2:∀ y,w2.frozen? ⟨D,y,none⟩=false:=fun y=>by rw [x2.frozen D y (aD cD)]; exact fD y
 have oD:cx d D:=hinc.out (by omega)
 have g2:Gr d w d w2:=Gr.ext hinc x12
 refine nG hv (by omega) hlen g2.j fun d3 w3 v3 i3 => ?_
 obtain ⟨rs,e3,own3,good3,out3⟩:=i3.krows
 have cD3:=i3.g.x.cell cD2
 have fD3:∀ y,w3.frozen? ⟨D,y,none⟩=false:=fun y=>by rw [i3.g.x.frozen D y (aD cD2)]; exact fD2 y
 have oD3:=i3.g.o D (aD cD2) oD
 have hrl:rs.length=ks.length:=by rw [← e3,aS]
 have hrn:rs≠[]:=fun h=>hn (by rw [← e3,h]; rfl)
 obtain ⟨va,vc,rfl,_⟩:=ao own3
 have c0:=i3.g.x.cell c0
 have c1:=i3.g.x.cell c1
 refine dU @c0 @c1 ?_
 refine vM cD3 fD3 oD3 own3 good3 (fun g hg=>(out3 g hg).1) i3.g.j (FO (by rw [e3]; exact hc) (by rw [e3]; exact hd)) (by omega) hrn fun w4 v4 L r k4 hp hr hrr kk4 => ?_
 have ck:=Ga (by rw [e3]; exact hc) (by rw [e3]; exact hd) (fun x hx=>(good3 x hx).1) hr hrr hrn hp
 rw [e3] at ck
 have cD4:=k4.hd
 obtain ⟨ua,uc,rfl,_⟩:=ao k4.own
 have hLl:L.length < 1000000:=by
  have:=ck.len
  rw [aS] at this
  omega
 have g4:Gr d w d3 w4:=⟨(x12.trans i3.g.x).tr kk4 fun b o hb hm=>by omega,i3.g.i,i3.g.j.keep kk4 fun b o hm=>by rw [hm.1]; exact oD3 o,fun b hb ho=>i3.g.o b (aI hb x12.size) ho⟩
 refine bf @cD4 ?_
 refine m8 (ks:=L.map KR.k) (lD k4.own rfl (ah ..) k4.good g4.j) (by rw [aS]; exact hLl) g4.j fun d5 w5 v5 g5 s5 => ?_
 obtain ⟨a5,c5,rfl⟩:=s5.form
 refine an ?_
 exact hk d5 w5 _ _ (g4.trans g5) s5 ck
end
end Go.Proofs
end
section
namespace Go.E
open Go Go.Sort Go.Proofs
def JY:iK Bytes:=fun _ cs x=>cs=[str x]
theorem JY.mono:iP JY:=fun _ _ _ _ _ h=>h
end Go.E
namespace Go.Proofs
open Go Go.E Go.Sort
section
variable {k:au} {d w:World}
end
end Go.Proofs
end
