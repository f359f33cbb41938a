/- Parts of the proof: Fh, Xj, Xk, Xt, Fk, Yd, Os. -/
import Derived.Test.YtlmoafgebiffaaaGreatDoorV20
import Derived.Test.YtlmoafgebiffaaaGreatDoorV21
import Derived.Test.YtlmoafgebiffaaaGreatDoorV23
import Derived.Test.YtlmoafgebiffaaaGreatDoorV24
import Derived.Test.YtlmoafgebiffaaaGreatDoorV25
set_option linter.all false
set_option maxRecDepth 10000
section
namespace Go.E
open Go Go.Sort Go.Proofs
section
variable {c:Nat→Nat} {d w w2:World} {F O A:Nat} {vo vf vp vd vk:Value} {out:List Sp} {lf:List KR} {P:List SR} {q:Bytes}
theorem FrS.ext (s:FrS c d w F O A vo out vf lf vp P vd vk q) (x:bp w w2):FrS c d w2 F O A vo out vf lf vp P vd vk q:=by
 obtain ⟨n,xs,ho⟩:=s.kown
 refine ⟨s.core.keep3 x fun _ _ h=>h.elim,x.cell s.f3,aX s.pown x fun _ _ _ h=>h,s.pgood,s.pc,x.cell s.f4,aX s.down x fun _ _ _ h=>h,s.dc,x.cell s.f8,⟨n,xs,aX ho x fun _ _ _ h=>h⟩,s.kc,?_,x.cell s.f9⟩
 rcases s.kb with h | h
 ·exact .inl h
 ·exact .inr (h.inc x.inc)
theorem FrS.color (s:FrS c d w F O A vo out vf lf vp P vd vk q) {c2:Nat→Nat} (hc:∀ b,b < w.heap.size→c2 b=c b):FrS c2 d w F O A vo out vf lf vp P vd vk q:=by
 obtain ⟨n,xs,ho⟩:=s.kown
 exact ⟨s.core.color hc,s.f3,s.pown,s.pgood,fun b hb=>⟨by rw [hc b (s.pown.lt _ hb).2]; exact (s.pc b hb).1,(s.pc b hb).2⟩,s.f4,s.down,fun b hb=>⟨by rw [hc b (s.down.lt _ hb).2]; exact (s.dc b hb).1,(s.dc b hb).2⟩,s.f8,⟨n,xs,ho⟩,fun b hb=>⟨by rw [hc b (ho.lt _ hb).2]; exact (s.kc b hb).1,(s.kc b hb).2⟩,s.kb,s.f9⟩
theorem FrS.push (s:FrS c d w F O A vo out vf lf vp P vd vk q) (hinc:cM d w) {v2:Value} {r:SR} (o2:w2.ownsRow 0 61 4 v2 (P++[r]).length (kM (P++[r]))) (k2:Keep (fun b _=>vp.ownBlock=some b) w w2) (n2:cZ w vp v2) (hr:r.good d) :
    ∃ c2,FrS c2 d (w2.setCell ⟨F,3,none⟩ v2) F O A vo out vf lf v2 (P++[r]) vd vk q∧(∀ b,b < w.heap.size→c2 b=c b)∧Gk (sM c) d w d (w2.setCell ⟨F,3,none⟩ v2):=by
 obtain ⟨n,xs,ho⟩:=s.kown
 obtain ⟨c2,hc2⟩:∃ c2:Nat→Nat,c2=fun b=>if b < w.heap.size then c b else 6:=⟨_,rfl⟩
 have hc:∀ b,b < w.heap.size→c2 b=c b:=fun b hb=>by rw [hc2]; exact if_pos hb
 have lp:∀ b,vp.ownBlock=some b→b < w.heap.size:=fun b hb=>(s.pown.lt _ hb).2
 have hF:=s.core.cF
 have lF:=aC s.core.f0
 have ks:Keep (fun b o=>b=F∧o=3) w2 (w2.setCell ⟨F,3,none⟩ v2):=bY ⟨rfl,rfl⟩
 have kk:Keep (fun b o=>vp.ownBlock=some b∨b=F∧o=3) w (w2.setCell ⟨F,3,none⟩ v2):=(k2.mono fun _ _ _ h => .inl h).tr ks fun _ _ _ h => .inr h
 have nn:∀ {b o},c b≠6→(b=F→o≠3)→¬ (vp.ownBlock=some b∨b=F∧o=3):=fun {b o} h6 h3 hm=>by
  rcases hm with h | ⟨h,h'⟩
  ·exact h6 (s.pc b h).1
  ·exact h3 h h'
 have nF:vp.ownBlock≠some F:=fun h=>by have:=(s.pc F h).1; omega
 have n57:∀ {b o},c b=5∨c b=7→¬ (vp.ownBlock=some b∨b=F∧o=3):=fun {b o} h=>nn (by omega) fun e=>by rw [e] at h; omega
 have nv2:∀ b,v2.ownBlock=some b→c2 b=6∧cj d b:=fun b hb=>by
  rcases n2 b hb with h1 | h1
  ·exact ⟨by rw [hc b (lp b h1)]; exact (s.pc b h1).1,(s.pc b h1).2⟩
  ·exact ⟨by rw [hc2]; exact if_neg (by omega),hinc.out h1⟩
 have inc':cM d (w2.setCell ⟨F,3,none⟩ v2):=hinc.keep kk fun b o hm=>by
  rcases hm with h | ⟨h,_⟩
  ·exact (s.pc b h).2 o
  ·rw [h]; exact s.core.oF o
 have kb':vk = .slice none 0 0∨dR (w2.setCell ⟨F,3,none⟩ v2) vk q:=by
  rcases s.kb with h | h
  ·exact .inl h
  ·refine .inr ?_
   rcases cg ho with ⟨e,_,_⟩ | ⟨g,cap,e,hn,_⟩
   ·rw [e] at h ⊢; exact h
   ·rw [e] at h ⊢
    obtain ⟨h1,h2,h3⟩:=h
    refine ⟨h1,h2,fun i u hu => ?_⟩
    refine kk.some (h3 i u hu) (n57 (.inr (s.kc g (by rw [e]; rfl)).1))
 refine ⟨c2,⟨(s.core.color hc).keep3 kk fun b o hm => ?_,by rw [cJ,k2.some s.f3 nF]; rfl,aX o2 ks fun b hb o hm => ?_,fun z hz => ?_,nv2,kk.some s.f4 (nn (by omega) fun _=>by decide),aX s.down kk fun b hb o=>n57 (.inl (s.dc b hb).1),fun b hb=>⟨by rw [hc b (s.down.lt _ hb).2]; exact (s.dc b hb).1,(s.dc b hb).2⟩,kk.some s.f8 (nn (by omega) fun _=>by decide),⟨n,xs,aX ho kk fun b hb o=>n57 (.inr (s.kc b hb).1)⟩,fun b hb=>⟨by rw [hc b (ho.lt _ hb).2]; exact (s.kc b hb).1,(s.kc b hb).2⟩,kb',kk.some s.f9 (nn (by omega) fun _=>by decide)⟩,hc,kk.mono fun b o hb hm => ?_,cM.refl d,inc',fun _ _ h=>h⟩
 ·rcases hm with h | ⟨h,h'⟩
  ·exact .inr (by rw [hc b (lp b h),(s.pc b h).1]; omega)
  ·exact .inl ⟨by rw [h,hc F lF]; exact hF,.inl h'⟩
 ·have h1:=(nv2 b hb).1
  rw [hm.1,hc F lF] at h1
  omega
 ·rcases aS.1 hz with hz | hz
  ·exact s.pgood z hz
  ·rw [aM.1 hz]; exact hr
 ·unfold sM
  rcases hm with h | ⟨h,_⟩
  ·have:=(s.pc b h).1; omega
  ·rw [h]; omega
end
end Go.E
namespace Go.Proofs
open Go Go.E Go.Sort
section
variable {k:aq} {d w:World}
theorem GN {c:Nat→Nat} {F O A:Nat} {vo vf vp vd vk sv ev kv:Value} {out:List Sp} {lf:List KR} {P:List SR} {q:Bytes} {x:Sp} (s:FrS c d w F O A vo out vf lf vp P vd vk q) (hinc:cM d w)
    (b1:dR d sv x.s) (b2:dR d ev x.e) (b3:rY sv=true) (b4:rY ev=true) (b5:Sl KB 3 d kv x.ks) (hlt:x.s < x.e) (hxl:x.s.length < 10000000000) (hP:(P=[]∧vk = .slice none 0 0)∨(P≠[]∧(∀ r ∈ P,r.x.s=q)∧¬ x.s < q))
    (hPn:P.length≤500) (hkn:∀ r ∈ P,r.x.ks≠[]) (hkt:(cG (P.map SR.x)).length < 1000000) (hol:out.length < 80000)
    (hk:∀ d2 w2 c2 vo2 vf2 lf2 vp2 P2 vd2 vk2 o2,FrS c2 d2 w2 F O A vo2 (out++o2) vf2 lf2 vp2 (P2++[⟨x,sv,ev,kv⟩]) vd2 vk2 x.s→((P=[]∨q=x.s)∧P2=P∧o2=[]∨P≠[]∧q < x.s∧P2.map SR.x=il x.s (P.map SR.x)∧∃ L,L.Perm (jA x.s (P.map SR.x))∧qA L∧FlR L o2)→Gk (sM c) d w d2 w2→(∀ b,b < w.heap.size→c2 b=c b)→k (.tuple #[]) w2) :
    ai Tryz.prog 33 #[.pointer (some ⟨F,0,none⟩),.agg #[sv,ev,kv,.int .i8 0]] k w:=by
 obtain ⟨sa,sc,rfl⟩:=aY b1
 obtain ⟨ea,ec,rfl⟩:=aY b2
 obtain ⟨na,nc,rfl⟩:=b5.form
 obtain ⟨nk,xk,hok⟩:=s.kown
 obtain ⟨fa,fc,rfl,_⟩:=bP hok
 obtain ⟨pa,pcap,rfl,_⟩:=bP s.pown
 refine al [] Tryz.func33 ?_
 obtain ⟨B1,hB1⟩:∃ b,b=w.heap.size:=⟨_,rfl⟩
 obtain ⟨W,hW⟩:∃ W,W=(w.alloc (.cells #[.pointer (some ⟨F,0,none⟩)] 77)).alloc (.cells #[.slice sa x.s.length sc,.slice ea x.e.length ec,.slice na x.ks.length nc,.int .i8 0] 61):=⟨_,rfl⟩
 have xW:bp w W:=by rw [hW]; exact (aJ _).trans (aJ _)
 have t0:W.cell? ⟨B1,0,none⟩=some (.pointer (some ⟨F,0,none⟩)):=by rw [hW,hB1]; exact bX @aA
 have a0:W.cell? ⟨B1+1,0,none⟩=some (.slice sa x.s.length sc):=by rw [hW,hB1]; exact bX @aA
 have a1:W.cell? ⟨B1+1,1,none⟩=some (.slice ea x.e.length ec):=by rw [hW,hB1]; exact bX @aA
 have a2:W.cell? ⟨B1+1,2,none⟩=some (.slice na x.ks.length nc):=by rw [hW,hB1]; exact bX @aA
 have a3:W.cell? ⟨B1+1,3,none⟩=some (.int .i8 0):=by rw [hW,hB1]; exact bX @aA
 refine bA ?_
 rw [← hW,← hB1]
 have sW:=s.ext xW
 have f9:=sW.f9
 have f8:=sW.f8
 have f3:=sW.f3
 have f0:=sW.core.f0
 have e8:((0:Int) != 0)=false:=rfl
 refine hJ @t0 @f9 @a3 @e8 @f8 ?_
 refine mW (fun _:Unit=>[(2,.pointer (some ⟨B1,0,none⟩)),(3,.pointer (some ⟨B1+1,0,none⟩))]) (fun _ w'=>bp W w') (by kernel_rfl) (by kernel_rfl) (fun K hK => ?_) ?_
 ·cases fa with
  | none =>
   simp (disch:=first | exact dZ | fail) only [go_sem,Option.isSome_none]
   refine hK _ _ () ?_ (bp.refl W)
   exact bU
  | some af =>
   have hkb:dR W (.slice (some af) nk fc) q:=by
    rcases sW.kb with h | h
    ·simp at h
    ·exact h
   have hqs:¬ x.s < q:=by
    rcases hP with ⟨_,h⟩ | ⟨_,_,h⟩
    ·simp at h
    ·exact h
   simp (disch:=first | exact dZ | fail) only [go_sem,Option.isSome_some]
   refine bF (.read 0 (sq [1,2] (.read 3 (sq [4] (.read 5 (.read 6 (sq [7,8] (.read 9 (.eff 10 [] (sq [11] .done)))))))))) ?_
   obtain ⟨W2,hW2⟩:∃ W2,W2=W.drew:=⟨_,rfl⟩
   have x2:bp W W2:=by rw [hW2]; exact bp.drew' (bp.refl _)
   rw [← hW2]
   have t0':=x2.cell t0
   have f0':=x2.cell f0
   have f8':=x2.cell f8
   have a0':=x2.cell a0
   refine eO @t0' @f0' @f8' @a0' ?_
   refine dG (b1.inc (hinc.trans (xW.trans x2).inc)) (hkb.inc x2.inc) ?_
   have hn:¬ eH x.s q < 0:=fun h=>hqs (fS.1 h)
   refine dO @hn @decide_false ?_
   refine hK _ _ () ?_ x2
   exact bU
 rintro e _ w2 x2
 have t0:=x2.cell t0
 have a0:=x2.cell a0
 have a1:=x2.cell a1
 have a2:=x2.cell a2
 have a3:=x2.cell a3
 have x02:=xW.trans x2
 have s2:=s.ext x02
 have hinc2:=hinc.trans x02.inc
 clear e8 f0 f3 f8 f9 sW
 refine bA ?_
 refine bF (.read 0 (sq [1,2] (.read 3 (sq [4] (.read 5 (sq [6] (.read 7 (.eff 8 [] (sq [9] .done))))))))) ?_
 obtain ⟨w3,hw3⟩:∃ w3,w3=w2.drew:=⟨_,rfl⟩
 have x3:bp w2 w3:=by rw [hw3]; exact bp.drew' (bp.refl _)
 rw [← hw3]
 have t0:=x3.cell t0
 have a0:=x3.cell a0
 have a1:=x3.cell a1
 have a2:=x3.cell a2
 have a3:=x3.cell a3
 have x03:=x02.trans x3
 have s3:=s.ext x03
 have hinc3:=hinc.trans x03.inc
 have f0:=s3.core.f0
 have f3:=s3.f3
 refine eO @t0 @f0 @a0 @a1 ?_
 refine dG (b1.inc hinc3) (b2.inc hinc3) ?_
 have hn:¬ 0≤eH x.s x.e:=fun h=>iw hlt ((gq.1 h:x.e≤x.s) |> fun h=>absurd hlt h)
 refine eO @hn @decide_false @t0 @f3 ?_
 have hB1':∀ {v:Value} {n:Nat} {xs:List Value},w.ownsRow 0 61 4 v n xs→v.ownBlock≠some B1:=fun h hb=>by have:=(h.lt _ hb).2; omega
 rcases hP with ⟨rfl,hvk⟩ | ⟨hPne,hPq,hqs⟩
 ·have hz:¬ (0:Int) < (([]:List SR).length:Int):=by simp
  have s3':FrS c d w3 F O A vo out vf lf (.slice pa ([]:List SR).length pcap) [] vd (.slice fa nk fc) x.s:=⟨s3.core,s3.f3,s3.pown,s3.pgood,s3.pc,s3.f4,s3.down,s3.dc,s3.f8,s3.kown,s3.kc,.inl hvk,s3.f9⟩
  refine bu @hz ?_
  refine bF (.read 0 (.read 1 (sq [2,3] (.read 4 (.read 5 (.eff 6 [0,1,4] (.eff 7 [0] (sq [8,9] (.eff 10 [] .done))))))))) ?_
  obtain ⟨w8,hw8⟩:∃ w8,w8=(w3).drew:=⟨_,rfl⟩
  have x8:bp (w3) w8:=by rw [hw8]; exact bp.drew' (bp.refl _)
  rw [← hw8]
  have s8:=(s3').ext x8
  have t0':=x8.cell t0
  have a0':=x8.cell a0
  have a1':=x8.cell a1
  have a2':=x8.cell a2
  have a3':=x8.cell a3
  have f3:=s8.f3
  have p3:∀ c t,(w8.alloc (.cells c t)).cell? ⟨F,3,none⟩=some _:=fun c t=>(aJ _).cell f3
  have pt:∀ c t,(w8.alloc (.cells c t)).cell? ⟨B1,0,none⟩=some _:=fun c t=>(aJ _).cell t0'
  refine rS @t0' @a0' @a1' @a2' @a3' @f3 @p3 @pt ?_
  refine yZ (x:=⟨x,.slice sa x.s.length sc,.slice ea x.e.length ec,.slice na x.ks.length nc⟩) s8.pown ⟨b1,b2,b3,b4,b5⟩ (by omega) fun v9 w9 o9 k9 n9 => ?_
  have nF9:(Value.slice pa (([]:List SR)).length pcap).ownBlock≠some F:=fun h=>by have:=(s8.pc F h).1; have:=s8.core.cF; omega
  have nB9:(Value.slice pa (([]:List SR)).length pcap).ownBlock≠some B1:=fun h=>hB1' s.pown h
  have f3_9:=k9.some f3 nF9
  have t0_9:=k9.some t0' nB9
  have fz9:∀ y,w9.frozen? ⟨F,y,none⟩=false:=fun y=>by rw [k9.frozen F y (aC s8.core.f0)]; exact s8.core.fz y
  obtain ⟨ra,rc,rfl,_⟩:=bP o9
  refine dQ @f3_9 @t0_9 @fz9 ?_
  have hinc8:=hinc3.trans x8.inc
  obtain ⟨c2,S2,hc2,G2⟩:=s8.push hinc8 o9 k9 n9 ⟨b1,b2,b3,b4,b5⟩
  have x08:=x03.trans x8
  refine hk d _ c2 vo vf lf _ [] vd _ [] (by rw [ao]; exact S2) (.inl ⟨.inl rfl,rfl,rfl⟩) (Gk.trans (M1:=sM c) (d1:=d) ⟨x08.keep,cM.refl d,hinc8,fun _ _ h=>h⟩ G2 (fun _ _ _ h=>h) fun _ _ _ h=>h) fun b hb=>hc2 b (aL hb x08.size)
 ·have hP0:P.length≠0:=fun h=>hPne (ak.1 h)
  have hz:(0:Int) < P.length:=by omega
  obtain ⟨p0,hp0⟩:∃ p0,P[0]? = some p0:=⟨_,aD (by omega)⟩
  have hp0m:=aO hp0
  have hp0q:=hPq p0 hp0m
  have gp0:=s.pgood p0 hp0m
  obtain ⟨g,rfl⟩:∃ g,pa=some ⟨g,0,none⟩:=by
   rcases cg s3.pown with ⟨_,h0,_⟩ | ⟨g,cap,e,_,_⟩
   ·exact absurd h0 hP0
   ·simp only [aU] at e
    exact ⟨g,e.1⟩
  obtain ⟨y0,_⟩:=sm hp0
  have y0:=bW s3.pown y0
  rw [Nat.zero_mul] at y0
  obtain ⟨pb,pn,ep⟩:=aY gp0.1
  have gp1:=gp0.1
  rw [ep] at y0 gp1
  rw [hp0q] at y0 gp1
  refine bu @hz ?_
  refine bF (.read 0 (sq [1,2] (.read 3 (.read 4 (sq [5,6] (.read 7 (sq [8,9] (.read 10 (sq [11] (.read 12 (.eff 13 [] (sq [14] .done)))))))))))) ?_
  obtain ⟨w4,hw4⟩:∃ w4,w4=w3.drew:=⟨_,rfl⟩
  have x4:bp w3 w4:=by rw [hw4]; exact bp.drew' (bp.refl _)
  rw [← hw4]
  have t0:=x4.cell t0
  have a0:=x4.cell a0
  have a1:=x4.cell a1
  have a2:=x4.cell a2
  have a3:=x4.cell a3
  have y0:=x4.cell y0
  have x04:=x03.trans x4
  have s4:=s.ext x04
  have hinc4:=hinc.trans x04.inc
  have f0:=s4.core.f0
  have f3:=s4.f3
  refine AE @t0 @f0 @f3 @a0 @y0 @hz @Int.toNat_zero @Nat.zero_mul @Nat.add_zero ?_
  refine dG (gp1.inc hinc4) (b1.inc hinc4) ?_
  have hn:¬ 0 < eH q x.s:=fun h=>hqs (nq.1 h)
  by_cases hqx:q=x.s
  ·have he:(eH q x.s == 0)=true:=by rw [beq_iff_eq,gB]; exact hqx
   refine dQ @hn @decide_false @he ?_
   refine bF (.read 0 (.read 1 (sq [2,3] (.read 4 (.read 5 (.eff 6 [0,1,4] (.eff 7 [0] (sq [8,9] (.eff 10 [] .done))))))))) ?_
   obtain ⟨w8,hw8⟩:∃ w8,w8=(w4).drew:=⟨_,rfl⟩
   have x8:bp (w4) w8:=by rw [hw8]; exact bp.drew' (bp.refl _)
   rw [← hw8]
   have s8:=(s4).ext x8
   have t0':=x8.cell t0
   have a0':=x8.cell a0
   have a1':=x8.cell a1
   have a2':=x8.cell a2
   have a3':=x8.cell a3
   have f3:=s8.f3
   have p3:∀ c t,(w8.alloc (.cells c t)).cell? ⟨F,3,none⟩=some _:=fun c t=>(aJ _).cell f3
   have pt:∀ c t,(w8.alloc (.cells c t)).cell? ⟨B1,0,none⟩=some _:=fun c t=>(aJ _).cell t0'
   refine rS @t0' @a0' @a1' @a2' @a3' @f3 @p3 @pt ?_
   refine yZ (x:=⟨x,.slice sa x.s.length sc,.slice ea x.e.length ec,.slice na x.ks.length nc⟩) s8.pown ⟨b1,b2,b3,b4,b5⟩ (by omega) fun v9 w9 o9 k9 n9 => ?_
   have nF9:(Value.slice (some ⟨g,0,none⟩) (P).length pcap).ownBlock≠some F:=fun h=>by have:=(s8.pc F h).1; have:=s8.core.cF; omega
   have nB9:(Value.slice (some ⟨g,0,none⟩) (P).length pcap).ownBlock≠some B1:=fun h=>hB1' s.pown h
   have f3_9:=k9.some f3 nF9
   have t0_9:=k9.some t0' nB9
   have fz9:∀ y,w9.frozen? ⟨F,y,none⟩=false:=fun y=>by rw [k9.frozen F y (aC s8.core.f0)]; exact s8.core.fz y
   obtain ⟨ra,rc,rfl,_⟩:=bP o9
   refine dQ @f3_9 @t0_9 @fz9 ?_
   have hinc8:=hinc4.trans x8.inc
   have x08:=x04.trans x8
   subst hqx
   obtain ⟨c2,S2,hc2,G2⟩:=s8.push hinc8 o9 k9 n9 ⟨b1,b2,b3,b4,b5⟩
   refine hk d _ c2 vo vf lf _ P vd _ [] (by rw [ao]; exact S2) (.inl ⟨.inr rfl,rfl,rfl⟩) (Gk.trans (M1:=sM c) (d1:=d) ⟨x08.keep,cM.refl d,hinc8,fun _ _ h=>h⟩ G2 (fun _ _ _ h=>h) fun _ _ _ h=>h) fun b hb=>hc2 b (aL hb x08.size)
  ·have he:(eH q x.s == 0)=false:=by rw [beq_eq_false_iff_ne,ne_eq,gB]; exact hqx
   have hlq:q < x.s:=by
    rcases gV q x.s with h | h | h
    ·exact h
    ·exact absurd h hqx
    ·exact absurd h hqs
   refine hJ @hn @decide_false @he @t0 @a0 ?_
   obtain ⟨c4,hc4⟩:∃ c4:Nat→Nat,c4=fun b=>if b < w.heap.size then c b else 9:=⟨_,rfl⟩
   have hc4':∀ b,b < w.heap.size→c4 b=c b:=fun b hb=>by rw [hc4]; exact if_pos hb
   refine CZ ((s.color hc4').ext x04) hinc4 b1 b3 hxl hPn hkn hkt hol (fun r hr=>by rw [hPq r hr]; exact hlq) fun d5 w5 c5 vo5 vf5 lf5 vp5 P5 vd5 vk5 L o5 S5 h5 hp5 hs5 hf5 G5 hc5 => ?_
   have nB:∀ {b o},w.heap.size≤b→¬ sM c4 b o:=fun {b o} hb hm=>by
    unfold sM at hm
    rw [hc4] at hm
    simp only at hm
    rw [if_neg (by omega)] at hm
    omega
   have t0:=G5.k.some t0 (nB (by omega))
   have a0:=G5.k.some a0 (nB (by omega))
   have a1:=G5.k.some a1 (nB (by omega))
   have a2:=G5.k.some a2 (nB (by omega))
   have a3:=G5.k.some a3 (nB (by omega))
   have hz4:=x04.size
   have lB:B1 < w4.heap.size:=by
    have q1:W.heap.size=w.heap.size+2:=by rw [hW]; simp only [World.size_alloc]
    have q2:=x2.size
    have q3:=x3.size
    have q4:=x4.size
    omega
   have hcB:c5 B1=9:=by rw [hc5 B1 lB,hc4]; exact if_neg (by omega)
   obtain ⟨qa,qcap,rfl,_⟩:=bP S5.pown
   have hP5:P5.length≤500:=by
    have h1:=congrArg List.length h5
    rw [aR] at h1
    rw [h1]
    refine ah (E1 _ _) ?_
    rw [aR]; exact hPn
   have b1:=b1.inc G5.i
   have b2:=b2.inc G5.i
   have b5:=b5.inc KB.mono G5.i
   refine bA ?_
   refine bF (.read 0 (.read 1 (sq [2,3] (.read 4 (.read 5 (.eff 6 [0,1,4] (.eff 7 [0] (sq [8,9] (.eff 10 [] .done))))))))) ?_
   obtain ⟨w8,hw8⟩:∃ w8,w8=(w5).drew:=⟨_,rfl⟩
   have x8:bp (w5) w8:=by rw [hw8]; exact bp.drew' (bp.refl _)
   rw [← hw8]
   have s8:=(S5).ext x8
   have t0':=x8.cell t0
   have a0':=x8.cell a0
   have a1':=x8.cell a1
   have a2':=x8.cell a2
   have a3':=x8.cell a3
   have f3:=s8.f3
   have p3:∀ c t,(w8.alloc (.cells c t)).cell? ⟨F,3,none⟩=some _:=fun c t=>(aJ _).cell f3
   have pt:∀ c t,(w8.alloc (.cells c t)).cell? ⟨B1,0,none⟩=some _:=fun c t=>(aJ _).cell t0'
   refine rS @t0' @a0' @a1' @a2' @a3' @f3 @p3 @pt ?_
   refine yZ (x:=⟨x,.slice sa x.s.length sc,.slice ea x.e.length ec,.slice na x.ks.length nc⟩) s8.pown ⟨b1,b2,b3,b4,b5⟩ (by omega) fun v9 w9 o9 k9 n9 => ?_
   have nF9:(Value.slice qa (P5).length qcap).ownBlock≠some F:=fun h=>by have:=(s8.pc F h).1; have:=s8.core.cF; omega
   have nB9:(Value.slice qa (P5).length qcap).ownBlock≠some B1:=fun h=>(by have:=(S5.pc B1 h).1; omega)
   have f3_9:=k9.some f3 nF9
   have t0_9:=k9.some t0' nB9
   have fz9:∀ y,w9.frozen? ⟨F,y,none⟩=false:=fun y=>by rw [k9.frozen F y (aC s8.core.f0)]; exact s8.core.fz y
   obtain ⟨ra,rc,rfl,_⟩:=bP o9
   refine dQ @f3_9 @t0_9 @fz9 ?_
   have hinc8:=G5.j.trans x8.inc
   obtain ⟨c2,S2,hc2,G2⟩:=s8.push hinc8 o9 k9 n9 ⟨b1,b2,b3,b4,b5⟩
   have hz5:=G5.k.size
   have hz8:=x8.size
   have G48:Gk (sM c) d w d5 w8:=⟨(x04.keep.tr G5.k fun b o hb hm=>by unfold sM at hm ⊢; rw [hc4' b hb] at hm; exact hm).tr x8.keep fun _ _ _ h=>h,G5.i,hinc8,fun b hb ho=>G5.o b (by omega) ho⟩
   refine hk d5 _ c2 vo5 vf5 lf5 _ P5 vd5 vk5 o5 S2 (.inr ⟨hPne,hlq,h5,L,hp5,hs5,hf5⟩) (G48.trans G2 (fun _ _ _ h=>h) fun b o hb hm => ?_) fun b hb => ?_
   ·unfold sM at hm ⊢
    rw [hc5 b (by omega),hc4' b hb] at hm
    exact hm
   ·rw [hc2 b (by omega),hc5 b (by omega)]
    exact hc4' b hb
end
end Go.Proofs
end
section
namespace Go.E
open Go Go.Sort Go.Proofs
end Go.E
namespace Go.Proofs
open Go Go.E Go.Sort
section
variable {k:aq} {d w:World}
end
end Go.Proofs
end
section
namespace Go.E
open Go Go.Sort Go.Proofs
def L5 (p:SV):List Value:=[str p.1,str p.2]
def Lb:gR SV:=fun _ cs p=>cs=L5 p
theorem Lb.mono:gH Lb:=fun _ _ _ _ _ h=>h
end Go.E
namespace Go.Proofs
open Go Go.E Go.Sort
section
variable {k:aq} {d w:World}
end
end Go.Proofs
end
section
namespace Go.E
open Go Go.Sort Go.Proofs Go.Proofs.Tryz
theorem GO {l:List Sp} {key:Bytes} {m:Nat} (h:∀ x ∈ l,x.ks.length≤m):(fh l key).length≤l.length * m:=by
 induction l with
 | nil=>simp [fh]
 | cons x l ih =>
  have h1:=h x aK
  have h2:=ih fun y hy=>h y (aW _ hy)
  have e:fh (x :: l) key=(if et key x then x.ks else [])++fh l key:=by unfold fh; rw [ae]
  rw [e,aE,aZ,Nat.add_mul]
  split
  ·omega
  ·rw [List.length_nil]; omega
end Go.E
namespace Go.Proofs
open Go Go.E Go.Sort Go.Proofs.Tryz
section
variable {k:aq} {d w:World}
theorem zw {v:Value} {l:List K} (hv:Sl KE 3 d v l) (hl:l.length≤100000) (hinc:cM d w) (hk:∀ d' w' v',Gr d w d' w'→Sl KE 3 d' v' l→k v' w'):ai prog 55 #[v] k w:=by
 obtain ⟨ka,kc,rfl⟩:=hv.form
 refine al [.tmp 2] func55 ?_
 refine bA ?_
 refine bZ (fun b:Nat × Value=>[(3,b.2),(6,.slice ka l.length kc),(7,.int .i64 l.length),(8,.int .i64 b.1)])
  (fun b w'=>b.1≤l.length∧∃ d1,LoopL KE 3 53 d w d1 w' b.2 (l.take b.1)) (fun b _=>l.length - b.1) (0,.slice none 0 0) (by kernel_rfl) ?_ ⟨aT _,d,LoopL.nil hinc⟩ ?_
 ·exact bU
 rintro K2 e ⟨i,v⟩ w1 ⟨i2,d1,i3⟩ hK2
 simp only at i2 i3
 rcases aH i l.length with hi | hi
 rotate_left
 ·have hi':¬ (i:Int) < l.length:=by omega
  refine bu @hi' ?_
  obtain rfl:i=l.length:=by omega
  rw [ag] at i3
  obtain ⟨d2,g2,_,_,s2⟩:=i3.done KE.mono
  exact hk d2 w1 v g2 s2
 have hi':(i:Int) < l.length:=by omega
 obtain ⟨g,f,c,hv',hc,hat⟩:=(hv.inc KE.mono i3.g.i).at (by omega)
 obtain ⟨rfl,rfl⟩:=sEq hv'
 obtain ⟨x,hx⟩:=gEl hi
 obtain ⟨cs,_,hcs,hR⟩:=hat i x hx
 have hmem:=aO hx
 obtain ⟨rfl,htr⟩:=hR
 have h0:w1.cell? ⟨g,f+i * 3,none⟩=some (.int .u64 x.tr):=i3.g.j _ _ _ (hcs 0 _ rfl)
 have h1:w1.cell? ⟨g,f+i * 3+1,none⟩=some (.string ⟨x.suf.toArray⟩):=i3.g.j _ _ _ (hcs 1 _ rfl)
 have h2:w1.cell? ⟨g,f+i * 3+2,none⟩=some (.string ⟨x.val.toArray⟩):=i3.g.j _ _ _ (hcs 2 _ rfl)
 obtain ⟨va,vcap,rfl,_⟩:=i3.form
 have i4:=i3.ext KE.mono (aJ (.cells #[.int .u64 x.tr,.string ⟨x.suf.toArray⟩,.string ⟨x.val.toArray⟩] 91))
 obtain ⟨css,o4⟩:=i4.o
 refine hJ @hi' @h0 @h1 @h2 @aA ?_
 refine iL x [.int .u64 x.tr,.string ⟨x.suf.toArray⟩,.string ⟨x.val.toArray⟩] rw28 o4 ⟨rfl,htr⟩ rfl (.inl rfl) (World.size_alloc _ _).symm rfl (by simp [Value.oneCell']) (by rw [dV i2]; omega) i4.g.j fun v2 w2 o2 k2 n2 j2 _ => ?_
 refine bA ?_
 refine hK2 _ _ (i+1,v2) ?_ ⟨hi,d1,?_⟩ (by simp only; omega)
 ·exact bU
 ·rw [bz hx]
  exact i4.more o2 k2 n2 j2
theorem zx {kv:Value} {x:Sp} (hv:Sl KE 3 d kv x.ks) (hl:x.ks.length≤100000) (hinc:cM d w) (hk:∀ d' w' v',Gr d w d' w'→Sl KE 3 d' v' x.ks→k (.agg #[.string ⟨x.s.toArray⟩,.string ⟨x.e.toArray⟩,v']) w') :
    ai prog 31 #[.agg #[.string ⟨x.s.toArray⟩,.string ⟨x.e.toArray⟩,kv]] k w:=by
 obtain ⟨ka,kc,rfl⟩:=hv.form
 refine al [.cell 2 30] func31 ?_
 refine bA ?_
 refine bF (sq [0] (.read 1 (sq [2] (.read 3 (sq [4] (.read 5 (.eff 6 [1,3] (sq [7] (.eff 8 [] .done))))))))) ?_
 obtain ⟨A,hA⟩:∃ A,A=w.heap.size:=⟨_,rfl⟩
 obtain ⟨W,hW⟩:∃ W,W=((w.alloc (.cells #[.string ⟨x.s.toArray⟩,.string ⟨x.e.toArray⟩,.slice ka x.ks.length kc] 37)).alloc (.cells #[.string ByteArray.empty,.string ByteArray.empty,.slice none 0 0] 30)).drew:=⟨_,rfl⟩
 have xW:bp w W:=by rw [hW]; exact bp.drew' ((aJ _).trans (aJ _))
 have a0:W.cell? ⟨A,0,none⟩=some (.string ⟨x.s.toArray⟩):=by rw [hW,hA]; exact bX @aA
 have a1:W.cell? ⟨A,1,none⟩=some (.string ⟨x.e.toArray⟩):=by rw [hW,hA]; exact bX @aA
 have b0:W.cell? ⟨A+1,0,none⟩=some (.string ByteArray.empty):=by rw [hW,hA]; exact bX @aA
 have b1:W.cell? ⟨A+1,1,none⟩=some (.string ByteArray.empty):=by rw [hW,hA]; exact bX @aA
 have b2:W.cell? ⟨A+1,2,none⟩=some (.slice none 0 0):=by rw [hW,hA]; exact bX @aA
 have fz:∀ y,W.frozen? ⟨A+1,y,none⟩=false:=fun y=>by rw [hW,hA]; exact bX @br
 have zW:W.heap.size=A+2:=by rw [hW,hA]; simp only [World.size_drew,World.size_alloc]
 refine bu @aA ?_
 rw [← hA,← hW]
 refine zw hv hl (hinc.trans xW.inc) fun d1 w1 v1 g1 s1 => ?_
 obtain ⟨va,vc,rfl⟩:=s1.form
 have a0:=g1.x.cell a0
 have a1:=g1.x.cell a1
 have b0:=g1.x.cell b0
 have b1:=g1.x.cell b1
 have b2:=g1.x.cell b2
 have fz:∀ y,w1.frozen? ⟨A+1,y,none⟩=false:=fun y=>by rw [g1.x.frozen _ y (by omega)]; exact fz y
 have hoA:cj d (A+1):=hinc.out (by omega)
 refine qh @a0 @a1 @b0 @b1 @b2 @fz ?_
 have kk:=(((Keep.refl (M:=fun b _=>b=A+1) w1).set (b:=A+1) (o:=0) (v := .string ⟨x.s.toArray⟩) fun _=>rfl).set (b:=A+1) (o:=1) (v := .string ⟨x.e.toArray⟩) fun _=>rfl).set (b:=A+1) (o:=2) (v := .slice va x.ks.length vc) fun _=>rfl
 exact hk _ _ _ (((Gr.ext hinc xW).trans g1).mut kk fun b o h=>by
  subst h
  exact ⟨by omega,g1.o _ (by omega) hoA⟩) s1
end
end Go.Proofs
end
section
namespace Go.E
open Go Go.Sort Go.Proofs Go.Proofs.Tryz
theorem FrC.recolor {c:Nat→Nat} {d w:World} {F O A:Nat} {vo vf:Value} {out:List Sp} {lf:List KR} (h:FrC c d w F O A vo out vf lf) {c2:Nat→Nat} (hc:∀ b,c b < 5→c2 b=c b):FrC c2 d w F O A vo out vf lf :=
 ⟨h.em,h.f0,h.f2,h.f5,h.f6,h.f7,h.fz,h.oF,h.oO,by rw [hc F (by rw [h.cF]; omega)]; exact h.cF,by rw [hc O (by rw [h.cO]; omega)]; exact h.cO,by rw [hc A (by rw [h.cA]; omega)]; exact h.cA,
  fun g hg=>by rw [hc g (by rw [h.c3 g hg]; omega)]; exact h.c3 g hg,fun g hg=>by rw [hc g (by rw [(h.c4 g hg).1]; omega)]; exact h.c4 g hg⟩
theorem FrC.gr {c:Nat→Nat} {d w d2 w2:World} {F O A:Nat} {vo vf:Value} {out:List Sp} {lf:List KR} (h:FrC c d w F O A vo out vf lf) (g:Gr d w d2 w2):FrC c d2 w2 F O A vo out vf lf:=by
 have h2:=h.keep3 g.x fun _ _ h=>h.elim
 obtain ⟨css,oo⟩:=h2.em.oo
 obtain ⟨css1,oo1⟩:=h.em.oo
 exact ⟨⟨h2.em.cA,h2.em.cO,h2.em.fO,css,oo.ghost dh.mono g.i fun b hb=>g.o b (oo1.own.lt _ hb).2 (oo1.out b hb)⟩,h2.f0,h2.f2,h2.f5,h2.f6,⟨h2.f7.hd,h2.f7.own,fun x hx=>by
  obtain ⟨a,b,e⟩:=h2.f7.good x hx
  exact ⟨a,b.inc g.i,e.inc g.i⟩⟩,h2.fz,g.o F (aC h.f0) h.oF,g.o O (aC h.em.cO) h.oO,h2.cF,h2.cO,h2.cA,h2.c3,fun b hb=>⟨(h2.c4 b hb).1,g.o b (h.f7.own.lt _ hb).2 (h2.c4 b hb).2⟩⟩
theorem FrS.gr {c:Nat→Nat} {d w d2 w2:World} {F O A:Nat} {vo vf vp vd vk:Value} {out:List Sp} {lf:List KR} {P:List SR} {q:Bytes} (s:FrS c d w F O A vo out vf lf vp P vd vk q) (g:Gr d w d2 w2):FrS c d2 w2 F O A vo out vf lf vp P vd vk q:=by
 have h2:=s.ext g.x
 obtain ⟨n,xs,ho⟩:=s.kown
 exact ⟨s.core.gr g,h2.f3,h2.pown,fun r hr=>(h2.pgood r hr).inc g.i,fun b hb=>⟨(h2.pc b hb).1,g.o b (s.pown.lt _ hb).2 (h2.pc b hb).2⟩,h2.f4,h2.down,fun b hb=>⟨(h2.dc b hb).1,g.o b (s.down.lt _ hb).2 (h2.dc b hb).2⟩,h2.f8,h2.kown,fun b hb=>⟨(h2.kc b hb).1,g.o b (ho.lt _ hb).2 (h2.kc b hb).2⟩,h2.kb,h2.f9⟩
theorem Gr.gk {d w d1 w1 d2 w2:World} {M:Nat→Nat→Prop} (g:Gr d w d1 w1) (G:Gk M d1 w1 d2 w2) (hM:∀ b o,b < w.heap.size→¬ M b o):Gr d w d2 w2 :=
 ⟨g.x.tr G.k fun b o hb hm=>(hM b o hb hm).elim,g.i.trans G.i,G.j,fun b hb ho=>G.o b (aL hb g.x.size) (g.o b hb ho)⟩
end Go.E
namespace Go.Proofs
open Go Go.E Go.Sort Go.Proofs.Tryz
section
variable {k:aq} {d w:World}
theorem yd {v:Value} {l:List Sp} (hv:Sl dh 3 d v l) (hl:l.length≤100000) (hks:∀ x ∈ l,x.ks.length≤100000) (hinc:cM d w) (hk:∀ d' w' v',Gr d w d' w'→Sl dh 3 d' v' l→k v' w'):ai prog 11 #[v] k w:=by
 obtain ⟨ka,kc,rfl⟩:=hv.form
 refine al [.tmp 2] func11 ?_
 refine bA ?_
 refine bZ (fun b:Nat × Value=>[(3,b.2),(6,.slice ka l.length kc),(7,.int .i64 l.length),(8,.int .i64 b.1)])
  (fun b w'=>b.1≤l.length∧∃ d1,LoopL dh 3 30 d w d1 w' b.2 (l.take b.1)) (fun b _=>l.length - b.1) (0,.slice none 0 0) (by kernel_rfl) ?_ ⟨aT _,d,LoopL.nil hinc⟩ ?_
 ·exact bU
 rintro K2 e ⟨i,v⟩ w1 ⟨i2,d1,i3⟩ hK2
 simp only at i2 i3
 rcases aH i l.length with hi | hi
 rotate_left
 ·have hi':¬ (i:Int) < l.length:=by omega
  refine bu @hi' ?_
  obtain rfl:i=l.length:=by omega
  rw [ag] at i3
  obtain ⟨d2,g2,_,_,s2⟩:=i3.done dh.mono
  exact hk d2 w1 v g2 s2
 have hi':(i:Int) < l.length:=by omega
 obtain ⟨g,f,c,hv',hc,hat⟩:=(hv.inc dh.mono i3.g.i).at (by omega)
 obtain ⟨rfl,rfl⟩:=sEq hv'
 obtain ⟨x,hx⟩:=gEl hi
 obtain ⟨cs,_,hcs,hR⟩:=hat i x hx
 have hmem:=aO hx
 obtain ⟨kv,rfl,hkv⟩:=hR
 obtain ⟨kva,kvc,rfl⟩:=hkv.form
 have h0:w1.cell? ⟨g,f+i * 3,none⟩=some (.string ⟨x.s.toArray⟩):=i3.g.j _ _ _ (hcs 0 _ rfl)
 have h1:w1.cell? ⟨g,f+i * 3+1,none⟩=some (.string ⟨x.e.toArray⟩):=i3.g.j _ _ _ (hcs 1 _ rfl)
 have h2:w1.cell? ⟨g,f+i * 3+2,none⟩=some (.slice kva x.ks.length kvc):=i3.g.j _ _ _ (hcs 2 _ rfl)
 have i4:=i3.ext dh.mono (aJ (.cells #[.string ⟨x.s.toArray⟩,.string ⟨x.e.toArray⟩,.slice kva x.ks.length kvc] 37))
 refine hJ @hi' @h0 @h1 @h2 @aA ?_
 refine zx (x:=x) hkv (hks x hmem) i4.g.j fun d4 w4 v4 g4 s4 => ?_
 have i5:=i4.call dh.mono g4
 obtain ⟨css,o5⟩:=i5.o
 obtain ⟨va,vcap,rfl,_⟩:=i5.form
 obtain ⟨k4,c4,rfl⟩:=s4.form
 refine bA ?_
 refine iL x [.string ⟨x.s.toArray⟩,.string ⟨x.e.toArray⟩,.slice k4 x.ks.length c4] rw22 o5 ⟨_,rfl,s4⟩ rfl (.inl rfl) rfl rfl (by simp [Value.oneCell']) (by rw [dV i2]; omega) i5.g.j fun v2 w2 o2 k2 n2 j2 _ => ?_
 refine bA ?_
 refine hK2 _ _ (i+1,v2) ?_ ⟨hi,d4,?_⟩ (by simp only; omega)
 ·exact bU
 ·rw [bz hx]
  exact i5.more o2 k2 n2 j2
theorem zy {c:Nat→Nat} {F O A:Nat} {vo vf vp vd vk:Value} {out:List Sp} {lf:List KR} {P:List SR} {q:Bytes} (s:FrS c d w F O A vo out vf lf vp P vd vk q) (hinc:cM d w) (hPn:P.length≤500) (hkn:∀ r ∈ P,r.x.ks≠[]) (hkt:(cG (P.map SR.x)).length < 1000000) (hol:out.length < 80000)
    (hk:∀ d2 w2 vo2 L o2,EmO d2 w2 O A vo2 (out++o2)→L.Perm (P.map SR.x)→qA L→FlR L o2→Gk (sM c) d w d2 w2→(∀ g,vo2.ownBlock=some g→w.heap.size≤g∨c g < 8)→k (.tuple #[]) w2) :
    ai prog 34 #[.pointer (some ⟨F,0,none⟩)] k w:=by
 obtain ⟨pa,pcap,rfl,_⟩:=bP s.pown
 have f9:=s.f9
 have f3:=s.f3
 have cF:=s.core.cF
 refine al [] func34 ?_
 refine dO @f9 @f3 ?_
 obtain ⟨c1,hc1⟩:∃ c1:Nat→Nat,c1=fun b=>if c b=6 then 5 else c b:=⟨_,rfl⟩
 have hle:∀ b,c b < 5→c1 b=c b:=fun b hb=>by rw [hc1]; exact if_neg (by omega)
 refine uu (s.core.recolor hle) hinc s.pown s.pgood (fun g hg=>⟨by rw [hc1]; exact if_pos (s.pc g hg).1,(s.pc g hg).2⟩) (by omega) hkn hkt (by omega) fun d2 w2 c2 vo2 vf2 lf2 L o2 hC hp hs hf G hcc _ => ?_
 have nF:¬ fM c1 F 9:=fun hm=>by
  have:=hle F (by omega)
  unfold fM at hm
  omega
 have f9_2:=G.k.some f9 nF
 have fz2:=hC.fz
 refine dO @f9_2 @fz2 ?_
 have ks:Keep (fun b o=>b=F∧o=9) w2 (w2.setCell ⟨F,9,none⟩ (.bool true)):=bY ⟨rfl,rfl⟩
 have hC3:=hC.keep3 ks fun b o hm => .inl ⟨by rw [hm.1]; exact hC.cF,by omega⟩
 have cc:∀ b,c1 b≤5→c b < 8:=fun b hb=>by
  rw [hc1] at hb
  simp only at hb
  split at hb <;> omega
 refine hk d2 _ vo2 L o2 hC3.em hp hs hf ⟨(G.k.mono fun b o _ hm => ?_).tr ks fun b o hb hm => ?_,G.i,G.j.keep ks fun b o hm=>by rw [hm.1]; exact hC.oF o,G.o⟩ fun g hg => ?_
 ·unfold fM at hm
  exact cc b (by omega)
 ·unfold sM; rw [hm.1]; omega
 ·rcases aH g w.heap.size with h1 | h1
  ·have:=hC.c3 g hg
   rw [hcc g h1] at this
   exact .inr (cc g (by omega))
  ·exact .inl h1
theorem ye {O:Nat} (hk:∀ w2 F A,bp w w2→w.heap.size≤A→A < F→F < w2.heap.size→w2.cell? ⟨A,0,none⟩=some (.pointer (some ⟨O,0,none⟩))→(∀ o u,(#[.func (.func 85) #[] #[],.nilFunc,.func (.func 57) #[] #[.pointer (some ⟨A,0,none⟩)],.slice none 0 0,.slice none 0 0,.nilFunc,.slice none 0 0,.slice none 0 0,.slice none 0 0,.bool false]:Array Value)[o]? = some u→w2.cell? ⟨F,o,none⟩=some u)→(∀ y,w2.frozen? ⟨F,y,none⟩=false)→k (.pointer (some ⟨F,0,none⟩)) w2) :
    ai prog 32 #[.pointer (some ⟨O,0,none⟩)] k w:=by
 refine al [.tmp 2] func32 ?_
 refine bA ?_
 refine iz ?_
 have c0:((w.alloc (.cells #[.pointer (some ⟨O,0,none⟩)] 79)).alloc Bw).cell? ⟨w.heap.size+1,0,none⟩=some (.func (.func 85) #[] #[]):=by
  unfold Bw
  exact bX @aA
 refine bu @c0 ?_
 refine hk _ _ _ (((aJ _).trans (aJ _)).trans (aJ _)) (aF _) (by omega) (by simp only [World.size_alloc]; omega) (by exact bX @aA) (fun o u hu => ?_) fun y => ?_
 ·rw [aA (by simp only [World.size_alloc]; omega) (by simp only [World.size_alloc]; omega)]
  exact hu
 ·exact br (by simp only [World.size_alloc]; omega) (by simp only [World.size_alloc]; omega)
set_option maxHeartbeats 1000000 in
theorem qB {v:Value} {l:List Sp} (hv:Sl dh 3 d v l) (hl:l.length≤400) (hlen:∀ x ∈ l,xh x) (hlt:∀ x ∈ l,x.s < x.e) (hne:∀ x ∈ l,x.ks≠[]) (hs:l.Pairwise fun a b=>¬ b.s < a.s) (hkt:(cG l).length < 1000000) (hinc:cM d w)
    (hk:∀ d' w' v' F,Gr d w d' w'→Sl dh 3 d' v' F→FrOut l F→k v' w'):ai prog 12 #[v] k w:=by
 obtain ⟨ka,kc,rfl⟩:=hv.form
 refine al [.tmp 2] func12 ?_
 refine bA ?_
 obtain ⟨O,hO⟩:∃ O,O=w.heap.size:=⟨_,rfl⟩
 obtain ⟨w1,hw1⟩:∃ w1,w1=w.alloc (.cells #[.slice none 0 0] 27):=⟨_,rfl⟩
 have x1:bp w w1:=by rw [hw1]; exact aJ _
 have z1:w1.heap.size=w.heap.size+1:=by rw [hw1,World.size_alloc]
 have cO:w1.cell? ⟨O,0,none⟩=some (.slice none 0 0):=by rw [hw1,hO]; exact bX @aA
 have fO:∀ y,w1.frozen? ⟨O,y,none⟩=false:=fun y=>by rw [hw1,hO]; exact br (aF _) (Nat.lt_succ_self _)
 rw [← hw1,← hO]
 refine ye fun w2 F A x2 hA hF hF2 cA cF fF => ?_
 refine bA ?_
 have x12:=x1.trans x2
 have hinc2:=hinc.trans x12.inc
 obtain ⟨c0,hc0⟩:∃ c0:Nat→Nat,c0=fun b=>if b=F then 0 else if b=O then 1 else if b=A then 2 else 9:=⟨_,rfl⟩
 have cc0:∀ b,b < w.heap.size→c0 b=9:=fun b hb=>by rw [hc0]; simp only; rw [if_neg (by omega),if_neg (by omega),if_neg (by omega)]
 have on:∀ {el:TypeId} {n:Nat},w2.ownsRow 0 el n (.slice none 0 0) 0 []:=cw
 have core0:FrC c0 d w2 F O A (.slice none 0 0) [] (.slice none 0 0) []:=⟨⟨cA,x2.cell cO,fun y=>by rw [x2.frozen O y (aC cO)]; exact fO y,[],OwnL.nil cw⟩,cF 0 _ rfl,cF 2 _ rfl,by rw [cF 5 _ rfl]; rfl,by rw [cF 6 _ rfl]; rfl,⟨cF 7 _ rfl,cw,by simp⟩,fF,hinc.out (by omega),hinc.out (by omega),
  by rw [hc0]; simp,by rw [hc0]; show (if O=F then 0 else if O=O then 1 else if O=A then 2 else 9)=1; rw [if_neg (by omega),if_pos rfl],by rw [hc0]; show (if A=F then 0 else if A=O then 1 else if A=A then 2 else 9)=2; rw [if_neg (by omega),if_neg (by omega),if_pos rfl],by simp [Value.ownBlock],by simp [Value.ownBlock]⟩
 have s0:FrS c0 d w2 F O A (.slice none 0 0) [] (.slice none 0 0) [] (.slice none 0 0) [] (.slice none 0 0) (.slice none 0 0) []:=⟨core0,cF 3 _ rfl,cw,by simp,by simp [Value.ownBlock],cF 4 _ rfl,cw,by simp [Value.ownBlock],cF 8 _ rfl,⟨0,[],cw⟩,by simp [Value.ownBlock],.inl rfl,cF 9 _ rfl⟩
 have sub:∀ i,(cG (l.take i)).length≤(cG l).length:=fun i=>by
  have:cG l=cG (l.take i)++cG (l.drop i):=by
   unfold cG
   rw [← ay,cT]
  rw [this,aE]; omega
 refine bZ (fun i:Nat=>[(3,.pointer (some ⟨O,0,none⟩)),(4,.pointer (some ⟨F,0,none⟩)),(8,.slice ka l.length kc),(9,.int .i64 l.length),(10,.int .i64 i)])
  (fun i w'=>∃ (c':Nat→Nat) (d':World) (vo vf:Value) (lf:List KR) (vp:Value) (P:List SR) (vd vk:Value) (q:Bytes) (out:List Sp),i≤l.length∧FrS c' d' w' F O A vo out vf lf vp P vd vk q∧FrI (l.take i) (P.map SR.x) out q∧(i=0∧P=[]∧out=[]∧vk = .slice none 0 0∨P≠[]∧∃ j y,i=j+1∧l[j]? = some y∧q=y.s)∧Gr d w d' w'∧∀ b,b < w.heap.size→c' b=9)
  (fun i _=>l.length - i) 0 (by kernel_rfl) ?_ ⟨c0,d,_,_,_,_,[],_,_,[],[],aT _,s0,Al [],.inl ⟨rfl,rfl,rfl,rfl⟩,Gr.ext hinc x12,cc0⟩ ?_
 ·exact bU
 clear s0 core0 cA cF fF cO fO
 rintro K2 e i w3 ⟨c3,d3,vo,vf,lf,vp,P,vd,vk,q,out,hi0,s,I,hst,g3,hc3⟩ hK2
 have hPn:P.length≤400:=by
  have:=I.len
  rw [aR,bE] at this
  omega
 have hkn:∀ r ∈ P,r.x.ks≠[]:=fun r hr=>I.j.pa.ne _ (List.mem_map_of_mem hr)
 have hkP:(cG (P.map SR.x)).length < 1000000:=fV (CT I) (fV (sub i) hkt)
 have hol:out.length < 80000:=by
  have:=Em I.j.ch fun f hf=>(I.j.str f (List.mem_append_left _ hf)).1
  rw [bE] at this
  omega
 have hM3:∀ b (o:Nat),b < w.heap.size→¬ sM c3 b o:=fun b o hb hm=>by
  unfold sM at hm
  rw [hc3 b hb] at hm
  omega
 rcases aH i l.length with hi | hi
 rotate_left
 ·have hi':¬ (i:Int) < l.length:=by omega
  obtain rfl:i=l.length:=by omega
  rw [ag] at I
  refine bu @hi' ?_
  refine zy s g3.j (by omega) hkn hkP hol fun d5 w5 vo5 L o5 em5 hp5 hs5 hf5 G5 hb5 => ?_
  have g5:=g3.gk G5 hM3
  obtain ⟨css,oo⟩:=em5.oo
  obtain ⟨d6,g6,_,_,s6⟩:=oo.grown dh.mono g5 fun b hb=>by
   rcases hb5 b hb with h1 | h1
   ·exact ah g3.x.size h1
   ·rcases aH b w.heap.size with h2 | h2
    ·rw [hc3 b h2] at h1; omega
    ·exact h2
  have cO5:=em5.cO
  obtain ⟨a6,c6,rfl⟩:=s6.form
  refine bu @cO5 ?_
  obtain ⟨f1,f2,f3,f4,f5⟩:=GD I hp5 hs5 hf5
  exact hk d6 w5 _ (out++o5) g6 s6 ⟨f1,f2,f3,f4,f5⟩
 have hi':(i:Int) < l.length:=by omega
 obtain ⟨g,f,c,hv',hc,hat⟩:=(hv.inc dh.mono g3.i).at (by omega)
 obtain ⟨rfl,rfl⟩:=sEq hv'
 obtain ⟨x,hx⟩:=gEl hi
 have hxm:=aO hx
 obtain ⟨h0,h1,a,cc,h2,hkx⟩:=fN (hat i x hx)
 have h0:=g3.j _ _ _ h0
 have h1:=g3.j _ _ _ h1
 have h2:=g3.j _ _ _ h2
 have hlx:=hlen x hxm
 obtain ⟨w4,hw4⟩:∃ w4,w4=w3.alloc (.cells #[.string ⟨x.s.toArray⟩,.string ⟨x.e.toArray⟩,.slice a x.ks.length cc] 37):=⟨_,rfl⟩
 have x4:bp w3 w4:=by rw [hw4]; exact aJ _
 refine hJ @hi' @h0 @h1 @h2 @aA ?_
 rw [← hw4]
 have g34:Gr d3 w3 d3 w4:=Gr.ext g3.j x4
 refine sB (x:=x) hkx hlx g34.j fun d5 w5 sa ea v5 g5 q1 q2 q3 q4 q5 => ?_
 have g35:=g34.trans g5
 have s5:=s.gr g35
 have g05:=g3.trans g35
 obtain ⟨sb,sbc,rfl⟩:=aY q2
 obtain ⟨eb,ebc,rfl⟩:=aY q4
 obtain ⟨k5,c5,rfl⟩:=q5.form
 refine bA ?_
 refine GN (x:=x) s5 g5.j q2 q4 q1 q3 q5 (hlt x hxm) (by have:=hlx.1; omega) ?_ (by omega) hkn hkP hol fun d6 w6 c6 vo6 vf6 lf6 vp6 P6 vd6 vk6 o6 S6 hcase G6 hc6 => ?_
 ·rcases hst with ⟨_,e1,_,e3⟩ | ⟨e1,j,y,rfl,hy,rfl⟩
  ·exact .inl ⟨e1,e3⟩
  ·refine .inr ⟨e1,fun r hr=>I.j.pa.s _ (List.mem_map_of_mem hr),?_⟩
   obtain ⟨hj1,e1⟩:=aQ.1 hy
   obtain ⟨hj2,e2⟩:=aQ.1 hx
   have:=bJ.1 hs j (j+1) hj1 hj2 (by omega)
   rw [e1,e2] at this
   exact this
 ·have g6:=g05.gk G6 hM3
  have ht:l.take (i+1)=l.take i++[x]:=bz hx
  refine bA ?_
  refine hK2 _ _ (i+1) ?_ ⟨c6,d6,vo6,vf6,lf6,vp6,_,vd6,vk6,x.s,out++o6,hi,S6,?_,.inr ⟨by simp,i,x,rfl,hx,rfl⟩,g6,fun b hb => ?_⟩ (by omega)
  ·exact bU
  ·rw [ht,az]
   rcases hcase with ⟨hc,rfl,rfl⟩ | ⟨hP,hq,h5,L,hp,hs',hf⟩
   ·rw [ao]
    rcases hst with ⟨rfl,rfl,rfl,_⟩ | ⟨e1,_⟩
    ·exact yR (Al x.s) rfl (hlt x hxm) (hne x hxm)
    ·rcases hc with hc | hc
     ·exact absurd hc e1
     ·subst hc
      exact yR I rfl (hlt x hxm) (hne x hxm)
   ·rw [h5]
    exact Ek I hq (hlt x hxm) (hne x hxm) hp hs' hf
  ·rw [hc6 b (aL hb g05.x.size)]
   exact hc3 b hb
end
end Go.Proofs
end
section
namespace Go.E
open Go Go.Sort Go.Proofs Go.Proofs.Tryz
def mq (s:Sp):Bool:=decide (s.ks≠[])
structure VOk (Lv:List (List Sp)) (snap:Nat):Prop where
 rin:RIn Lv snap none none
 n6:Lv.length≤6
 sz:∀ x ∈ Lv,x.length≤1000∧∀ y ∈ x,y.ks.length≤2000
 n:Lv.flatten.length≤300
theorem VOk.vl {Lv:List (List Sp)} {snap:Nat} (h:VOk Lv snap):(rV Lv snap none none).length≤601:=by
 have:=CO Lv snap
 have:=h.n
 omega
theorem VOk.vk {Lv:List (List Sp)} {snap:Nat} (h:VOk Lv snap):∀ x ∈ rV Lv snap none none,x.ks.length≤600000:=fun x hx=>by
 have h1:=Jt h.rin (m:=2000) (fun L hL s hs=>(h.sz L hL).2 s hs) x hx
 have h2:Lv.flatten.length * 2000≤300 * 2000:=bO _ h.n
 omega
end Go.E
namespace Go.Proofs
open Go Go.E Go.Sort Go.Proofs.Tryz
section
variable {k:aq} {d w:World}
theorem tj {v:Value} {l:List An} (hv:Sl zY 5 d v l) (hl:l.length≤10000) (hks:∀ x ∈ mE l,x.ks.length≤1000000) (hinc:cM d w) (hk:∀ d' w' v',Gr d w d' w'→Sl dh 3 d' v' (((mE l).map cW).filter mq)→k v' w'):ai prog 36 #[v] k w:=by
 obtain ⟨ka,kc,rfl⟩:=hv.form
 have hfl:(mE l).length≤l.length:=by
  unfold mE
  rw [aR]
  exact bN _ _
 refine al [.tmp 2] func36 ?_
 refine bA ?_
 refine wI hv (by omega) hinc fun d1 w1 v1 g1 s1 => ?_
 refine bA ?_
 refine tf s1 (by omega) (fun x hx=>by have:=hks x hx; omega) g1.j fun d2 w2 v2 g2 s2 => ?_
 have g12:=g1.trans g2
 obtain ⟨M,hM⟩:∃ M,M=(mE l).map cW:=⟨_,rfl⟩
 have hMl:M.length≤10000:=by rw [hM,aR]; omega
 rw [← hM] at s2 hk
 obtain ⟨va,vc,rfl⟩:=s2.form
 refine bA ?_
 refine bZ (fun b:Nat × Value=>[(3,b.2),(8,.slice va M.length vc),(9,.int .i64 M.length),(10,.int .i64 b.1)])
  (fun b w'=>b.1≤M.length∧∃ d1,LoopL dh 3 30 d2 w2 d1 w' b.2 ((M.take b.1).filter mq)) (fun b _=>M.length - b.1) (0,.slice none 0 0) (by kernel_rfl) ?_ ⟨aT _,d2,LoopL.nil g12.j⟩ ?_
 ·exact bU
 rintro K2 e ⟨i,vo⟩ w3 ⟨i2,d3,i3⟩ hK2
 simp only at i2 i3
 rcases aH i M.length with hi | hi
 rotate_left
 ·have hi':¬ (i:Int) < M.length:=by omega
  refine bu @hi' ?_
  obtain rfl:i=M.length:=by omega
  rw [ag] at i3
  obtain ⟨d4,g4,_,_,s4⟩:=i3.done dh.mono
  exact hk d4 w3 vo (g12.trans g4) s4
 have hi':(i:Int) < M.length:=by omega
 obtain ⟨g,f,c,hv',hc,hat⟩:=(s2.inc dh.mono i3.g.i).at (by omega)
 obtain ⟨rfl,rfl⟩:=sEq hv'
 obtain ⟨x,hx⟩:=gEl hi
 obtain ⟨h0,h1,a,cc,h2,hkx⟩:=fN (hat i x hx)
 have h0:=i3.g.j _ _ _ h0
 have h1:=i3.g.j _ _ _ h1
 have h2:=i3.g.j _ _ _ h2
 have hmore:(M.take (i+1)).filter mq=(M.take i).filter mq++if mq x then [x] else []:=by
  rw [bz hx,List.filter_append]
  cases h:mq x <;> simp [List.filter_cons,h]
 obtain ⟨T,hT⟩:∃ T,T=w3.heap.size:=⟨_,rfl⟩
 obtain ⟨w4,hw4⟩:∃ w4,w4=w3.alloc (.cells #[.string ⟨x.s.toArray⟩,.string ⟨x.e.toArray⟩,.slice a x.ks.length cc] 30):=⟨_,rfl⟩
 have x4:bp w3 w4:=by rw [hw4]; exact aJ _
 have a0:w4.cell? ⟨T,0,none⟩=some (.string ⟨x.s.toArray⟩):=by rw [hw4,hT]; exact bX @aA
 have a1:w4.cell? ⟨T,1,none⟩=some (.string ⟨x.e.toArray⟩):=by rw [hw4,hT]; exact bX @aA
 have a2:w4.cell? ⟨T,2,none⟩=some (.slice a x.ks.length cc):=by rw [hw4,hT]; exact bX @aA
 have i5:=i3.ext dh.mono x4
 refine eO @hi' @h0 @h1 @h2 ?_
 rw [← hw4,← hT]
 by_cases hz:x.ks=[]
 ·have hz1:¬ (0:Int) < x.ks.length:=by rw [hz]; simp
  have hz2:mq x=false:=aG fun h=>h hz
  rw [hz2] at hmore
  refine dO @a2 @hz1 ?_
  refine hK2 _ _ (i+1,vo) ?_ ⟨hi,d3,?_⟩ (by simp only; omega)
  ·exact bU
  ·simp only
   rw [hmore,if_neg (by decide),ao]
   exact i5
 ·have hz0:x.ks.length≠0:=fun h=>hz (ak.1 h)
  have hz1:(0:Int) < x.ks.length:=by omega
  have hz2:mq x=true:=aV hz
  rw [hz2] at hmore
  obtain ⟨css,o5⟩:=i5.o
  obtain ⟨wa,wcap,rfl,_⟩:=i5.form
  have hfl2:((M.take i).filter mq).length≤i:=by
   refine ah (bN _ _) ?_
   rw [bE]; omega
  refine eO @a0 @a1 @a2 @hz1 ?_
  refine iL x [.string ⟨x.s.toArray⟩,.string ⟨x.e.toArray⟩,.slice a x.ks.length cc] rw22 o5 ⟨_,rfl,hkx⟩ rfl (.inl rfl) rfl rfl (by simp [Value.oneCell']) (by omega) i5.g.j fun v6 w6 o6 k6 n6 j6 _ => ?_
  refine bA ?_
  refine hK2 _ _ (i+1,v6) ?_ ⟨hi,d3,?_⟩ (by simp only; omega)
  ·exact bU
  ·simp only
   rw [hmore,if_pos rfl]
   exact i5.more o6 k6 n6 j6
theorem pD {lv:Value} {Lv:List (List Sp)} {snap:Nat} (hv:Sl pe 1 d lv Lv) (u:VOk Lv snap) (hinc:cM d w) (hk:∀ d' w' v',Gr d w d' w'→Sl dh 3 d' v' ((gU (rV Lv snap none none)).map cW)→k v' w'):ai prog 14 #[lv,.int .u64 snap] k w:=by
 obtain ⟨la,lc,rfl⟩:=hv.form
 refine al [.tmp 4] func14 ?_
 refine bA ?_
 have eS:ByteArray.empty=⟨([]:Bytes).toArray⟩:=rfl
 have hVl:=u.vl
 have hVk:=u.vk
 obtain ⟨V,hV⟩:∃ V,V=rV Lv snap none none:=⟨_,rfl⟩
 rw [← hV] at hVl hVk hk
 refine wG hv (by have:=u.n6; omega) (fun x hx=>⟨by have:=(u.sz x hx).1; omega,fun y hy=>by have:=(u.sz x hx).2 y hy; omega⟩) hinc fun d5 w5 v5 g5 s5 => ?_
 refine bA ?_
 refine th (n:=600) (by decide) g5.j fun d6 w6 v6 g6 s6 => ?_
 have i6:=g5.trans g6
 refine bA ?_
 rw [eS]
 refine mo (kl:=[]) (kh:=[]) (bl:=false) (bh:=false) (s5.inc pe.mono g6.i) s6 i6.j u.rin (by decide) (by decide) (Ju 600).1 (by rw [(uk 600).1]; decide) fun d7 w7 v7 l7 g7 s7 hp => ?_
 have i7:=i6.trans g7
 have hp:Pw (mm V (FB pY)) (pX V (-2) false 0 (H0 600)) l7:=by rw [hV]; exact hp
 have hl7:l7.length=601:=by rw [← hp.1,zp,(uk 600).1]
 have hb7:=CN (by omega) hp
 have hk7:=zr hb7 hVk
 refine bA ?_
 refine tj s7 (by omega) (fun x hx=>by have:=hk7 x hx; omega) i7.j fun d8 w8 v8 g8 s8 => ?_
 rw [hb7,show mq=fun s:Sp=>decide (s.ks≠[]) from rfl,CM] at s8
 refine bA ?_
 exact hk d8 w8 v8 (i7.trans g8) s8
end
end Go.Proofs
end
section
namespace Go.E
open Go Go.Sort Go.Proofs
open Go.Lib (uvarint)
section
variable {L F:List Sp} {snap:Nat}
theorem Ky {l:List Sp} (hch:Ch F) (hne:∀ f ∈ F,f.ks≠[]) (hcd:∀ x,Cd (fh F x)) (hst:∀ f ∈ F,(∃ y ∈ l,f.s=y.s∨f.s=y.e)∧∃ y ∈ l,f.e=y.s∨f.e=y.e) (hkey:∀ f ∈ F,∀ k ∈ f.ks,∃ y ∈ l,k ∈ y.ks) (h1:F.length≤96) (h2:∀ f ∈ F,f.ks.length≤1921) (hsn:snap < 18446744073709551616) (hl:∀ x ∈ l,xp x):VOk [F] snap:=by
 have hm:∀ L ∈ [F],L=F:=fun L h=>aM.1 h
 have hw:∀ L ∈ [F],Wf L:=fun L h=>by rw [hm L h]; exact uf.2 hch
 have e:[F].flatten=F:=by simp
 refine ⟨⟨by simp,hsn,hw,fun L h => ?_,Jm hw fun x=>by rw [e]; exact hcd x,uj⟩,by simp,fun L h=>by rw [hm L h]; exact ⟨by omega,fun y hy=>by have:=h2 y hy; omega⟩,by rw [e]; omega⟩
 rw [hm L h]
 refine ⟨by omega,fun s hs=>⟨?_,?_,by have:=h2 s hs; omega,hne s hs,fun x hx => ?_⟩⟩
 ·obtain ⟨y,hy,e⟩:=(hst s hs).1
  have:=hl y hy
  rcases e with e | e
  ·rw [e]; have:=this.1; omega
  ·rw [e]; have:=this.2.1; omega
 ·obtain ⟨y,hy,e⟩:=(hst s hs).2
  have:=hl y hy
  rcases e with e | e
  ·rw [e]; have:=this.1; omega
  ·rw [e]; have:=this.2.1; omega
 ·obtain ⟨y,hy,e⟩:=hkey s hs x hx
  have:=(hl y hy).2.2.2 x e
  unfold Bs
  unfold Bx at this
  omega
theorem yf {x:Sp} (h:kK x.ks):(fT x).length≤x.ks.length:=by
 have h1:=(mG (s:=x) h).length_eq
 have h2:(fT x).length≤(dW (fT x)).length:=by
  have:∀ l:List Sp,(∀ f ∈ l,f.ks≠[])→l.length≤(dW l).length:=by
   intro l
   induction l with
   | nil=>intro _; exact aF _
   | cons a l ih =>
    intro hl
    have h3:=ih fun f hf=>hl f (aW _ hf)
    have h4:=List.length_pos_iff.2 (hl a aK)
    unfold dW at h3 ⊢
    rw [ae,aE,aZ]
    omega
  exact this _ fun f hf=>(jK hf).2.2
 omega
def jc (L:List Sp):List Sp:=L.flatMap fT
theorem yg (hf:∀ x ∈ L,kK x.ks) (hk:∀ x ∈ L,x.ks.length≤40):(jc L).length≤L.length * 40:=by
 unfold jc
 induction L with
 | nil=>simp
 | cons a l ih =>
  have h1:=ih (fun x hx=>hf x (aW _ hx)) (fun x hx=>hk x (aW _ hx))
  have h2:=yf (hf a aK)
  have h3:=hk a aK
  rw [ae,aE,aZ,Nat.add_mul]
  omega
theorem pE {f:Sp} (h:f ∈ jc L):∃ x ∈ L,f ∈ fT x:=by
 unfold jc at h
 exact cu.1 h
theorem uw (hf:∀ x ∈ L,kK x.ks) {f:Sp} (h:f ∈ jc L):∀ k ∈ f.ks,∃ y ∈ L,k ∈ y.ks:=by
 intro k hk
 obtain ⟨x,hx,hfx⟩:=pE h
 refine ⟨x,hx,(mG (hf x hx)).mem_iff.1 ?_⟩
 unfold dW
 exact cu.2 ⟨f,hfx,hk⟩
theorem yh (hf:∀ x ∈ L,kK x.ks) (hk:∀ x ∈ L,x.ks.length≤40):(cG (jc L)).length≤L.length * 40:=by
 have e:∀ l:List Sp,cG l=dW l:=fun l=>rfl
 rw [e]
 unfold jc
 induction L with
 | nil=>simp [dW]
 | cons a l ih =>
  have h1:=ih (fun x hx=>hf x (aW _ hx)) (fun x hx=>hk x (aW _ hx))
  have h2:=(mG (s:=a) (hf a aK)).length_eq
  have h3:=hk a aK
  have e2:dW (fT a++l.flatMap fT)=dW (fT a)++dW (l.flatMap fT):=by unfold dW; rw [ay]
  rw [ae,e2,aE,aZ,Nat.add_mul]
  omega
theorem Ca {l:List Sp} {f:Sp} (h:f ∈ l):f.ks.length≤(dW l).length:=by
 induction l with
 | nil=>cases h
 | cons a l ih =>
  unfold dW at ih ⊢
  rw [ae,aE]
  rcases av.1 h with rfl | h
  ·omega
  ·have:=ih h; omega
theorem H9 (hf:∀ x ∈ L,kK x.ks) (hw:Wf L) (hfit:∀ x ∈ L,xp x) (hk:∀ x ∈ L,x.ks.length≤40) {f:Sp} (h:f ∈ jc L):xh f∧f.s < f.e∧f.ks≠[]∧f.ks.length≤40:=by
 obtain ⟨x,hx,hfx⟩:=pE h
 obtain ⟨e1,e2,e3⟩:=jK hfx
 have hl:=(mG (s:=x) (hf x hx)).length_eq
 have hm:=Ca hfx
 have h4:=hk x hx
 obtain ⟨q1,q2,q3,q4⟩:=hfit x hx
 refine ⟨⟨by rw [e1]; omega,by rw [e2]; omega,by omega,fun k hk2 => ?_⟩,?_,e3,by omega⟩
 ·obtain ⟨y,hy,hky⟩:=uw hf h k hk2
  have:=(hfit y hy).2.2.2 k hky
  unfold Bs
  unfold Bx at this
  omega
 ·rw [e1,e2]; exact (uf.1 hw).1 x hx
theorem yi (hw:Wf L):(jc L).Pairwise fun a b=>¬ b.s < a.s:=by
 have hc:=uf.1 hw
 unfold jc
 induction L with
 | nil=>simp
 | cons a l ih =>
  obtain ⟨hc1,hc2⟩:=hc
  have h2:∀ y ∈ l,¬ y.s < a.e:=fun y hy=>bI hc2 hy
  rw [ae]
  have hw2:Wf l:=uf.2 ⟨fun s hs=>hc1 s (aW _ hs),hc2.of_cons⟩
  refine List.pairwise_append.2 ⟨?_,ih hw2 (uf.1 hw2),fun f hf g hg => ?_⟩
  ·rw [bJ]
   intro i j hi hj _
   have e1:=(jK (an hi)).1
   have e2:=(jK (an hj)).1
   rw [e1,e2]
   exact bQ _
  ·obtain ⟨y,hy,hg⟩:=cu.1 hg
   rw [(jK hf).1,(jK hg).1]
   intro hlt
   have h3:=h2 y hy
   have h4:=hc1 a aK
   exact h3 (by grind)
theorem sy (hf:∀ x ∈ L,kK x.ks) (o:FrOut (jc L) F) (hn:L.length≤8) (hk:∀ x ∈ L,x.ks.length≤40):F.length≤96∧(∀ f ∈ F,f.ks.length≤1920)∧(∀ x,(fh F x).Perm (fh L x)) ∧
    (∀ f ∈ F,(∃ y ∈ L,f.s=y.s∨f.s=y.e)∧∃ y ∈ L,f.e=y.s∨f.e=y.e)∧(∀ f ∈ F,∀ k ∈ f.ks,∃ y ∈ L,k ∈ y.ks):=by
 have hpt:∀ x,(fh F x).Perm (fh L x):=fun x=>(o.pt x).trans (H3 hf x)
 have hstr:∀ f ∈ F,(∃ y ∈ L,f.s=y.s∨f.s=y.e)∧∃ y ∈ L,f.e=y.s∨f.e=y.e:=by
  intro f hF
  obtain ⟨⟨y,hy,e1⟩,z,hz,e2⟩:=o.str f hF
  obtain ⟨a,ha,ha2⟩:=pE hy
  obtain ⟨b,hb,hb2⟩:=pE hz
  obtain ⟨q1,q2,_⟩:=jK ha2
  obtain ⟨r1,r2,_⟩:=jK hb2
  rw [q1,q2] at e1
  rw [r1,r2] at e2
  exact ⟨⟨a,ha,e1⟩,b,hb,e2⟩
 have h1:=Em o.ch fun f hf=>(hstr f hf).1
 refine ⟨by omega,fun f hF => ?_,hpt,hstr,fun f hF k hk2 => ?_⟩
 ·have h2:=H2 o.ch hF
  have h3:=(hpt f.s).length_eq
  have h4:=GO (key:=f.s) hk
  have h5:L.length * 40≤8 * 40:=bO _ hn
  omega
 ·obtain ⟨y,hy,hky⟩:=o.key f hF k hk2
  exact uw hf hy k hky
theorem IA (hf:∀ x ∈ L,kK x.ks) (o:FrOut (jc L) F) (hcd:∀ x,Cd (fh L x)) (hn:L.length≤8) (hsn:snap < 18446744073709551616) (hfit:∀ x ∈ L,xp x) (hk:∀ x ∈ L,x.ks.length≤40):VOk [F] snap:=by
 obtain ⟨h1,h2,h3,h4,h5⟩:=sy hf o hn hk
 exact Ky o.ch (fun f hF=>(o.ne f hF).1) (fun x=>(hcd x).perm (h3 x).symm) h4 h5 h1 (fun f hF=>by have:=h2 f hF; omega) hsn hfit
theorem Cb (hf:∀ x ∈ L,kK x.ks) (o:FrOut (jc L) F) (lo:LvOk [L] 8) (hn:L.length≤8) (hk:∀ x ∈ L,x.ks.length≤40):(gU (rV [L] snap none none)).map cW=(gU (rV [F] snap none none)).map cW:=by
 obtain ⟨_,_,h3,_⟩:=sy hf o hn hk
 have e:[L].flatten=L:=by simp
 refine Eo lo.wf (uf.2 o.ch) fun x=>Jv (lo.cd x) ?_
 rw [e]
 exact (h3 x).symm
theorem IB {n:Nat} {Lv:List (List Sp)} (lo:LvOk Lv n) (hn:n≤8) (hsn:snap < 18446744073709551616) (f2:∀ x ∈ Lv,x.length≤2147483647∧∀ y ∈ x,xp y):VOk Lv snap :=
 ⟨H1 lo (by omega) hsn f2 uj,lo.n6,fun x hx=>⟨by have:=lo.sz x hx; omega,fun y hy=>by have:=(lo.ks x hx y hy).2; omega⟩,by
  have h1:=fZ (Lv:=Lv) (n:=n) lo.sz
  have h2:Lv.length * n≤6 * n:=bO _ lo.n6
  omega⟩
theorem E2 {f:Sp} {t:Nat} (ok:DecOk f t):(E.valOf f).length≤4294967296:=by
 have he:=ok.e
 have hl:=ok.l
 have hv:=jT (x:=f.e.length) (by omega)
 unfold E.valOf
 split
 ·have hsz:=kp (l:=f.ks.map K.sv) (fun z hz=>by obtain ⟨y,hy,rfl⟩:=bj.1 hz; exact ok.sh y hy)
  rw [aR] at hsz
  rw [aE,aE,GH]
  omega
 ·split
  ·have hsz:=kq (l:=f.ks.map K.suf) (fun z hz=>by obtain ⟨y,hy,rfl⟩:=bj.1 hz; exact (ok.sh y hy).1)
   rw [aR] at hsz
   rw [aE,aE,GH]
   omega
  ·omega
end
end Go.E
end
