/- Parts of the proof: Sk, Fm, Fs. -/
import Derived.Test.YtjcbeinpkafjiaaGreatR11
set_option linter.all false
set_option maxRecDepth 10000
section
namespace Go.Proofs
open Go Go.E Go.Sort Go.Proofs.Tryz
section
variable {k:aq} {d w:World} {U o Bf u:Nat} {Z:TX} {Ls:Array Lvl} {B:List Bytes} {pos:Nat→Int}
theorem Dq {a:Option Addr} {n c:Nat} {x:Value} {q:aq}:pe prog #[159,110] 159 #[.slice a n c,x] q w=dw prog (Builtin.append_ #[159,159] 159 #[.slice a n c,x]) q w:=by
 have h2:prog.underlying 110=some (.slice 256):=by kernel_rfl
 have h1:prog.underlying 159=some (.slice 256):=by kernel_rfl
 have:=G1 (P:=prog) (t:=159) (t2:=110) (ty:=159) (a:=a) (n:=n) (c:=c) (x:=x) (w:=w) h1 h2
 have e:pe prog #[159,110] 159 #[.slice a n c,x] q w=dw prog (Builtin.append_ #[159,110] 159 #[.slice a n c,x]) q w:=by simp only [pe]
 rw [e]
 simp only [dw,this]
theorem Ae {o f:Nat} {a b:Value} {x y:Bytes} (h0:w.cell? ⟨U,o,none⟩=some (.pointer (some ⟨Bf,f,none⟩))) (h1:w.cell? ⟨Bf,f+2,none⟩=some (.func (.func 102) #[] #[])) (ha:fV w a x) (hb:fV w b y) (hk:k (.int .i64 (eY x y)) w) :
    aX prog 208 #[.pointer (some ⟨U,o,none⟩),a,b] k w:=by
 refine ai [.tmp 6] func208 ?_
 refine dV @h0 @h1 ?_
 refine fG ha hb ?_
 refine al ?_
 exact hk
set_option maxHeartbeats 1000000 in
theorem zR {vk:Value} {Sx:Nat→Prop} {lk:List KR} {sa ea:Option Addr} {sn sc en ec:Nat} (m:MS d U o Bf Z Ls B) (g:MB d w U o Bf 0 Ls pos) (mu:MU w U o Z) (hcmp:w.cell? ⟨Bf,2,none⟩=some (.func (.func 102) #[] #[]))
    (hpos:∀ i,i < Ls.size→0 < Ls[i]!.L.length→pos i=cp (Lf Ls) B u i) (rk:KOwn d w Bf 0 vk lk) (rx:Z.X w Sx)
    (hvk:∀ g,vk.ownBlock=some g→g≠U∧g≠Bf∧cq d g∧(∀ i,i < Ls.size→g≠Ls[i]!.I)) (hvs:∀ g,Sx g→g≠U∧g≠Bf∧cq d g∧(∀ i,i < Ls.size→g≠Ls[i]!.I)∧vk.ownBlock≠some g)
    (u3:w.cell? ⟨U,o+1,none⟩=some (.slice sa sn sc)) (u4:w.cell? ⟨U,o+2,none⟩=some (.slice ea en ec))
    (hk:∀ w' vk' S' lk' kv,w'.cell? ⟨U,o+4,none⟩=some (.slice sa sn sc)→w'.cell? ⟨U,o+5,none⟩=some (.slice ea en ec)→w'.cell? ⟨U,o+6,none⟩=some kv→w'.cell? ⟨U,o+7,none⟩=some (.int .i8 Z.ord) →
     KOwn d w' Bf 0 vk' lk'→yj d (fun b=>vk'.ownBlock=some b∨S' b) w' kv (Z.F (cM Ls.size (Lf Ls) B u))→Z.X w' S'→(∀ b,S' b→b < w'.heap.size)→cZ w vk vk'→(∀ b,S' b→Sx b∨w.heap.size≤b)→(∀ g,S' g→vk'.ownBlock≠some g)→Keep (E0 U o Bf Z vk Sx) w w' →
     k (.tuple #[.bool (py Ls.size (Lf Ls) B u),.pointer (some ⟨U,o+4,none⟩)]) w') :
    aX prog 209 #[.pointer (some ⟨U,o,none⟩),.int .i8 (1)] k w:=by
 have c1:=g.bufs
 have lvs:=g.lvls
 have fU:=g.fU
 have fB:=g.fB
 have hUs:=aE u3
 have hBs:=aE lvs
 have ne:=m.mc.ne
 obtain ⟨HK,ti,hHK⟩:=m.ti
 obtain ⟨a0,cap0,e0,hc0,_⟩:=bZ rk.own
 subst e0
 have r0:=rk.hd
 have m11:((-1:Int) == 1)=false:=by decide
 have z0:(0:Int).toNat=0:=rfl
 have zc:(0:Int)≤cap0:=by omega
 refine ai [.tmp 4,.tmp 5] func209 ?_
 refine al ?_
 refine ay (sq [0,1,2] (.read 3 (sq [4,5,6] (.read 7 (sq [8,9] (.read 10 (sq [11,12,13] (.eff 14 [] .done)))))))) ?_
 simp (disch:=first | exact dZ | fail) only [go_sem,c1,r0,sD Tryz.es159,z0,zc,fB,lvs]
 obtain ⟨w1,hw1⟩:∃ w1,w1=(w.setCell ⟨Bf,0,none⟩ (.slice a0 0 cap0)).drew:=⟨_,rfl⟩
 rw [← hw1]
 have k1:Keep (g9 Bf 0 (.slice a0 lk.length cap0)) w w1:=by rw [hw1]; exact ((Keep.refl _ w).set (fun _ => .inl ⟨rfl,rfl⟩)).drew
 have k1':Keep (fun b x=>b=Bf∧x=0) w w1:=by rw [hw1]; exact ((Keep.refl _ w).set (fun _=>⟨rfl,rfl⟩)).drew
 have ro:KOwn d w1 Bf 0 (.slice a0 0 cap0) []:=by
  refine ⟨by rw [hw1]; exact bb @r0,aZ (fX rk.own) k1' fun g hg x h=>(hvk g (by rw [cI a0 lk.length 0]; exact hg)).2.1 h.1,fun x hx=>by simp at hx⟩
 have nw:cZ w (.slice a0 lk.length cap0) (.slice a0 0 cap0):=fun g hg => .inl (by rw [cI a0 lk.length 0]; exact hg)
 refine bO (fun i:Nat=>[(0,.pointer (some ⟨U,o,none⟩)),(1,.int .i8 (1)),(6,.bool (pB (Lf Ls) B u i)),(42,.int .i64 Ls.size),(43,.int .i64 i)])
  (fun i w'=>∃ v l,KOwn d w' Bf 0 v l∧l.map KR.k=jV (Lf Ls) B u i∧cZ w (.slice a0 lk.length cap0) v∧Keep (g9 Bf 0 (.slice a0 lk.length cap0)) w w'∧i≤Ls.size) (fun i _=>Ls.size - i) 0 (by kernel_rfl) ?_ ⟨_,[],ro,rfl,nw,k1,aQ _⟩ ?_
 ·((try simp (disch:=first | exact dZ | fail) only [go_sem,ud]); (try simp only [and_true,true_and,dF,aW,cW,aK]); (try (refine ⟨?_,?_⟩ <;> omega)); (try omega))
 clear ro k1 k1' hw1 w1
 rintro K e i w1 ⟨v,l,i1,i2,i3,i4,i5⟩ hK
 have nrU:∀ x,¬ g9 Bf 0 (.slice a0 lk.length cap0) U x:=by
  rintro x (⟨h,_⟩ | h)
  ·exact ne h.symm
  ·exact (hvk U h).1 rfl
 have nrB:∀ x,x≠0→¬ g9 Bf 0 (.slice a0 lk.length cap0) Bf x:=by
  rintro x hx (⟨_,h⟩ | h)
  ·exact hx h
  ·exact (hvk Bf h).2.1 rfl
 have g1:MB d w1 U o Bf 0 Ls pos:=g.keep m.mc i4 (nrU _) (nrB _ (by omega)) (nrU _) (fun x _ _=>nrU x) (by
  rintro i hi x (⟨h,_⟩ | h)
  ·exact m.mc.iB i hi h
  ·exact (hvk _ h).2.2.2 i hi rfl) (by
  rintro x y (⟨rfl,_⟩ | h)
  ·exact m.mc.oB _
  ·exact (hvk _ h).2.2.1 _)
 have c1:=g1.bufs
 have lvs:=g1.lvls
 have fU:=g1.fU
 have fB:=g1.fB
 have n10:=m.mc.n10
 by_cases hi:i < Ls.size
 ·have hi':(i:Int) < Ls.size:=by omega
  have l1:=g1.lv i hi
  have d1:=l1.kd
  obtain ⟨vsp,d3,_,y3⟩:=l1.sp
  have hcle:=jS (L:=Lf Ls) (B:=B) u i
  unfold Lf at hcle
  by_cases hc:cp (Lf Ls) B u i % 2=1
  ·have hlen:0 < Ls[i]!.L.length:=by unfold Lf at hc; omega
   have hp:=hpos i hi hlen
   obtain ⟨c,hcc⟩:∃ c,c=cp (Lf Ls) B u i:=⟨_,rfl⟩
   have hcle:c≤2 * Ls[i]!.L.length:=by rw [hcc]; exact hcle
   rw [← hcc] at hp hc
   have hvl:ez Ls[i]!.L (pos i):=⟨by omega,by omega⟩
   have hkd:et Ls[i]!.L (pos i)=2:=xZ hvl (by omega)
   rw [hkd] at d1
   have e3:=y3 hvl
   subst e3
   rw [show (pos i).toNat / 2=c / 2 by omega] at d3
   obtain ⟨_,_,⟨kv,s1,s2⟩,_⟩:=m.mc.sp i hi (c / 2) (by omega)
   obtain ⟨xs,x1,x2,x3⟩:=uZ s2 (m.mc.kn i hi (c / 2) (by omega))
   obtain ⟨kva,kvc,hkv⟩:=s2.form
   subst hkv
   have s1:=g1.inc _ _ _ s1
   have x3:=x3 w1 g1.inc
   have r1:=i1.hd
   obtain ⟨va,vcap,hve,_,_⟩:=bZ i1.own
   subst hve
   refine gH @hi' @c1 @lvs @d1 @m11 ?_
   refine ay (sq [0,1,2] (.read 3 (sq [4,5,6] (.read 7 (sq [8,9] (.read 10 (sq [11,12,13] (.read 14 (sq [15,16] (.read 17 (sq [18,19,20,21] (.read 22 (sq [23,24] (.read 25 (.eff 26 [3] (sq [27,28] (.eff 29 [] .done))))))))))))))))) ?_
   simp (disch:=first | exact dZ | fail) only [go_sem,c1,lvs,d3,uN,s1,r1]
   have hvv:∀ g',(Value.slice va l.length vcap).ownBlock=some g'→g'≠U∧g'≠Bf∧cq d g'∧(∀ i,i < Ls.size→g'≠Ls[i]!.I):=fun g' hg'=>by
    rcases i3 g' hg' with h | h
    ·exact hvk g' h
    ·exact ⟨by omega,by omega,g.inc.out h,fun i hi he=>by have:=aE (g.lv i hi).iter.c0; omega⟩
   have hfk:=jj (Lf Ls) B u i
   rw [← hcc,if_pos hc] at hfk
   have hfl:=ub Ls.size (Lf Ls) B u (i:=i+1) (by omega)
   have hlm:=m.len u
   have hll:l.length=(jV (Lf Ls) B u i).length:=by rw [← i2,ah]
   have hsum:l.length+Ls[i]!.L[c / 2]!.ks.length < 100000:=by
    rw [hfk,aM] at hfl
    unfold Lf at hfl hlm hll
    omega
   rw [Dq]
   refine rB (m:=Ls[i]!.L[c / 2]!.ks.length) (news:=flat xs) rw159 i1.own.drew (by rw [fq,← x1,ah]) (by exact x3) (kj x2) (by omega) fun v5 w5 o5 k5 n5 _ => ?_
   obtain ⟨va5,vc5,e5,_,_⟩:=bZ o5
   subst e5
   have k5:Keep (fun b _=>(Value.slice va l.length vcap).ownBlock=some b) w1 w5:=(Keep.refl _ w1).drew.trans (k5 _ fun b o hb _=>hb)
   have hUs1:=aE c1
   have hBs1:=aE lvs
   have c1:=k5.some c1 (fun h=>(hvv _ h).1 rfl)
   have lvs:=k5.some lvs (fun h=>(hvv _ h).2.1 rfl)
   have r1:=k5.some r1 (fun h=>(hvv _ h).2.1 rfl)
   have d3:=k5.some d3 (fun h=>(hvv _ h).1 rfl)
   have inc5:bz d w5:=g1.inc.keep k5 fun b o h=>(hvv b h).2.2.1 o
   obtain ⟨_,_,⟨kv',s1',_⟩,_⟩:=m.mc.sp i hi (c / 2) (by omega)
   have s1:=k5.some s1 (fun h=>bz.ne s1' (hvv _ h).2.2.1 (by rfl))
   have fB5:∀ x,w5.frozen? ⟨Bf,x,none⟩=false:=fun x=>by rw [k5.frozen Bf x hBs1]; exact fB x
   simp (disch:=first | exact dZ | fail) only [go_sem,c1,lvs,d3,uN,s1,r1,fB5]
   have hcv:pB (Lf Ls) B u (i+1)=true:=by rw [mb,← hcc,aO hc,Bool.or_true]
   have hxl:xs.length=Ls[i]!.L[c / 2]!.ks.length:=by rw [← x1,ah]
   have n15:cZ w1 (.slice va l.length vcap) (.slice va5 (l.length+Ls[i]!.L[c / 2]!.ks.length) vc5):=fun g' hg'=>by
    rcases n5 with h | ⟨g2,h,h',_⟩
    ·exact .inl (by rw [← h]; exact hg')
    ·rw [h] at hg'
     simp only [aK] at hg'
     subst hg'
     exact .inr h'
   refine hK _ _ (i+1) ?_ ⟨.slice va5 (l.length+Ls[i]!.L[c / 2]!.ks.length) vc5,l++xs,⟨?_,?_,?_⟩,?_,i3.trans n15 i4.size,?_,by omega⟩ (by omega)
   ·((try simp (disch:=first | exact dZ | fail) only [go_sem,hcv]); (try simp only [and_true,true_and,dF,aW,cW,aK]); (try (refine ⟨?_,?_⟩ <;> omega)); (try omega))
   ·exact bb @r1
   ·rw [aM,hxl,ij]
    refine aZ o5 (bR (M:=fun b o=>b=Bf∧o=0) ⟨rfl,rfl⟩) fun g' hg' o h => ?_
    rcases n15 g' hg' with h' | h'
    ·exact (hvv g' h').2.1 h.1
    ·have:=h.1; omega
   ·intro y hy
    rcases ax.1 hy with h | h
    ·exact i1.good y h
    ·exact x2 y h
   ·rw [bC,i2,x1,hfk]; rfl
   ·exact (i4.tr k5 fun b o hb h=>i3.m b o hb (.inr h)).set (fun _ => .inl ⟨rfl,rfl⟩)
  ·have hkd:(et Ls[i]!.L (pos i) == 2)=false:=by
     rw [beq_eq_false_iff_ne]
     unfold et
     split
     ·rename_i hv
      have hp:=hpos i hi (by unfold ez at hv; omega)
      split <;> omega
     ·omega
   have hcv:pB (Lf Ls) B u (i+1)=pB (Lf Ls) B u i:=by rw [mb,aF hc,Bool.or_false]
   have hfk:=jj (Lf Ls) B u i
   rw [if_neg hc,au] at hfk
   refine rA @hi' @c1 @lvs @d1 @hkd @m11 ?_
   refine hK _ _ (i+1) ?_ ⟨v,l,i1,by rw [i2,hfk],i3,i4,by omega⟩ (by omega)
   ((try simp (disch:=first | exact dZ | fail) only [go_sem,hcv]); (try simp only [and_true,true_and,dF,aW,cW,aK]); (try (refine ⟨?_,?_⟩ <;> omega)); (try omega))
 ·have hi':¬ (i:Int) < Ls.size:=by omega
  obtain rfl:i=Ls.size:=by omega
  have hcv:pB (Lf Ls) B u Ls.size=py Ls.size (Lf Ls) B u:=rfl
  have hfk:jV (Lf Ls) B u Ls.size=cM Ls.size (Lf Ls) B u:=rfl
  rw [hfk] at i2
  rw [hcv]
  have hvv:∀ g',v.ownBlock=some g'→g'≠U∧g'≠Bf∧cq d g'∧(∀ i,i < Ls.size→g'≠Ls[i]!.I):=fun g' hg'=>by
   rcases i3 g' hg' with h | h
   ·exact hvk g' h
   ·exact ⟨by omega,by omega,g.inc.out h,fun i hi he=>by have:=aE (g.lv i hi).iter.c0; omega⟩
  have hll:l.length < 100000:=by
   have:=m.len u
   rw [← i2,ah] at this
   exact this
  refine dV @hi' @c1 ?_
  refine qC i1 g1.inc (fun g' hg'=>⟨(hvv g' hg').2.1,(hvv g' hg').2.2.1⟩) (by omega) fun w2 l2 j1 hl2 _ j2 j3 k2 => ?_
  have k02:Keep (g9 Bf 0 (.slice a0 lk.length cap0)) w w2:=i4.tr k2 fun b o hb h=>i3.m b o hb (.inr h)
  obtain ⟨v6,u6⟩:=mu.u6
  obtain ⟨v7,u7⟩:=mu.u7
  obtain ⟨v8,u8⟩:=mu.u8
  obtain ⟨v9,u9⟩:=mu.u9
  have u3:=k02.some u3 (nrU _)
  have u4:=k02.some u4 (nrU _)
  have u6:=k02.some u6 (nrU _)
  have u7:=k02.some u7 (nrU _)
  have u8:=k02.some u8 (nrU _)
  have u9:=k02.some u9 (nrU _)
  have u5:=k02.some mu.u5 (nrU _)
  have hcmp:=k02.some hcmp (nrB _ (by omega))
  have c1:=k02.some g.bufs (nrU _)
  have fU2:∀ x,w2.frozen? ⟨U,x,none⟩=false:=fun x=>by rw [k02.frozen U x hUs]; exact g.fU x
  have fB2:∀ x,w2.frozen? ⟨Bf,x,none⟩=false:=fun x=>by rw [k02.frozen Bf x hBs]; exact g.fB x
  have inc2:bz d w2:=g1.inc.keep k2 fun b o h=>(hvv b h).2.2.1 o
  obtain ⟨ka,cap,hve,_,_⟩:=bZ j1.own
  subst hve
  have j1h:=j1.hd
  refine al ?_
  refine ay (sq [0,1,2,3] (.read 4 (sq [5,6,7] (.read 8 (sq [9,10,11] (.read 12 (sq [13,14] (.read 15 (sq [16,17,18] (.eff 19 [] .done)))))))))) ?_
  refine xT @c1 @u3 @u4 @j1h @u6 @u7 @u8 @u9 @fU2 ?_
  refine ay (sq [0,1,2] (.read 3 (sq [4,5,6] (.read 7 (sq [8,9,10] (.read 11 (sq [12,13,14] (.read 15 (sq [16,17,18,19,20] (.eff 21 [] (sq [22] .done))))))))))) ?_
  refine vR @c1 @u5 @hcmp @u6 @u7 @u8 @u9 ?_
  obtain ⟨w3,hw3⟩:∃ w3,w3=((((w2.setCell ⟨U,o+4,none⟩ (.slice sa sn sc)).setCell ⟨U,o+5,none⟩ (.slice ea en ec)).setCell ⟨U,o+6,none⟩ (.slice ka l2.length cap)).setCell ⟨U,o+7,none⟩ (.int .i8 0)).drew.drew:=⟨_,rfl⟩
  rw [← hw3]
  have k23:Keep (fun b x=>b=U∧o+4≤x∧x≤o+7) w2 w3:=by
   rw [hw3]
   exact (((((Keep.refl _ w2).set (fun _=>⟨rfl,by omega,by omega⟩)).set (fun _=>⟨rfl,by omega,by omega⟩)).set (fun _=>⟨rfl,by omega,by omega⟩)).set (fun _=>⟨rfl,by omega,by omega⟩)).drew.drew
  have q6:w3.cell? ⟨U,o+4,none⟩=some (.slice sa sn sc):=by rw [hw3]; exact bb @u6
  have q7:w3.cell? ⟨U,o+5,none⟩=some (.slice ea en ec):=by rw [hw3]; exact bb @u7
  have q8:w3.cell? ⟨U,o+6,none⟩=some (.slice ka l2.length cap):=by rw [hw3]; exact bb @u8
  have q9:w3.cell? ⟨U,o+7,none⟩=some (.int .i8 0):=by rw [hw3]; exact bb @u9
  have rx3:Z.X w3 Sx:=by
   refine ti.keep (ti.keep rx k02 fun b x hb h => ?_) k23 fun b x hb h => ?_
   ·rcases h with ⟨rfl,rfl⟩ | h
    ·exact ⟨fun h=>by have:=m.tB h; omega,fun h=>(hvs _ h).2.1 rfl,m.mc.oB _⟩
    ·obtain ⟨a1,a2,a3,_⟩:=hvk b h
     exact ⟨fun h=>by rcases m.tT h with h | h; exact a1 h; exact a2 h,fun h'=>(hvs _ h').2.2.2.2 h,a3 x⟩
   ·obtain ⟨rfl,h1,h2⟩:=h
    exact ⟨fun h=>by have:=m.tU h; omega,fun h=>(hvs _ h).1 rfl,m.mc.oU _⟩
  have rk3:KOwn d w3 Bf 0 (.slice ka l2.length cap) l2:=j1.keep k23 (fun h=>ne h.1) fun g' hg' x h=>(hvv g' hg').1 h.1
  have hcd:Cd (l2.map KR.k):=by
   have hc:=m.cd u
   rw [← i2] at hc
   exact ⟨(List.Perm.pairwise_iff (by intro x y hxy e e2; exact hxy e.symm e2.symm) j2).2 hc.dist,fun x hx=>hc.kind x (j2.mem_iff.1 hx)⟩
  have hdk:DK l2:=by
   have h2:=hcd.dist
   rw [List.pairwise_map] at h2
   refine (j3.and h2).imp fun {x y} h=>⟨h.1,fun e => ?_⟩
   have:=h.2 e
   have:=h.1
   omega
  have z23:=k23.size
  have z02:=k02.size
  have hsx:∀ g',Sx g'→g' < w.heap.size:=fun g' hg'=>(ti.outS rx g' hg').2
  refine ti.run rx3 q6 q7 q8 q9 rk3 (fun x=>by rw [k23.frozen U x (aE u3)]; exact fU2 x) (fun x=>by rw [k23.frozen Bf x (aE hcmp)]; exact fB2 x) (inc2.keep k23 fun b x h=>by rw [h.1]; exact m.mc.oU x) m.mc.oU m.mc.oB ne
   (fun g' hg'=>by
    have:=hvv g' hg'
    refine ⟨this.1,this.2.1,this.2.2.1,fun hs => ?_⟩
    rcases i3 g' hg' with h | h
    ·exact (hvs g' hs).2.2.2.2 h
    ·have:=hsx g' hs; omega) (fun g' hg'=>⟨(hvs g' hg').1,(hvs g' hg').2.1⟩) hdk (by omega) (ks:=cM Ls.size (Lf Ls) B u) (by rw [← i2]; exact j2) (m.cd u) (hHK u) fun w4 S4 c kv p6 p7 p8 p9 ok oc oi ox os k4 => ?_
  refine al ?_
  refine ay (sq [0,1,2,3,4,5] .done) ?_
  refine al ?_
  refine hk w4.drew _ S4 c kv p6 p7 p8 p9 (by rw [← oc] at ok; exact ok.drew) (by rw [← oc] at oi; exact oi.drew) (Z.dr ox) (fun b hb=>(ti.outS ox b hb).2) (by rw [oc]; exact i3) (fun b hb => ?_) (fun g' hg' he => ?_) ?_
  ·rcases os b hb with h | h
   ·exact .inl h
   ·exact .inr (by omega)
  ·rw [oc] at he
   rcases os g' hg' with h | h
   ·rcases i3 g' he with h' | h'
    ·exact (hvs g' h).2.2.2.2 h'
    ·have:=hsx g' h; omega
   ·have:=(j1.own.lt g' he).2
    omega
  ·refine ((k02.mono fun b x _ h => ?_).tr k23 fun b x _ h => .inl ⟨h.1,h.2⟩).tr k4.drew fun b x hb h => ?_
   ·rcases h with ⟨h1,h2⟩ | h
    ·exact .inr (.inl ⟨h1,h2⟩)
    ·exact .inr (.inr (.inr (.inl h)))
   ·rcases h with h | h | h | h
    ·exact .inl h
    ·exact .inr (.inr (.inl h))
    ·rcases i3 b h with h' | h'
     ·exact .inr (.inr (.inr (.inl h')))
     ·omega
    ·exact .inr (.inr (.inr (.inr h)))
set_option maxHeartbeats 1000000 in
theorem zS {vk:Value} {Sx:Nat→Prop} {lk:List KR} {sa ea:Option Addr} {sn sc en ec:Nat} (m:MS d U o Bf Z Ls B) (g:MB d w U o Bf 0 Ls pos) (mu:MU w U o Z) (hcmp:w.cell? ⟨Bf,2,none⟩=some (.func (.func 102) #[] #[]))
    (hpos:∀ i,i < Ls.size→0 < Ls[i]!.L.length→pos i+1=cp (Lf Ls) B u i) (rk:KOwn d w Bf 0 vk lk) (rx:Z.X w Sx)
    (hvk:∀ g,vk.ownBlock=some g→g≠U∧g≠Bf∧cq d g∧(∀ i,i < Ls.size→g≠Ls[i]!.I)) (hvs:∀ g,Sx g→g≠U∧g≠Bf∧cq d g∧(∀ i,i < Ls.size→g≠Ls[i]!.I)∧vk.ownBlock≠some g)
    (u3:w.cell? ⟨U,o+1,none⟩=some (.slice sa sn sc)) (u4:w.cell? ⟨U,o+2,none⟩=some (.slice ea en ec))
    (hk:∀ w' vk' S' lk' kv,w'.cell? ⟨U,o+4,none⟩=some (.slice sa sn sc)→w'.cell? ⟨U,o+5,none⟩=some (.slice ea en ec)→w'.cell? ⟨U,o+6,none⟩=some kv→w'.cell? ⟨U,o+7,none⟩=some (.int .i8 Z.ord) →
     KOwn d w' Bf 0 vk' lk'→yj d (fun b=>vk'.ownBlock=some b∨S' b) w' kv (Z.F (cM Ls.size (Lf Ls) B u))→Z.X w' S'→(∀ b,S' b→b < w'.heap.size)→cZ w vk vk'→(∀ b,S' b→Sx b∨w.heap.size≤b)→(∀ g,S' g→vk'.ownBlock≠some g)→Keep (E0 U o Bf Z vk Sx) w w' →
     k (.tuple #[.bool (py Ls.size (Lf Ls) B u),.pointer (some ⟨U,o+4,none⟩)]) w') :
    aX prog 209 #[.pointer (some ⟨U,o,none⟩),.int .i8 (-1)] k w:=by
 have c1:=g.bufs
 have lvs:=g.lvls
 have fU:=g.fU
 have fB:=g.fB
 have hUs:=aE u3
 have hBs:=aE lvs
 have ne:=m.mc.ne
 obtain ⟨HK,ti,hHK⟩:=m.ti
 obtain ⟨a0,cap0,e0,hc0,_⟩:=bZ rk.own
 subst e0
 have r0:=rk.hd
 have m11:((-1:Int) == 1)=false:=by decide
 have z0:(0:Int).toNat=0:=rfl
 have zc:(0:Int)≤cap0:=by omega
 refine ai [.tmp 4,.tmp 5] func209 ?_
 refine al ?_
 refine ay (sq [0,1,2] (.read 3 (sq [4,5,6] (.read 7 (sq [8,9] (.read 10 (sq [11,12,13] (.eff 14 [] .done)))))))) ?_
 simp (disch:=first | exact dZ | fail) only [go_sem,c1,r0,sD Tryz.es159,z0,zc,fB,lvs]
 obtain ⟨w1,hw1⟩:∃ w1,w1=(w.setCell ⟨Bf,0,none⟩ (.slice a0 0 cap0)).drew:=⟨_,rfl⟩
 rw [← hw1]
 have k1:Keep (g9 Bf 0 (.slice a0 lk.length cap0)) w w1:=by rw [hw1]; exact ((Keep.refl _ w).set (fun _ => .inl ⟨rfl,rfl⟩)).drew
 have k1':Keep (fun b x=>b=Bf∧x=0) w w1:=by rw [hw1]; exact ((Keep.refl _ w).set (fun _=>⟨rfl,rfl⟩)).drew
 have ro:KOwn d w1 Bf 0 (.slice a0 0 cap0) []:=by
  refine ⟨by rw [hw1]; exact bb @r0,aZ (fX rk.own) k1' fun g hg x h=>(hvk g (by rw [cI a0 lk.length 0]; exact hg)).2.1 h.1,fun x hx=>by simp at hx⟩
 have nw:cZ w (.slice a0 lk.length cap0) (.slice a0 0 cap0):=fun g hg => .inl (by rw [cI a0 lk.length 0]; exact hg)
 refine bO (fun i:Nat=>[(0,.pointer (some ⟨U,o,none⟩)),(1,.int .i8 (-1)),(6,.bool (pB (Lf Ls) B u i)),(42,.int .i64 Ls.size),(43,.int .i64 i)])
  (fun i w'=>∃ v l,KOwn d w' Bf 0 v l∧l.map KR.k=jV (Lf Ls) B u i∧cZ w (.slice a0 lk.length cap0) v∧Keep (g9 Bf 0 (.slice a0 lk.length cap0)) w w'∧i≤Ls.size) (fun i _=>Ls.size - i) 0 (by kernel_rfl) ?_ ⟨_,[],ro,rfl,nw,k1,aQ _⟩ ?_
 ·((try simp (disch:=first | exact dZ | fail) only [go_sem,ud]); (try simp only [and_true,true_and,dF,aW,cW,aK]); (try (refine ⟨?_,?_⟩ <;> omega)); (try omega))
 clear ro k1 k1' hw1 w1
 rintro K e i w1 ⟨v,l,i1,i2,i3,i4,i5⟩ hK
 have nrU:∀ x,¬ g9 Bf 0 (.slice a0 lk.length cap0) U x:=by
  rintro x (⟨h,_⟩ | h)
  ·exact ne h.symm
  ·exact (hvk U h).1 rfl
 have nrB:∀ x,x≠0→¬ g9 Bf 0 (.slice a0 lk.length cap0) Bf x:=by
  rintro x hx (⟨_,h⟩ | h)
  ·exact hx h
  ·exact (hvk Bf h).2.1 rfl
 have g1:MB d w1 U o Bf 0 Ls pos:=g.keep m.mc i4 (nrU _) (nrB _ (by omega)) (nrU _) (fun x _ _=>nrU x) (by
  rintro i hi x (⟨h,_⟩ | h)
  ·exact m.mc.iB i hi h
  ·exact (hvk _ h).2.2.2 i hi rfl) (by
  rintro x y (⟨rfl,_⟩ | h)
  ·exact m.mc.oB _
  ·exact (hvk _ h).2.2.1 _)
 have c1:=g1.bufs
 have lvs:=g1.lvls
 have fU:=g1.fU
 have fB:=g1.fB
 have n10:=m.mc.n10
 by_cases hi:i < Ls.size
 ·have hi':(i:Int) < Ls.size:=by omega
  have l1:=g1.lv i hi
  have d1:=l1.kd
  obtain ⟨vsp,d3,_,y3⟩:=l1.sp
  have hcle:=jS (L:=Lf Ls) (B:=B) u i
  unfold Lf at hcle
  by_cases hc:cp (Lf Ls) B u i % 2=1
  ·have hlen:0 < Ls[i]!.L.length:=by unfold Lf at hc; omega
   have hp:=hpos i hi hlen
   obtain ⟨c,hcc⟩:∃ c,c=cp (Lf Ls) B u i:=⟨_,rfl⟩
   have hcle:c≤2 * Ls[i]!.L.length:=by rw [hcc]; exact hcle
   rw [← hcc] at hp hc
   have hvl:ez Ls[i]!.L (pos i):=⟨by omega,by omega⟩
   have hkd:et Ls[i]!.L (pos i)=1:=kZ hvl (by omega)
   rw [hkd] at d1
   have e3:=y3 hvl
   subst e3
   rw [show (pos i).toNat / 2=c / 2 by omega] at d3
   obtain ⟨_,_,⟨kv,s1,s2⟩,_⟩:=m.mc.sp i hi (c / 2) (by omega)
   obtain ⟨xs,x1,x2,x3⟩:=uZ s2 (m.mc.kn i hi (c / 2) (by omega))
   obtain ⟨kva,kvc,hkv⟩:=s2.form
   subst hkv
   have s1:=g1.inc _ _ _ s1
   have x3:=x3 w1 g1.inc
   have r1:=i1.hd
   obtain ⟨va,vcap,hve,_,_⟩:=bZ i1.own
   subst hve
   refine gH @hi' @c1 @lvs @d1 @m11 ?_
   refine ay (sq [0,1,2] (.read 3 (sq [4,5,6] (.read 7 (sq [8,9] (.read 10 (sq [11,12,13] (.read 14 (sq [15,16] (.read 17 (sq [18,19,20,21] (.read 22 (sq [23,24] (.read 25 (.eff 26 [3] (sq [27,28] (.eff 29 [] .done))))))))))))))))) ?_
   simp (disch:=first | exact dZ | fail) only [go_sem,c1,lvs,d3,uN,s1,r1]
   have hvv:∀ g',(Value.slice va l.length vcap).ownBlock=some g'→g'≠U∧g'≠Bf∧cq d g'∧(∀ i,i < Ls.size→g'≠Ls[i]!.I):=fun g' hg'=>by
    rcases i3 g' hg' with h | h
    ·exact hvk g' h
    ·exact ⟨by omega,by omega,g.inc.out h,fun i hi he=>by have:=aE (g.lv i hi).iter.c0; omega⟩
   have hfk:=jj (Lf Ls) B u i
   rw [← hcc,if_pos hc] at hfk
   have hfl:=ub Ls.size (Lf Ls) B u (i:=i+1) (by omega)
   have hlm:=m.len u
   have hll:l.length=(jV (Lf Ls) B u i).length:=by rw [← i2,ah]
   have hsum:l.length+Ls[i]!.L[c / 2]!.ks.length < 100000:=by
    rw [hfk,aM] at hfl
    unfold Lf at hfl hlm hll
    omega
   rw [Dq]
   refine rB (m:=Ls[i]!.L[c / 2]!.ks.length) (news:=flat xs) rw159 i1.own.drew (by rw [fq,← x1,ah]) (by exact x3) (kj x2) (by omega) fun v5 w5 o5 k5 n5 _ => ?_
   obtain ⟨va5,vc5,e5,_,_⟩:=bZ o5
   subst e5
   have k5:Keep (fun b _=>(Value.slice va l.length vcap).ownBlock=some b) w1 w5:=(Keep.refl _ w1).drew.trans (k5 _ fun b o hb _=>hb)
   have hUs1:=aE c1
   have hBs1:=aE lvs
   have c1:=k5.some c1 (fun h=>(hvv _ h).1 rfl)
   have lvs:=k5.some lvs (fun h=>(hvv _ h).2.1 rfl)
   have r1:=k5.some r1 (fun h=>(hvv _ h).2.1 rfl)
   have d3:=k5.some d3 (fun h=>(hvv _ h).1 rfl)
   have inc5:bz d w5:=g1.inc.keep k5 fun b o h=>(hvv b h).2.2.1 o
   obtain ⟨_,_,⟨kv',s1',_⟩,_⟩:=m.mc.sp i hi (c / 2) (by omega)
   have s1:=k5.some s1 (fun h=>bz.ne s1' (hvv _ h).2.2.1 (by rfl))
   have fB5:∀ x,w5.frozen? ⟨Bf,x,none⟩=false:=fun x=>by rw [k5.frozen Bf x hBs1]; exact fB x
   simp (disch:=first | exact dZ | fail) only [go_sem,c1,lvs,d3,uN,s1,r1,fB5]
   have hcv:pB (Lf Ls) B u (i+1)=true:=by rw [mb,← hcc,aO hc,Bool.or_true]
   have hxl:xs.length=Ls[i]!.L[c / 2]!.ks.length:=by rw [← x1,ah]
   have n15:cZ w1 (.slice va l.length vcap) (.slice va5 (l.length+Ls[i]!.L[c / 2]!.ks.length) vc5):=fun g' hg'=>by
    rcases n5 with h | ⟨g2,h,h',_⟩
    ·exact .inl (by rw [← h]; exact hg')
    ·rw [h] at hg'
     simp only [aK] at hg'
     subst hg'
     exact .inr h'
   refine hK _ _ (i+1) ?_ ⟨.slice va5 (l.length+Ls[i]!.L[c / 2]!.ks.length) vc5,l++xs,⟨?_,?_,?_⟩,?_,i3.trans n15 i4.size,?_,by omega⟩ (by omega)
   ·((try simp (disch:=first | exact dZ | fail) only [go_sem,hcv]); (try simp only [and_true,true_and,dF,aW,cW,aK]); (try (refine ⟨?_,?_⟩ <;> omega)); (try omega))
   ·exact bb @r1
   ·rw [aM,hxl,ij]
    refine aZ o5 (bR (M:=fun b o=>b=Bf∧o=0) ⟨rfl,rfl⟩) fun g' hg' o h => ?_
    rcases n15 g' hg' with h' | h'
    ·exact (hvv g' h').2.1 h.1
    ·have:=h.1; omega
   ·intro y hy
    rcases ax.1 hy with h | h
    ·exact i1.good y h
    ·exact x2 y h
   ·rw [bC,i2,x1,hfk]; rfl
   ·exact (i4.tr k5 fun b o hb h=>i3.m b o hb (.inr h)).set (fun _ => .inl ⟨rfl,rfl⟩)
  ·have hkd:(et Ls[i]!.L (pos i) == 1)=false:=by
     rw [beq_eq_false_iff_ne]
     unfold et
     split
     ·rename_i hv
      have hp:=hpos i hi (by unfold ez at hv; omega)
      split <;> omega
     ·omega
   have hcv:pB (Lf Ls) B u (i+1)=pB (Lf Ls) B u i:=by rw [mb,aF hc,Bool.or_false]
   have hfk:=jj (Lf Ls) B u i
   rw [if_neg hc,au] at hfk
   refine rA @hi' @c1 @lvs @d1 @hkd @m11 ?_
   refine hK _ _ (i+1) ?_ ⟨v,l,i1,by rw [i2,hfk],i3,i4,by omega⟩ (by omega)
   ((try simp (disch:=first | exact dZ | fail) only [go_sem,hcv]); (try simp only [and_true,true_and,dF,aW,cW,aK]); (try (refine ⟨?_,?_⟩ <;> omega)); (try omega))
 ·have hi':¬ (i:Int) < Ls.size:=by omega
  obtain rfl:i=Ls.size:=by omega
  have hcv:pB (Lf Ls) B u Ls.size=py Ls.size (Lf Ls) B u:=rfl
  have hfk:jV (Lf Ls) B u Ls.size=cM Ls.size (Lf Ls) B u:=rfl
  rw [hfk] at i2
  rw [hcv]
  have hvv:∀ g',v.ownBlock=some g'→g'≠U∧g'≠Bf∧cq d g'∧(∀ i,i < Ls.size→g'≠Ls[i]!.I):=fun g' hg'=>by
   rcases i3 g' hg' with h | h
   ·exact hvk g' h
   ·exact ⟨by omega,by omega,g.inc.out h,fun i hi he=>by have:=aE (g.lv i hi).iter.c0; omega⟩
  have hll:l.length < 100000:=by
   have:=m.len u
   rw [← i2,ah] at this
   exact this
  refine dV @hi' @c1 ?_
  refine qC i1 g1.inc (fun g' hg'=>⟨(hvv g' hg').2.1,(hvv g' hg').2.2.1⟩) (by omega) fun w2 l2 j1 hl2 _ j2 j3 k2 => ?_
  have k02:Keep (g9 Bf 0 (.slice a0 lk.length cap0)) w w2:=i4.tr k2 fun b o hb h=>i3.m b o hb (.inr h)
  obtain ⟨v6,u6⟩:=mu.u6
  obtain ⟨v7,u7⟩:=mu.u7
  obtain ⟨v8,u8⟩:=mu.u8
  obtain ⟨v9,u9⟩:=mu.u9
  have u3:=k02.some u3 (nrU _)
  have u4:=k02.some u4 (nrU _)
  have u6:=k02.some u6 (nrU _)
  have u7:=k02.some u7 (nrU _)
  have u8:=k02.some u8 (nrU _)
  have u9:=k02.some u9 (nrU _)
  have u5:=k02.some mu.u5 (nrU _)
  have hcmp:=k02.some hcmp (nrB _ (by omega))
  have c1:=k02.some g.bufs (nrU _)
  have fU2:∀ x,w2.frozen? ⟨U,x,none⟩=false:=fun x=>by rw [k02.frozen U x hUs]; exact g.fU x
  have fB2:∀ x,w2.frozen? ⟨Bf,x,none⟩=false:=fun x=>by rw [k02.frozen Bf x hBs]; exact g.fB x
  have inc2:bz d w2:=g1.inc.keep k2 fun b o h=>(hvv b h).2.2.1 o
  obtain ⟨ka,cap,hve,_,_⟩:=bZ j1.own
  subst hve
  have j1h:=j1.hd
  refine al ?_
  refine ay (sq [0,1,2,3] (.read 4 (sq [5,6,7] (.read 8 (sq [9,10,11] (.read 12 (sq [13,14] (.read 15 (sq [16,17,18] (.eff 19 [] .done)))))))))) ?_
  refine xT @c1 @u3 @u4 @j1h @u6 @u7 @u8 @u9 @fU2 ?_
  refine ay (sq [0,1,2] (.read 3 (sq [4,5,6] (.read 7 (sq [8,9,10] (.read 11 (sq [12,13,14] (.read 15 (sq [16,17,18,19,20] (.eff 21 [] (sq [22] .done))))))))))) ?_
  refine vR @c1 @u5 @hcmp @u6 @u7 @u8 @u9 ?_
  obtain ⟨w3,hw3⟩:∃ w3,w3=((((w2.setCell ⟨U,o+4,none⟩ (.slice sa sn sc)).setCell ⟨U,o+5,none⟩ (.slice ea en ec)).setCell ⟨U,o+6,none⟩ (.slice ka l2.length cap)).setCell ⟨U,o+7,none⟩ (.int .i8 0)).drew.drew:=⟨_,rfl⟩
  rw [← hw3]
  have k23:Keep (fun b x=>b=U∧o+4≤x∧x≤o+7) w2 w3:=by
   rw [hw3]
   exact (((((Keep.refl _ w2).set (fun _=>⟨rfl,by omega,by omega⟩)).set (fun _=>⟨rfl,by omega,by omega⟩)).set (fun _=>⟨rfl,by omega,by omega⟩)).set (fun _=>⟨rfl,by omega,by omega⟩)).drew.drew
  have q6:w3.cell? ⟨U,o+4,none⟩=some (.slice sa sn sc):=by rw [hw3]; exact bb @u6
  have q7:w3.cell? ⟨U,o+5,none⟩=some (.slice ea en ec):=by rw [hw3]; exact bb @u7
  have q8:w3.cell? ⟨U,o+6,none⟩=some (.slice ka l2.length cap):=by rw [hw3]; exact bb @u8
  have q9:w3.cell? ⟨U,o+7,none⟩=some (.int .i8 0):=by rw [hw3]; exact bb @u9
  have rx3:Z.X w3 Sx:=by
   refine ti.keep (ti.keep rx k02 fun b x hb h => ?_) k23 fun b x hb h => ?_
   ·rcases h with ⟨rfl,rfl⟩ | h
    ·exact ⟨fun h=>by have:=m.tB h; omega,fun h=>(hvs _ h).2.1 rfl,m.mc.oB _⟩
    ·obtain ⟨a1,a2,a3,_⟩:=hvk b h
     exact ⟨fun h=>by rcases m.tT h with h | h; exact a1 h; exact a2 h,fun h'=>(hvs _ h').2.2.2.2 h,a3 x⟩
   ·obtain ⟨rfl,h1,h2⟩:=h
    exact ⟨fun h=>by have:=m.tU h; omega,fun h=>(hvs _ h).1 rfl,m.mc.oU _⟩
  have rk3:KOwn d w3 Bf 0 (.slice ka l2.length cap) l2:=j1.keep k23 (fun h=>ne h.1) fun g' hg' x h=>(hvv g' hg').1 h.1
  have hcd:Cd (l2.map KR.k):=by
   have hc:=m.cd u
   rw [← i2] at hc
   exact ⟨(List.Perm.pairwise_iff (by intro x y hxy e e2; exact hxy e.symm e2.symm) j2).2 hc.dist,fun x hx=>hc.kind x (j2.mem_iff.1 hx)⟩
  have hdk:DK l2:=by
   have h2:=hcd.dist
   rw [List.pairwise_map] at h2
   refine (j3.and h2).imp fun {x y} h=>⟨h.1,fun e => ?_⟩
   have:=h.2 e
   have:=h.1
   omega
  have z23:=k23.size
  have z02:=k02.size
  have hsx:∀ g',Sx g'→g' < w.heap.size:=fun g' hg'=>(ti.outS rx g' hg').2
  refine ti.run rx3 q6 q7 q8 q9 rk3 (fun x=>by rw [k23.frozen U x (aE u3)]; exact fU2 x) (fun x=>by rw [k23.frozen Bf x (aE hcmp)]; exact fB2 x) (inc2.keep k23 fun b x h=>by rw [h.1]; exact m.mc.oU x) m.mc.oU m.mc.oB ne
   (fun g' hg'=>by
    have:=hvv g' hg'
    refine ⟨this.1,this.2.1,this.2.2.1,fun hs => ?_⟩
    rcases i3 g' hg' with h | h
    ·exact (hvs g' hs).2.2.2.2 h
    ·have:=hsx g' hs; omega) (fun g' hg'=>⟨(hvs g' hg').1,(hvs g' hg').2.1⟩) hdk (by omega) (ks:=cM Ls.size (Lf Ls) B u) (by rw [← i2]; exact j2) (m.cd u) (hHK u) fun w4 S4 c kv p6 p7 p8 p9 ok oc oi ox os k4 => ?_
  refine al ?_
  refine ay (sq [0,1,2,3,4,5] .done) ?_
  refine al ?_
  refine hk w4.drew _ S4 c kv p6 p7 p8 p9 (by rw [← oc] at ok; exact ok.drew) (by rw [← oc] at oi; exact oi.drew) (Z.dr ox) (fun b hb=>(ti.outS ox b hb).2) (by rw [oc]; exact i3) (fun b hb => ?_) (fun g' hg' he => ?_) ?_
  ·rcases os b hb with h | h
   ·exact .inl h
   ·exact .inr (by omega)
  ·rw [oc] at he
   rcases os g' hg' with h | h
   ·rcases i3 g' he with h' | h'
    ·exact (hvs g' h).2.2.2.2 h'
    ·have:=hsx g' h; omega
   ·have:=(j1.own.lt g' he).2
    omega
  ·refine ((k02.mono fun b x _ h => ?_).tr k23 fun b x _ h => .inl ⟨h.1,h.2⟩).tr k4.drew fun b x hb h => ?_
   ·rcases h with ⟨h1,h2⟩ | h
    ·exact .inr (.inl ⟨h1,h2⟩)
    ·exact .inr (.inr (.inr (.inl h)))
   ·rcases h with h | h | h | h
    ·exact .inl h
    ·exact .inr (.inr (.inl h))
    ·rcases i3 b h with h' | h'
     ·exact .inr (.inr (.inr (.inl h')))
     ·omega
    ·exact .inr (.inr (.inr (.inr h)))
end
end Go.Proofs
end
section
namespace Go.E
open Go Go.Sort Go.Proofs
structure MR (d w:World) (U o Bf:Nat) (Z:TX) (Ls:Array Lvl) (S:Nat→Prop) (vk vb:Value) (vs:Nat→Prop) (lk:List KR) (xb:List Value):Prop where
 k:KOwn d w Bf 0 vk lk
 x:Z.X w vs
 bh:w.cell? ⟨Bf,5,none⟩=some vb
 bo:w.ownsRow 0 5 1 vb xb.length xb
 kS:∀ g,vk.ownBlock=some g→S g
 bS:∀ g,vb.ownBlock=some g→S g
 sS:∀ g,vs g→S g
 kb:∀ g,vb.ownBlock=some g→vk.ownBlock≠some g
 ks:∀ g,vs g→vk.ownBlock≠some g
 bs:∀ g,vs g→vb.ownBlock≠some g
 sp:∀ g,S g→g≠U∧g≠Bf∧cq d g∧(∀ i,i < Ls.size→g≠Ls[i]!.I)∧g < w.heap.size
def Iw (U o Bf:Nat) (Z:TX) (Ls:Array Lvl) (S:Nat→Prop):Nat→Nat→Prop:=fun b x =>
 np U o Bf 0 Ls b x∨b=U∧(o+1≤x∧x≤o+2∨o+4≤x∧x≤o+9)∨b=Bf∧(x=0∨x=5)∨Z.T b x∨S b
def SB (d:World) (vb:Value) (xb:List Value) (v:Value) (l:Bytes):Prop:=fV d v l∨v=vb∧xb=iI l
section
variable {d w w2:World} {U o Bf:Nat} {Z:TX} {Ls:Array Lvl} {B:List Bytes} {S:Nat→Prop} {vk vb:Value} {vs:Nat→Prop} {lk:List KR} {xb:List Value}
theorem kp {w:World} {v:Value} {l:Bytes} (h:w.ownsRow 0 5 1 v l.length (iI l)):fV w v l:=by
 rcases cY h with ⟨rfl,h0,_⟩ | ⟨g,cap,rfl,_,_⟩
 ·exact ⟨rfl,ao.1 h0⟩
 ·refine ⟨rfl,rfl,fun i x hx => ?_⟩
  have:=av h hx
  simpa using this
theorem br (l:Bytes):(iI l).length=l.length:=by unfold iI; simp
theorem MR.sb (r:MR d w U o Bf Z Ls S vk vb vs lk xb) (hd:bz d w) {v:Value} {l:Bytes} (h:SB d vb xb v l):fV w v l:=by
 rcases h with h | ⟨rfl,rfl⟩
 ·exact h.inc hd
 ·have:=r.bo
  rw [br] at this
  exact kp this
theorem MR.keep {M:Nat→Nat→Prop} (m:MS d U o Bf Z Ls B) (r:MR d w U o Bf Z Ls S vk vb vs lk xb) (hk:Keep M w w2) (h1:¬ M Bf 0) (h3:¬ M Bf 5) (h4:∀ g,S g→∀ x,¬ M g x) (h5:∀ b x,b < w.heap.size→M b x→¬ Z.T b x∧d.cell? ⟨b,x,none⟩=none):MR d w2 U o Bf Z Ls S vk vb vs lk xb where
 k:=r.k.keep hk h1 fun g hg x=>h4 g (r.kS g hg) x
 x:=by
  obtain ⟨HK,ti,_⟩:=m.ti
  exact ti.keep r.x hk fun b x hb hm=>⟨(h5 b x hb hm).1,fun hs=>h4 b (r.sS b hs) x hm,(h5 b x hb hm).2⟩
 bh:=hk.some r.bh h3
 bo:=aZ r.bo hk fun g hg x=>h4 g (r.bS g hg) x
 kS:=r.kS
 bS:=r.bS
 sS:=r.sS
 kb:=r.kb
 ks:=r.ks
 bs:=r.bs
 sp g hg:=by
  obtain ⟨a,b,c,e,f⟩:=r.sp g hg
  exact ⟨a,b,c,e,aI f hk.size⟩
theorem MU.keep {M:Nat→Nat→Prop} (g:MU w U o Z) (hk:Keep M w w2) (h1:∀ x,o+1≤x→x≤o+7→¬ M U x) (h3:∃ v,w2.cell? ⟨U,o+9,none⟩=some v):MU w2 U o Z where
 u3:=by obtain ⟨a,n,c,h⟩:=g.u3; exact ⟨a,n,c,hk.some h (h1 _ (by omega) (by omega))⟩
 u4:=by obtain ⟨a,n,c,h⟩:=g.u4; exact ⟨a,n,c,hk.some h (h1 _ (by omega) (by omega))⟩
 u5:=hk.some g.u5 (h1 _ (by omega) (by omega))
 u6:=by obtain ⟨v,h⟩:=g.u6; exact ⟨v,hk.some h (h1 _ (by omega) (by omega))⟩
 u7:=by obtain ⟨v,h⟩:=g.u7; exact ⟨v,hk.some h (h1 _ (by omega) (by omega))⟩
 u8:=by obtain ⟨v,h⟩:=g.u8; exact ⟨v,hk.some h (h1 _ (by omega) (by omega))⟩
 u9:=by obtain ⟨v,h⟩:=g.u9; exact ⟨v,hk.some h (h1 _ (by omega) (by omega))⟩
 u11:=h3
theorem qh (c:MC d U Bf Ls) {x:Nat} (h:x < o+10∨o+70≤x):¬ np U o Bf 0 Ls U x:=by
 rintro (⟨_,h1,h2⟩ | ⟨h1,_⟩ | ⟨i,hi,h1,_⟩)
 ·omega
 ·exact c.ne h1.symm
 ·exact c.iU i hi h1.symm
theorem Dr (c:MC d U Bf Ls) {x:Nat} (h:x < 3∨4 < x):¬ np U o Bf 0 Ls Bf x:=by
 rintro (⟨h1,_⟩ | ⟨_,h1,h2⟩ | ⟨i,hi,h1,_⟩)
 ·exact c.ne h1
 ·omega
 ·exact c.iB i hi h1.symm
theorem GH (m:MS d U o Bf Z Ls B) {b x:Nat} (h:np U o Bf 0 Ls b x):¬ Z.T b x∧d.cell? ⟨b,x,none⟩=none:=by
 rcases h with ⟨rfl,h1,h2⟩ | ⟨rfl,h1,h2⟩ | ⟨i,hi,rfl,_⟩
 ·exact ⟨fun h=>by have:=m.tU h; omega,m.mc.oU x⟩
 ·exact ⟨fun h=>by have:=m.tB h; omega,m.mc.oB x⟩
 ·exact ⟨fun h=>m.tI h hi rfl,m.mc.oI i hi x⟩
theorem MR.mv (m:MS d U o Bf Z Ls B) (r:MR d w U o Bf Z Ls S vk vb vs lk xb) (hk:Keep (np U o Bf 0 Ls) w w2):MR d w2 U o Bf Z Ls S vk vb vs lk xb:=by
 refine r.keep m hk (Dr m.mc (by omega)) (Dr m.mc (by omega)) (fun g hg x => ?_) fun b x _=>GH m
 obtain ⟨a,b,_,e,_⟩:=r.sp g hg
 rintro (⟨h1,_⟩ | ⟨h1,_⟩ | ⟨i,hi,h1,_⟩)
 ·exact a h1
 ·exact b h1
 ·exact e i hi h1
theorem MU.mv (g:MU w U o Z) (c:MC d U Bf Ls) (hk:Keep (np U o Bf 0 Ls) w w2):MU w2 U o Z:=by
 refine g.keep hk (fun x h1 h2=>qh c (by omega)) ?_
 obtain ⟨v,h⟩:=g.u11
 exact ⟨v,hk.some h (qh c (by omega))⟩
def vx (f:Nat→Nat):Nat→Nat
 | 0=>0
 | n+1=>vx f n+f n
theorem zT {f f':Nat→Nat} {n:Nat} (h:∀ i,i < n→f' i=f i):vx f' n=vx f n:=by
 induction n with
 | zero=>rfl
 | succ n ih=>unfold vx; rw [ih (fun i hi=>h i (by omega)),h n (by omega)]
theorem Af {f f':Nat→Nat} {n r:Nat} (hr:r < n) (h1:f' r < f r) (h2:∀ i,i < n→i≠r→f' i=f i):vx f' n < vx f n:=by
 induction n with
 | zero=>omega
 | succ n ih =>
  unfold vx
  by_cases hrn:r=n
  ·subst hrn
   rw [zT (fun i hi=>h2 i (by omega) (by omega))]
   omega
  ·have:=ih (by omega) (fun i hi=>h2 i (by omega))
   rw [h2 n (by omega) (fun e=>hrn e.symm)]
   omega
end
end Go.E
namespace Go.Proofs
open Go Go.E Go.Sort
section
variable {k:aq} {d w:World} {U o Bf:Nat} {Ls:Array Lvl} {pos:Nat→Int} {rev:Bool} {hp:Array Nat}
theorem pC (g:MB d w U o Bf 0 Ls pos) (h:MH w U o Bf 0 Ls pos rev hp) (h0:0 < hp.size) {v:Value} (hv:w.cell? ⟨U,o+10+hp[0]! * 4+2,none⟩=some v) (hf:∃ a n c,v = .slice a n c) (hk:k v w):aX Tryz.prog 213 #[.pointer (some ⟨U,o,none⟩)] k w:=by
 obtain ⟨a,n,c,rfl⟩:=hf
 have c1:=g.bufs
 have c2:=h.at_.c2
 have p0:=h.at_.ptr 0 h0
 have z0:(0:Int).toNat=0:=rfl
 have z1:(0:Int)≤0:=by decide
 have z2:(0:Int) < hp.size:=by omega
 refine ai [.tmp 2] Tryz.func213 ?_
 refine xT @c1 @c2 @p0 @hv @z0 @z1 @z2 @Nat.zero_mul @Nat.add_zero ?_
 exact hk
end
end Go.Proofs
end
section
namespace Go.E
open Go Go.Sort Go.Proofs
structure St (d w:World) (U o Bf:Nat) (Z:TX) (Ls:Array Lvl) (S:Nat→Prop) (pos:Nat→Int) (rev:Bool) (hp:Array Nat) (vk vb:Value) (vs:Nat→Prop) (lk:List KR) (xb:List Value):Prop where
 g:MB d w U o Bf 0 Ls pos
 h:MH w U o Bf 0 Ls pos rev hp
 u:MU w U o Z
 r:MR d w U o Bf Z Ls S vk vb vs lk xb
structure Lt (w w':World) (U o Bf:Nat) (Z:TX) (Ls:Array Lvl) (S S':Nat→Prop):Prop where
 s:∀ b,S' b→S b∨w.heap.size≤b
 k:Keep (Iw U o Bf Z Ls S) w w'
 e:w'.cell? ⟨U,o+9,none⟩=w.cell? ⟨U,o+9,none⟩
theorem Lt.refl (w:World) (U o Bf:Nat) (Z:TX) (Ls:Array Lvl) (S:Nat→Prop):Lt w w U o Bf Z Ls S S:=⟨fun _ h => .inl h,Keep.refl _ w,rfl⟩
theorem xq {U o Bf:Nat} {Z:TX} {Ls:Array Lvl} {S S1:Nat→Prop} {b x n:Nat} (h:Iw U o Bf Z Ls S1 b x) (hb:b < n) (hs:S1 b→S b∨n≤b):Iw U o Bf Z Ls S b x:=by
 rcases h with h | h | h | h | h
 ·exact .inl h
 ·exact .inr (.inl h)
 ·exact .inr (.inr (.inl h))
 ·exact .inr (.inr (.inr (.inl h)))
 ·rcases hs h with h3 | h3
  ·exact .inr (.inr (.inr (.inr h3)))
  ·omega
theorem Lt.trans {w w1 w2:World} {U o Bf:Nat} {Z:TX} {Ls:Array Lvl} {S S1 S2:Nat→Prop} (h:Lt w w1 U o Bf Z Ls S S1) (h2:Lt w1 w2 U o Bf Z Ls S1 S2):Lt w w2 U o Bf Z Ls S S2 where
 s b hb:=by
  rcases h2.s b hb with h3 | h3
  ·exact h.s b h3
  ·exact .inr (aU h.k.size h3)
 k:=h.k.tr h2.k fun b x hb hm=>xq hm hb (h.s b)
 e:=by rw [h2.e,h.e]
theorem Lt.mv {d w w1:World} {U o Bf:Nat} {Z:TX} {Ls:Array Lvl} {S:Nat→Prop} (c:MC d U Bf Ls) (hk:Keep (np U o Bf 0 Ls) w w1) (hU:U < w.heap.size):Lt w w1 U o Bf Z Ls S S:=⟨fun _ h => .inl h,hk.mono fun b x _ h => .inl h,hk.cell U _ hU (qh c (by omega))⟩
def LB (d:World) (S:Nat→Prop) (w:World) (v:Value) (l:Bytes):Prop:=fV d v l∨w.ownsRow 0 5 1 v l.length (iI l)∧∀ g,v.ownBlock=some g→S g
theorem LB.bts {d w:World} {S:Nat→Prop} {v:Value} {l:Bytes} (h:LB d S w v l) (hd:bz d w):fV w v l:=by
 rcases h with h | h
 ·exact h.inc hd
 ·exact kp h.1
theorem LB.keep {d w w2:World} {S:Nat→Prop} {M:Nat→Nat→Prop} {v:Value} {l:Bytes} (h:LB d S w v l) (hk:Keep M w w2) (hm:∀ g,S g→∀ x,¬ M g x):LB d S w2 v l:=by
 rcases h with h | h
 ·exact .inl h
 ·exact .inr ⟨aZ h.1 hk fun g hg x=>hm g (h.2 g hg) x,h.2⟩
theorem MR.lb {d w:World} {U o Bf:Nat} {Z:TX} {Ls:Array Lvl} {S:Nat→Prop} {vk vb:Value} {vs:Nat→Prop} {lk:List KR} {xb:List Value} (r:MR d w U o Bf Z Ls S vk vb vs lk xb) {v:Value} {l:Bytes} (h:SB d vb xb v l):LB d S w v l:=by
 rcases h with h | ⟨rfl,rfl⟩
 ·exact .inl h
 ·have:=r.bo
  rw [br] at this
  exact .inr ⟨this,r.bS⟩
def pD (ord:Int) (d:World) (S:Nat→Prop) (w:World) (b o:Nat) (x:Sp):Prop :=
 (∃ v,w.cell? ⟨b,o,none⟩=some v∧LB d S w v x.s)∧(∃ v,w.cell? ⟨b,o+1,none⟩=some v∧LB d S w v x.e) ∧
 (∃ v,w.cell? ⟨b,o+2,none⟩=some v∧yj d S w v x.ks)∧w.cell? ⟨b,o+3,none⟩=some (.int .i8 ord)
theorem pD.o {ord:Int} {d w:World} {S:Nat→Prop} {b o:Nat} {x:Sp} (h:pD ord d S w b o x) (hd:bz d w):dK ord w b o x:=by
 obtain ⟨⟨s,s1,s2⟩,⟨e,e1,e2⟩,⟨v,v1,v2⟩,o1⟩:=h
 exact ⟨⟨s,s1,s2.bts hd⟩,⟨e,e1,e2.bts hd⟩,⟨_,v1,v2.slc hd⟩,o1⟩
theorem pD.keep {ord:Int} {d w w2:World} {S:Nat→Prop} {M:Nat→Nat→Prop} {b o:Nat} {x:Sp} (h:pD ord d S w b o x) (hk:Keep M w w2) (hm:∀ g,S g→∀ x,¬ M g x) (hb:∀ y,o≤y→y≤o+3→¬ M b y):pD ord d S w2 b o x:=by
 obtain ⟨⟨s,s1,s2⟩,⟨e,e1,e2⟩,⟨v,v1,v2⟩,o1⟩:=h
 exact ⟨⟨s,hk.some s1 (hb _ (by omega) (by omega)),s2.keep hk hm⟩,⟨e,hk.some e1 (hb _ (by omega) (by omega)),e2.keep hk hm⟩,⟨v,hk.some v1 (hb _ (by omega) (by omega)),v2.keep hk hm⟩,hk.some o1 (hb _ (by omega) (by omega))⟩
section
variable {d w w2:World} {U o Bf:Nat} {Z:TX} {Ls:Array Lvl} {B:List Bytes} {S:Nat→Prop} {pos:Nat→Int} {rev:Bool} {hp:Array Nat} {vk vb:Value} {vs:Nat→Prop} {lk:List KR} {xb:List Value}
theorem MH.keep {M:Nat→Nat→Prop} (h:MH w U o Bf 0 Ls pos rev hp) (hk:Keep M w w2) (h1:∀ x,2≤x→x≤4→¬ M Bf x) (h2:∀ x,o+50≤x→x < o+70→¬ M U x) (hU:U < w.heap.size):MH w2 U o Bf 0 Ls pos rev hp :=
 ⟨h.at_.keep hk (fun x a b=>h1 x (by omega) (by omega)) (fun x a b=>h2 x a b) hU,h.ok,h.mem,h.nd⟩
theorem St.setU (st:St d w U o Bf Z Ls S pos rev hp vk vb vs lk xb) (ms:MS d U o Bf Z Ls B) {x:Nat} (hx:x=o+1∨x=o+2) (v:Value) (hv:∃ a n c,v = .slice a n c):St d (w.setCell ⟨U,x,none⟩ v) U o Bf Z Ls S pos rev hp vk vb vs lk xb∧Lt w (w.setCell ⟨U,x,none⟩ v) U o Bf Z Ls S S:=by
 have c:=ms.mc
 have hk:Keep (fun b y=>b=U∧y=x) w (w.setCell ⟨U,x,none⟩ v):=bR ⟨rfl,rfl⟩
 have hU:=aE st.g.bufs
 have g':=st.g.keep c hk (by omega) (fun h=>c.ne h.1) (by omega) (fun y _ _=>by omega) (fun i hi y h=>c.iU i hi h.1) (fun a y h=>by rw [h.1]; exact c.oU y)
 have f:∀ {y u},y≠x→w.cell? ⟨U,y,none⟩=some u→(w.setCell ⟨U,x,none⟩ v).cell? ⟨U,y,none⟩=some u:=fun hy hu=>hk.some hu fun h=>hy h.2
 have fx:∀ {y},y≠x→(∃ u,w.cell? ⟨U,y,none⟩=some u)→∃ u,(w.setCell ⟨U,x,none⟩ v).cell? ⟨U,y,none⟩=some u:=fun hy ⟨u,hu⟩=>⟨u,f hy hu⟩
 have m:=st.u
 refine ⟨⟨g',st.h.keep hk (fun y _ _ h=>c.ne h.1) (fun y _ _ h=>by omega) hU,?_,st.r.keep ms hk (fun h=>c.ne h.1) (fun h=>c.ne h.1) (fun g hg y h=>(st.r.sp g hg).1 h.1) fun b y _ h=>by obtain ⟨rfl,rfl⟩:=h; exact ⟨fun h=>by have:=ms.tU h; omega,c.oU _⟩⟩,⟨fun _ h => .inl h,hk.mono fun b y _ h => .inr (.inl ⟨h.1,by omega⟩),hk.cell U _ hU (by omega)⟩⟩
 have fs:∀ {y},(∃ a n c,w.cell? ⟨U,y,none⟩=some (.slice a n c))→∃ a n c,(w.setCell ⟨U,x,none⟩ v).cell? ⟨U,y,none⟩=some (.slice a n c):=by
  rintro y ⟨a,n,cc,hu⟩
  by_cases hy:y=x
  ·subst hy
   obtain ⟨a',n',c',rfl⟩:=hv
   exact ⟨a',n',c',by rw [cC,hu]; rfl⟩
  ·exact ⟨a,n,cc,f hy hu⟩
 exact ⟨fs m.u3,fs m.u4,f (by omega) m.u5,fx (by omega) m.u6,fx (by omega) m.u7,fx (by omega) m.u8,fx (by omega) m.u9,fx (by omega) m.u11⟩
theorem MB.drew' (g:MB d w U o Bf 0 Ls pos):MB d w.drew U o Bf 0 Ls pos:=g.drew
theorem MR.drew (r:MR d w U o Bf Z Ls S vk vb vs lk xb):MR d w.drew U o Bf Z Ls S vk vb vs lk xb:=⟨r.k.drew,Z.dr r.x,r.bh,r.bo.drew,r.kS,r.bS,r.sS,r.kb,r.ks,r.bs,r.sp⟩
theorem MU.drew (m:MU w U o Z):MU w.drew U o Z:=⟨m.u3,m.u4,m.u5,m.u6,m.u7,m.u8,m.u9,m.u11⟩
theorem St.drew (st:St d w U o Bf Z Ls S pos rev hp vk vb vs lk xb):St d w.drew U o Bf Z Ls S pos rev hp vk vb vs lk xb:=⟨st.g.drew,st.h.drew,st.u.drew,st.r.drew⟩
theorem Lt.drew {S':Nat→Prop} (h:Lt w w2 U o Bf Z Ls S S'):Lt w w2.drew U o Bf Z Ls S S':=⟨h.s,h.k.drew,h.e⟩
theorem St.buf (st:St d w U o Bf Z Ls S pos rev hp vk vb vs lk xb) (ms:MS d U o Bf Z Ls B) {w5:World} {v5:Value} {x5:List Value} (o5:w5.ownsRow 0 5 1 v5 x5.length x5) (k5:Keep (fun b _=>vb.ownBlock=some b) w w5) (n5:cZ w vb v5) :
    St d (w5.setCell ⟨Bf,5,none⟩ v5) U o Bf Z Ls (fun b=>S b∨v5.ownBlock=some b) pos rev hp vk v5 vs lk x5∧Lt w (w5.setCell ⟨Bf,5,none⟩ v5) U o Bf Z Ls S (fun b=>S b∨v5.ownBlock=some b):=by
 have c:=ms.mc
 obtain ⟨HK,ti,_⟩:=ms.ti
 have hU:=aE st.g.bufs
 have hB:=aE st.g.lvls
 have r:=st.r
 have kk:Keep (fun b x=>b=Bf∧x=5∨vb.ownBlock=some b) w (w5.setCell ⟨Bf,5,none⟩ v5):=(k5.mono fun b x _ h => .inr h).set fun _ => .inl ⟨rfl,rfl⟩
 have nB:∀ x,x≠5→¬ (Bf=Bf∧x=5∨vb.ownBlock=some Bf):=by
  rintro x hx (⟨_,h⟩ | h)
  ·exact hx h
  ·exact (r.sp _ (r.bS _ h)).2.1 rfl
 have nU:∀ x,¬ (U=Bf∧x=5∨vb.ownBlock=some U):=by
  rintro x (⟨h,_⟩ | h)
  ·exact c.ne h.symm
  ·exact (r.sp _ (r.bS _ h)).1 rfl
 have nI:∀ i,i < Ls.size→∀ x,¬ (Ls[i]!.I=Bf∧x=5∨vb.ownBlock=some Ls[i]!.I):=by
  rintro i hi x (⟨h,_⟩ | h)
  ·exact c.iB i hi h
  ·exact (r.sp _ (r.bS _ h)).2.2.2.1 i hi rfl
 have nd:∀ b x,(b=Bf∧x=5∨vb.ownBlock=some b)→d.cell? ⟨b,x,none⟩=none:=by
  rintro b x (⟨rfl,_⟩ | h)
  ·exact c.oB x
  ·exact (r.sp _ (r.bS _ h)).2.2.1 x
 have nT:∀ b x,(b=Bf∧x=5∨vb.ownBlock=some b)→¬ Z.T b x:=by
  rintro b x (⟨rfl,rfl⟩ | h) ht
  ·have:=ms.tB ht; omega
  ·rcases ms.tT ht with h' | h'
   ·exact (r.sp _ (r.bS _ h)).1 h'
   ·exact (r.sp _ (r.bS _ h)).2.1 h'
 have nk:∀ g,vk.ownBlock=some g→∀ x,¬ (g=Bf∧x=5∨vb.ownBlock=some g):=by
  rintro g hg x (⟨h,_⟩ | h)
  ·exact (r.sp _ (r.kS _ hg)).2.1 h
  ·exact r.kb g h hg
 have ns:∀ g,vs g→∀ x,¬ (g=Bf∧x=5∨vb.ownBlock=some g):=by
  rintro g hg x (⟨h,_⟩ | h)
  ·exact (r.sp _ (r.sS _ hg)).2.1 h
  ·exact r.bs g hg h
 have hvB:∀ g,v5.ownBlock=some g→g≠Bf:=fun g hg=>by
  rcases n5 g hg with h | h
  ·exact (r.sp _ (r.bS _ h)).2.1
  ·omega
 obtain ⟨q5,hq5⟩:∃ u,w5.cell? ⟨Bf,5,none⟩=some u:=⟨_,k5.some r.bh fun h=>(r.sp _ (r.bS _ h)).2.1 rfl⟩
 refine ⟨⟨st.g.keep c kk (nU _) (nB _ (by omega)) (nU _) (fun x _ _=>nU x) nI nd,st.h.keep kk (fun x _ _=>nB x (by omega)) (fun x _ _=>nU x) hU,st.u.keep kk (fun x _ _=>nU x) ?_,?_⟩,⟨fun b hb => ?_,kk.mono fun b x _ h => ?_,kk.cell U _ hU (nU _)⟩⟩
 ·obtain ⟨v,h⟩:=st.u.u11
  exact ⟨v,kk.some h (nU _)⟩
 ·refine ⟨r.k.keep kk (nB _ (by omega)) nk,ti.keep r.x kk fun b x _ h=>⟨nT b x h,fun hs=>ns b hs x h,nd b x h⟩,by rw [cC,hq5]; rfl,aZ o5 (bR (M:=fun b x=>b=Bf∧x=5) ⟨rfl,rfl⟩) fun g hg x h=>hvB g hg h.1,fun g hg => .inl (r.kS g hg),fun g hg => .inr hg,fun g hg => .inl (r.sS g hg),fun g hg hk => ?_,r.ks,fun g hg hb => ?_,fun g hg => ?_⟩
  ·rcases n5 g hg with h | h
   ·exact r.kb g h hk
   ·have:=(r.k.own.lt g hk).2; omega
  ·rcases n5 g hb with h | h
   ·exact r.bs g hg h
   ·have:=(ti.outS r.x g hg).2; omega
  ·rw [World.size_setCell]
   rcases hg with hg | hg
   ·obtain ⟨a1,a2,a3,a4,a5⟩:=r.sp g hg
    exact ⟨a1,a2,a3,a4,aI a5 k5.size⟩
   ·rcases n5 g hg with h | h
    ·obtain ⟨a1,a2,a3,a4,a5⟩:=r.sp _ (r.bS _ h)
     exact ⟨a1,a2,a3,a4,aI a5 k5.size⟩
    ·exact ⟨by omega,by omega,st.g.inc.out h,fun i hi he=>by have:=aE (st.g.lv i hi).iter.c0; omega,(o5.lt g hg).2⟩
 ·rcases hb with hb | hb
  ·exact .inl hb
  ·rcases n5 b hb with h | h
   ·exact .inl (r.bS _ h)
   ·exact .inr h
 ·rcases h with ⟨h1,h2⟩ | h
  ·exact .inr (.inr (.inl ⟨h1,by omega⟩))
  ·exact .inr (.inr (.inr (.inr (r.bS _ h))))
theorem St.syn {w':World} {vk':Value} {vs':Nat→Prop} {lk':List KR} (st:St d w U o Bf Z Ls S pos rev hp vk vb vs lk xb) (ms:MS d U o Bf Z Ls B) (ok:KOwn d w' Bf 0 vk' lk') (ox:Z.X w' vs') (xl:∀ b,vs' b→b < w'.heap.size) (nk:cZ w vk vk') (ns:∀ b,vs' b→vs b∨w.heap.size≤b) (dj:∀ g,vs' g→vk'.ownBlock≠some g) (kk:Keep (E0 U o Bf Z vk vs) w w')
    (e6:∃ v,w'.cell? ⟨U,o+4,none⟩=some v) (e7:∃ v,w'.cell? ⟨U,o+5,none⟩=some v) (e8:∃ v,w'.cell? ⟨U,o+6,none⟩=some v) (e9:∃ v,w'.cell? ⟨U,o+7,none⟩=some v) :
    St d w' U o Bf Z Ls (fun b=>S b∨vk'.ownBlock=some b∨vs' b) pos rev hp vk' vb vs' lk' xb∧Lt w w' U o Bf Z Ls S (fun b=>S b∨vk'.ownBlock=some b∨vs' b):=by
 have c:=ms.mc
 have hU:=aE st.g.bufs
 have hB:=aE st.g.lvls
 have r:=st.r
 have nB:∀ x,x≠0∧x < 9→¬ E0 U o Bf Z vk vs Bf x:=by
  rintro x hx (⟨h,_⟩ | ⟨_,h⟩ | h | h | h)
  ·exact c.ne h
  ·omega
  ·have:=ms.tB h; omega
  ·exact (r.sp _ (r.kS _ h)).2.1 rfl
  ·exact (r.sp _ (r.sS _ h)).2.1 rfl
 have nU:∀ x,o≤x→x < o+4∨o+7 < x→x < o+70→¬ E0 U o Bf Z vk vs U x:=by
  rintro x ho hx hx2 (⟨_,h1,h2⟩ | ⟨h,_⟩ | h | h | h)
  ·omega
  ·exact c.ne h.symm
  ·have:=ms.tU h; omega
  ·exact (r.sp _ (r.kS _ h)).1 rfl
  ·exact (r.sp _ (r.sS _ h)).1 rfl
 have nI:∀ i,i < Ls.size→∀ x,¬ E0 U o Bf Z vk vs Ls[i]!.I x:=by
  rintro i hi x (⟨h,_⟩ | ⟨h,_⟩ | h | h | h)
  ·exact c.iU i hi h
  ·exact c.iB i hi h
  ·exact ms.tI h hi rfl
  ·exact (r.sp _ (r.kS _ h)).2.2.2.1 i hi rfl
  ·exact (r.sp _ (r.sS _ h)).2.2.2.1 i hi rfl
 have nd:∀ b x,E0 U o Bf Z vk vs b x→d.cell? ⟨b,x,none⟩=none:=by
  rintro b x (⟨rfl,_⟩ | ⟨rfl,_⟩ | h | h | h)
  ·exact c.oU x
  ·exact c.oB x
  ·exact ms.tO h
  ·exact (r.sp _ (r.kS _ h)).2.2.1 x
  ·exact (r.sp _ (r.sS _ h)).2.2.1 x
 have nb:∀ g,vb.ownBlock=some g→∀ x,¬ E0 U o Bf Z vk vs g x:=by
  rintro g hg x (⟨h,_⟩ | ⟨h,_⟩ | h | h | h)
  ·exact (r.sp _ (r.bS _ hg)).1 h
  ·exact (r.sp _ (r.bS _ hg)).2.1 h
  ·rcases ms.tT h with h' | h'
   ·exact (r.sp _ (r.bS _ hg)).1 h'
   ·exact (r.sp _ (r.bS _ hg)).2.1 h'
  ·exact r.kb g hg h
  ·exact r.bs g h hg
 have m:=st.u
 have sp:∀ g,(S g∨vk'.ownBlock=some g∨vs' g)→S g∨w.heap.size≤g∧g < w'.heap.size:=by
  rintro g (h | h | h)
  ·exact .inl h
  ·rcases nk g h with h' | h'
   ·exact .inl (r.kS g h')
   ·exact .inr ⟨h',(ok.own.lt g h).2⟩
  ·rcases ns g h with h' | h'
   ·exact .inl (r.sS g h')
   ·exact .inr ⟨h',xl g h⟩
 have bl:∀ g,vb.ownBlock=some g→g < w.heap.size:=fun g hg=>(r.sp _ (r.bS _ hg)).2.2.2.2
 refine ⟨⟨st.g.keep c kk (nU _ (by omega) (by omega) (by omega)) (nB _ (by omega)) (nU _ (by omega) (by omega) (by omega)) (fun x h1 h2=>nU x (by omega) (by omega) (by omega)) nI nd,st.h.keep kk (fun x h1 h2=>nB x (by omega)) (fun x h1 h2=>nU x (by omega) (by omega) (by omega)) hU,?_,?_⟩,⟨fun b hb => ?_,kk.mono fun b x _ h => ?_,kk.cell U _ hU (nU _ (by omega) (by omega) (by omega))⟩⟩
 ·have f:∀ {y u},o≤y→y < o+4∨o+7 < y→y < o+70→w.cell? ⟨U,y,none⟩=some u→w'.cell? ⟨U,y,none⟩=some u:=fun h1 h2 h3 hu=>kk.some hu (nU _ h1 h2 h3)
  have fs:∀ {y},o≤y→y < o+4→(∃ a n c,w.cell? ⟨U,y,none⟩=some (.slice a n c))→∃ a n c,w'.cell? ⟨U,y,none⟩=some (.slice a n c):=fun h1 h2 ⟨a,n,c,hu⟩=>⟨a,n,c,f h1 (.inl h2) (by omega) hu⟩
  obtain ⟨v11,h11⟩:=m.u11
  exact ⟨fs (by omega) (by omega) m.u3,fs (by omega) (by omega) m.u4,f (by omega) (by omega) (by omega) m.u5,e6,e7,e8,e9,v11,f (by omega) (by omega) (by omega) h11⟩
 ·refine ⟨ok,ox,kk.some r.bh (nB _ (by omega)),aZ r.bo kk nb,fun g hg => .inr (.inl hg),fun g hg => .inl (r.bS g hg),fun g hg => .inr (.inr hg),fun g hg hk => ?_,dj,fun g hg hb => ?_,fun g hg => ?_⟩
  ·rcases nk g hk with h | h
   ·exact r.kb g hg h
   ·have:=bl g hg; omega
  ·rcases ns g hg with h | h
   ·exact r.bs g h hb
   ·have:=bl g hb; omega
  ·rcases sp g hg with h | ⟨h1,h2⟩
   ·obtain ⟨a1,a2,a3,a4,a5⟩:=r.sp g h
    exact ⟨a1,a2,a3,a4,aI a5 kk.size⟩
   ·exact ⟨by omega,by omega,st.g.inc.out h1,fun i hi he=>by have:=aE (st.g.lv i hi).iter.c0; omega,h2⟩
 ·rcases sp b hb with h | ⟨h,_⟩
  ·exact .inl h
  ·exact .inr h
 ·rcases h with ⟨h1,h2,h3⟩ | ⟨h1,h2⟩ | h | h | h
  ·exact .inr (.inl ⟨h1,by omega⟩)
  ·exact .inr (.inr (.inl ⟨h1,by omega⟩))
  ·exact .inr (.inr (.inr (.inl h)))
  ·exact .inr (.inr (.inr (.inr (r.kS _ h))))
  ·exact .inr (.inr (.inr (.inr (r.sS _ h))))
theorem St.clr {w':World} {vk':Value} (st:St d w U o Bf Z Ls S pos rev hp vk vb vs lk xb) (ms:MS d U o Bf Z Ls B) (ok:KOwn d w' Bf 0 vk' []) (ek:vk'.ownBlock=vk.ownBlock) (k2:Keep (fun b x=>b=Bf∧x=0∨vk.ownBlock=some b) w w') :
    St d w' U o Bf Z Ls (fun b=>S b∨vk'.ownBlock=some b∨vs b) pos rev hp vk' vb vs [] xb∧Lt w w' U o Bf Z Ls S (fun b=>S b∨vk'.ownBlock=some b∨vs b):=by
 have c:=ms.mc
 obtain ⟨HK,ti,_⟩:=ms.ti
 have r:=st.r
 have nU:∀ x,¬ (U=Bf∧x=0∨vk.ownBlock=some U):=by
  rintro x (⟨h,_⟩ | h)
  ·exact c.ne h.symm
  ·exact (r.sp _ (r.kS _ h)).1 rfl
 have fx:∀ {y},(∃ u,w.cell? ⟨U,y,none⟩=some u)→∃ u,w'.cell? ⟨U,y,none⟩=some u:=fun ⟨u,hu⟩=>⟨u,k2.some hu (nU _)⟩
 refine st.syn ms ok (ti.keep r.x k2 fun b x _ h => ?_) (fun b hb=>aI (ti.outS r.x b hb).2 k2.size) (fun g hg => .inl (by rw [← ek]; exact hg)) (fun _ h => .inl h) (fun g hg hk=>r.ks g hg (by rw [← ek]; exact hk)) (k2.mono fun b x _ h => ?_) (fx st.u.u6) (fx st.u.u7) (fx st.u.u8) (fx st.u.u9)
 ·rcases h with ⟨rfl,rfl⟩ | h
  ·exact ⟨fun h=>by have:=ms.tB h; omega,fun h=>(r.sp _ (r.sS _ h)).2.1 rfl,c.oB _⟩
  ·obtain ⟨a1,a2,a3,_⟩:=r.sp _ (r.kS _ h)
   exact ⟨fun h=>by rcases ms.tT h with h | h; exact a1 h; exact a2 h,fun h'=>r.ks _ h' h,a3 x⟩
 ·rcases h with ⟨h1,h2⟩ | h
  ·exact .inr (.inl ⟨h1,h2⟩)
  ·exact .inr (.inr (.inr (.inl h)))
theorem St.mv {pos':Nat→Int} {hp':Array Nat} {rev':Bool} (st:St d w U o Bf Z Ls S pos rev hp vk vb vs lk xb) (m:MS d U o Bf Z Ls B) (g:MB d w2 U o Bf 0 Ls pos') (h:MH w2 U o Bf 0 Ls pos' rev' hp') (hk:Keep (np U o Bf 0 Ls) w w2) :
    St d w2 U o Bf Z Ls S pos' rev' hp' vk vb vs lk xb∧Lt w w2 U o Bf Z Ls S S:=⟨⟨g,h,st.u.mv m.mc hk,st.r.mv m hk⟩,Lt.mv m.mc hk (aE st.g.bufs)⟩
end
end Go.E
end
