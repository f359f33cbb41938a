/- Parts of the proof: Tr, Sy. -/
import Derived.Test.YtjcbeinpkafjiaaGreatR10
set_option linter.all false
set_option maxRecDepth 10000
section
namespace Go.E
open Go Go.Sort Go.Proofs Go.Proofs.Tryz
theorem uY {snap:Nat} {l:List KR} {x:KR} (h:fy snap l=some x):an x.k.tr=19:=by
 induction l with
 | nil=>simp [fy] at h
 | cons y l ih =>
  rw [qB] at h
  split at h
  ·split at h
   ·simp only [aK] at h
    subst h; assumption
   ·exact ih h
  ·exact ih h
theorem KOwn.drew {d w:World} {Hb ho:Nat} {v:Value} {l:List KR} (h:KOwn d w Hb ho v l):KOwn d w.drew Hb ho v l:=⟨h.hd,h.own.drew,h.good⟩
theorem KOwn.keep {d w w2:World} {Hb ho:Nat} {v:Value} {l:List KR} {M:Nat→Nat→Prop} (h:KOwn d w Hb ho v l) (hk:Keep M w w2) (h1:¬ M Hb ho) (h2:∀ g,v.ownBlock=some g→∀ x,¬ M g x):KOwn d w2 Hb ho v l:=⟨hk.some h.hd h1,aZ h.own hk h2,h.good⟩
end Go.E
namespace Go.Proofs
open Go Go.E Go.Sort Go.Proofs.Tryz
section
variable {k:aq} {d w:World}
theorem Iv {g n cap j:Nat} {c:List KR} {x:KR} (o:w.ownsRow 0 256 3 (.slice (some ⟨g,0,none⟩) n cap) n (flat c)) (hc:c.length=n) (hj:j < n) (hcap:n≤cap) (hg:x.good d) :
    ∃ w6,(∀ q:aq,pe prog #[110,110] 110 #[.slice (some ⟨g,0,none⟩) j cap,.slice (some ⟨w.heap.size,0,none⟩) 1 1] q (w.alloc (.cells x.cells.toArray 256)).drew=q (.slice (some ⟨g,0,none⟩) (j+1) cap) w6) ∧
     w6.ownsRow 0 256 3 (.slice (some ⟨g,0,none⟩) n cap) n (flat (c.set j x))∧Keep (fun b o=>b=g∧j * 3≤o∧o < j * 3+3) w w6:=by
 obtain ⟨w5,hw5⟩:∃ w5,w5=w.alloc (.cells x.cells.toArray 256):=⟨_,rfl⟩
 rw [← hw5]
 have k5:bY w w5:=by rw [hw5]; exact aL _
 obtain ⟨w6,hw6⟩:∃ w6,w6=(((w5.setCell ⟨g,j * 3,none⟩ (.int .u64 x.k.tr)).setCell ⟨g,j * 3+1,none⟩ x.sv).setCell ⟨g,j * 3+2,none⟩ x.vv):=⟨_,rfl⟩
 have hclen:(flat c).length=n * 3:=by rw [fq,hc]
 refine ⟨w6.drew,?_,?_,?_⟩
 ·intro q
  have:=ov (k:=q) (w:=w5.drew) (by_:=56) (ty:=110) (news:=x.cells) (m:=1) (c:=1) (cap:=cap) (b:=g) (off:=0) (n:=j) (a:=⟨w.heap.size,0,none⟩) rw110 rfl ?_ (fQ hg) (by omega) ?_ ?_
  ·rw [Nat.zero_add] at this
   rw [hw6]; exact this
  ·intro i u hu
   rw [dm rfl,Nat.zero_add,hw5]
   rw [show (w.alloc (Obj.cells x.cells.toArray 256)).drew.cell? ⟨w.heap.size,i,none⟩=(w.alloc (Obj.cells x.cells.toArray 256)).cell? ⟨w.heap.size,i,none⟩ from rfl]
   refine al ?_
   simpa using hu
  ·intro i hi
   have hi:i < 3:=hi
   have:(flat c)[j * 3+i]? = some (flat c)[j * 3+i]:=aC (by omega)
   rw [Nat.zero_add]
   exact ⟨_,(k5.cell (av o this):w5.drew.cell? _=_)⟩
  ·intro i
   have:=cS (aZ o k5 (fun _ _ _ h=>h)) rfl i
   exact this
 ·have:=bp (bp (bp (aZ o k5 (fun _ _ _ h=>h)) (j * 3) (.int .u64 x.k.tr)) (j * 3+1) x.sv) (j * 3+2) x.vv
  rw [ik c j x (by omega),← hw6] at this
  exact this.drew
 ·rw [hw6]
  exact (((k5.keep.set (fun _=>⟨rfl,by omega,by omega⟩)).set (fun _=>⟨rfl,by omega,by omega⟩)).set (fun _=>⟨rfl,by omega,by omega⟩)).drew
theorem vu {Hb ho:Nat} {v:Value} {l:List KR} (h:KOwn d w Hb ho v l) (hinc:bz d w) (hne:∀ g,v.ownBlock=some g→g≠Hb∧cq d g) (hz:l.length < 1000000)
    (hk:∀ w' l',KOwn d w' Hb ho v l'→l'.length=l.length→l'.map KR.k=mB (l.map KR.k)→Keep (fun b _=>v.ownBlock=some b) w w'→k (.tuple #[]) w') :
    aX prog 125 #[.pointer (some ⟨Hb,ho,none⟩)] k w:=by
 refine ai [] func125 ?_
 refine al ?_
 refine qC h hinc hne hz fun w' l' h1 h2 h3 _ _ h4 => ?_
 refine al ?_
 exact hk w' l' h1 h2 h3 h4
def H5 (U Bf:Nat) (vk vs:Value):Nat→Nat→Prop:=fun b x=>b=U∧6≤x∧x≤9∨b=Bf∧9≤x∧x≤10∨vk.ownBlock=some b∨vs.ownBlock=some b
set_option maxHeartbeats 1000000 in
theorem tS {U Bf C snap cap:Nat} {it:Bool} {ka sa ea:Option Addr} {sn sc en ec:Nat} {vs:Value} {l ls:List KR}
    (u0:w.cell? ⟨U,0,none⟩=some (.int .u64 snap)) (u1:w.cell? ⟨U,1,none⟩=some (.pointer (some ⟨C,0,none⟩))) (u93:w.cell? ⟨U,93,none⟩=some (.bool it)) (u94:w.cell? ⟨U,94,none⟩=some (.pointer (some ⟨Bf,0,none⟩)))
    (hC:d.cell? ⟨C,1,none⟩=some (.func (.func 103) #[] #[])) (c9:∃ v,w.cell? ⟨Bf,9,none⟩=some v) (hkey:KOwn d w Bf 0 (.slice ka l.length cap) l) (hsort:KOwn d w Bf 10 vs ls)
    (u6:∃ v,w.cell? ⟨U,6,none⟩=some v) (u7:∃ v,w.cell? ⟨U,7,none⟩=some v) (u8:w.cell? ⟨U,8,none⟩=some (.slice ka l.length cap)) (u9:∃ v,w.cell? ⟨U,9,none⟩=some v)
    (fU:∀ x,w.frozen? ⟨U,x,none⟩=false) (fB:∀ x,w.frozen? ⟨Bf,x,none⟩=false) (hinc:bz d w) (oU:cq d U) (oB:cq d Bf) (hUB:Bf≠U)
    (hvk:∀ g,(Value.slice ka l.length cap).ownBlock=some g→g≠U∧g≠Bf∧cq d g) (hvs:∀ g,vs.ownBlock=some g→g≠U∧g≠Bf∧cq d g∧(Value.slice ka l.length cap).ownBlock≠some g)
    (hd:DK l) (hl:l.length < 100000) (hkind:∀ x ∈ l,an x.k.tr=19∨an x.k.tr=20∨an x.k.tr=21) (hs:snap < 18446744073709551616)
    (hkT:it=true→∀ w' r v L,CoR snap l r→w'.cell? ⟨U,6,none⟩=some (.slice sa sn sc)→w'.cell? ⟨U,7,none⟩=some (.slice ea en ec)→w'.cell? ⟨U,8,none⟩=some v→(∀ u,w.cell? ⟨U,9,none⟩=some u→w'.cell? ⟨U,9,none⟩=some u) →
     KOwn d w' Bf 0 (.slice ka l.length cap) l→KOwn d w' Bf 10 v L→L.map KR.k=mB ((r++(fy snap l).toList).map KR.k)→(∃ v,w'.cell? ⟨Bf,9,none⟩=some v)→cZ w vs v→Keep (H5 U Bf (.slice ka l.length cap) vs) w w'→k .nilIface w')
    (hk:it=false→∀ w' r c vs' ls',CoR snap l r→w'.cell? ⟨U,6,none⟩=some (.slice sa sn sc)→w'.cell? ⟨U,7,none⟩=some (.slice ea en ec)→w'.cell? ⟨U,8,none⟩=some (.slice ka (r.filter fun x=>an x.k.tr == 21).length cap)→w'.cell? ⟨U,9,none⟩=some (.int .i8 1) →
     KOwn d w' Bf 0 (.slice ka l.length cap) c→c.length=l.length→c.take (r.filter fun x=>an x.k.tr == 21).length=r.filter (fun x=>an x.k.tr == 21)→KOwn d w' Bf 10 vs' ls'→(∃ v,w'.cell? ⟨Bf,9,none⟩=some v)→cZ w vs vs'→Keep (H5 U Bf (.slice ka l.length cap) vs) w w'→k .nilIface w') :
    aX prog 190 #[.pointer (some ⟨U,0,none⟩),.func (.func 102) #[] #[],.agg [.slice sa sn sc,.slice ea en ec,.slice ka l.length cap,.int .i8 0].toArray,.pointer (some ⟨U,6,none⟩)] k w:=by
 obtain ⟨v6,u6⟩:=u6
 obtain ⟨v7,u7⟩:=u7
 obtain ⟨v9,u9⟩:=u9
 obtain ⟨b9,c9⟩:=c9
 obtain ⟨va,vcap,hvse,hvcap,hvm⟩:=bZ hsort.own
 subst hvse
 have c10:=hsort.hd
 have hUs:=aE u0
 have hBs:=aE c9
 have hUB':=Ne.symm hUB
 have z0:(0:Int).toNat=0:=rfl
 have zc:(0:Int)≤vcap:=by omega
 refine ai [.tmp 8] func190 ?_
 refine fW @u6 @u7 @fU @aA ?_
 refine ay (sq [0,1,2] (.read 3 (sq [4,5,6,7] (.read 8 (sq [9,10,11] (.read 12 (sq [13,14,15,16] (.eff 17 [] .done)))))))) ?_
 simp (disch:=first | exact dZ | fail) only [go_sem,u94,c9,c10,fB,sD Tryz.es110,z0,zc,aA]
 obtain ⟨w1,hw1⟩:∃ w1,w1=((((((w.setCell ⟨U,6,none⟩ (.slice sa sn sc)).setCell ⟨U,7,none⟩ (.slice ea en ec)).setCell ⟨Bf,9,none⟩ (.func (.func 102) #[] #[])).setCell ⟨Bf,10,none⟩ (.slice va 0 vcap)).alloc (.cells #[.slice sa sn sc,.slice ea en ec,.slice ka l.length cap,.int .i8 0] 114)).drew):=⟨_,rfl⟩
 rw [← hw1]
 obtain ⟨sb,hsb⟩:∃ sb,sb=w.heap.size:=⟨_,rfl⟩
 rw [← hsb]
 have k1:Keep (fun b x=>b=U∧6≤x∧x≤7∨b=Bf∧9≤x∧x≤10) w w1:=by
  rw [hw1]
  exact ((((((Keep.refl _ w).set (fun _ => .inl ⟨rfl,by omega,by omega⟩)).set (fun _ => .inl ⟨rfl,by omega,by omega⟩)).set (fun _ => .inr ⟨rfl,by omega,by omega⟩)).set (fun _ => .inr ⟨rfl,by omega,by omega⟩)).alloc _).drew
 have s0:w1.cell? ⟨sb,2,none⟩=some (.slice ka l.length cap):=by rw [hw1,hsb]; exact bb @aA
 have s3:w1.cell? ⟨sb,3,none⟩=some (.int .i8 0):=by rw [hw1,hsb]; exact bb @aA
 have p6:w1.cell? ⟨U,6,none⟩=some (.slice sa sn sc):=by rw [hw1]; exact bb @u6
 have p7:w1.cell? ⟨U,7,none⟩=some (.slice ea en ec):=by rw [hw1]; exact bb @u7
 have p9:w1.cell? ⟨Bf,9,none⟩=some (.func (.func 102) #[] #[]):=by rw [hw1]; exact bb @c9
 have p10:w1.cell? ⟨Bf,10,none⟩=some (.slice va 0 vcap):=by rw [hw1]; exact bb @c10
 have nU:∀ x,x < 6∨7 < x→¬ (U=U∧6≤x∧x≤7∨U=Bf∧9≤x∧x≤10):=by
  rintro x hx (⟨_,h⟩ | ⟨h,_⟩)
  ·omega
  ·exact hUB' h
 have nB:∀ x,x < 9∨10 < x→¬ (Bf=U∧6≤x∧x≤7∨Bf=Bf∧9≤x∧x≤10):=by
  rintro x hx (⟨h,_⟩ | ⟨_,h⟩)
  ·exact hUB h
  ·omega
 have nK:∀ g,(Value.slice ka l.length cap).ownBlock=some g→∀ x,¬ (g=U∧6≤x∧x≤7∨g=Bf∧9≤x∧x≤10):=by
  rintro g hg x (⟨h,_⟩ | ⟨h,_⟩)
  ·exact (hvk g hg).1 h
  ·exact (hvk g hg).2.1 h
 have u0:=k1.some u0 (nU _ (by omega))
 have u1:=k1.some u1 (nU _ (by omega))
 have u8:=k1.some u8 (nU _ (by omega))
 have u9:=k1.some u9 (nU _ (by omega))
 have u93:=k1.some u93 (nU _ (by omega))
 have u94:=k1.some u94 (nU _ (by omega))
 have key1:KOwn d w1 Bf 0 (.slice ka l.length cap) l:=⟨k1.some hkey.hd (nB _ (by omega)),aZ hkey.own k1 nK,hkey.good⟩
 have sort1:KOwn d w1 Bf 10 (.slice va 0 vcap) []:=by
  refine ⟨p10,aZ (fX hsort.own) k1 fun g hg x h => ?_,fun x h=>by simp at h⟩
  have:=hvs g (by rw [cI va ls.length 0]; exact hg)
  rcases h with ⟨h,_⟩ | ⟨h,_⟩
  ·exact this.1 h
  ·exact this.2.1 h
 have inc1:bz d w1:=hinc.keep k1 fun b x h=>by
  rcases h with ⟨rfl,_⟩ | ⟨rfl,_⟩
  ·exact oU x
  ·exact oB x
 have fU1:∀ x,w1.frozen? ⟨U,x,none⟩=false:=fun x=>by rw [k1.frozen U x hUs]; exact fU x
 have fB1:∀ x,w1.frozen? ⟨Bf,x,none⟩=false:=fun x=>by rw [k1.frozen Bf x hBs]; exact fB x
 have hsbl:sb < w1.heap.size:=aE s0
 have hC1:=inc1 _ _ _ hC
 refine ay (sq [0,1,2] (.read 3 (sq [4,5] (.read 6 (sq [7,8,9] (.read 10 (sq [11,12,13,14,15] (.read 16 (sq [17] (.read 18 (.eff 19 [] (sq [20] .done)))))))))))) ?_
 refine gH @u0 @u1 @u94 @hC1 @s0 ?_
 obtain ⟨gk,hgk⟩:∃ gk,(0 < l.length→ka=some ⟨gk,0,none⟩)∧gk≠Bf∧Iu w1 gk l∧(0 < l.length→gk < w1.heap.size)∧(∀ g,(Value.slice va 0 vcap).ownBlock=some g→g≠gk):=by
  rcases cY key1.own with ⟨h1,h2,_⟩ | ⟨g,c',h1,_,h3⟩
  ·have:l=[]:=ao.1 h2
   subst this
   refine ⟨U,fun h=>by simp at h,hUB',fun i x h=>by simp at h,fun h=>by simp at h,fun g hg=>(hvs g (by rw [cI va ls.length 0]; exact hg)).1⟩
  ·simp only [aW,true_and] at h1
   obtain ⟨rfl,rfl⟩:=h1
   refine ⟨g,fun _=>rfl,(hvk g rfl).2.1,fun i x hx => ?_,fun _=>h3,fun g' hg' he => ?_⟩
   ·obtain ⟨f1,f2,f3⟩:=dz hx
    exact ⟨av key1.own f1,av key1.own f2,av key1.own f3⟩
   ·subst he
    exact (hvs g' (by rw [cI va ls.length 0]; exact hg')).2.2.2 rfl
 obtain ⟨g1,g2,g3,g4,g5⟩:=hgk
 refine vt (d:=d) (ho:=9) (by exact p9) sort1.drew (by exact fB1) (fun g hg=>⟨(hvs g (by rw [cI va ls.length 0]; exact hg)).2.1,g5 g hg,(hvs g (by rw [cI va ls.length 0]; exact hg)).2.2.1⟩) g2 (oB _) g1 (by exact g3) (by exact g4) hkey.good (by exact inc1) hd hl hs fun w2 vs2 r sort2 hcr hrl k2 n2 => ?_
 have k2:Keep (g9 Bf 10 (.slice va 0 vcap)) w1 w2:=(Keep.refl _ w1).drew.trans k2
 have n2:cZ w1 (.slice va 0 vcap) vs2:=n2
 have hv0:∀ g,(Value.slice va 0 vcap).ownBlock=some g→g≠U∧g≠Bf∧cq d g∧(Value.slice ka l.length cap).ownBlock≠some g:=fun g hg=>hvs g (by rw [cI va ls.length 0]; exact hg)
 have nU2:∀ x,¬ g9 Bf 10 (.slice va 0 vcap) U x:=by
  rintro x (⟨h,_⟩ | h)
  ·exact hUB' h
  ·exact (hv0 U h).1 rfl
 have nB2:∀ x,x≠10→¬ g9 Bf 10 (.slice va 0 vcap) Bf x:=by
  rintro x hx (⟨_,h⟩ | h)
  ·exact hx h
  ·exact (hv0 Bf h).2.1 rfl
 have nK2:∀ g,(Value.slice ka l.length cap).ownBlock=some g→∀ x,¬ g9 Bf 10 (.slice va 0 vcap) g x:=by
  rintro g hg x (⟨h,_⟩ | h)
  ·exact (hvk g hg).2.1 h
  ·exact (hv0 g h).2.2.2 hg
 have key2:=key1.keep k2 (nB2 _ (by omega)) nK2
 have p6:=k2.some p6 (nU2 _)
 have p7:=k2.some p7 (nU2 _)
 have u0:=k2.some u0 (nU2 _)
 have u1:=k2.some u1 (nU2 _)
 have u8:=k2.some u8 (nU2 _)
 have u9:=k2.some u9 (nU2 _)
 have u93:=k2.some u93 (nU2 _)
 have u94:=k2.some u94 (nU2 _)
 have hC2:=k2.some hC1 (by
  rintro (⟨h,_⟩ | h)
  ·exact bz.ne hC oB h
  ·exact bz.ne hC (hv0 _ h).2.2.1 rfl)
 have nsb:∀ x,¬ g9 Bf 10 (.slice va 0 vcap) sb x:=by
  rintro x (⟨h,_⟩ | h)
  ·omega
  ·rcases cY sort1.own with ⟨e,_⟩ | ⟨g,c',e,_,hg⟩
   ·rw [e] at h; simp [Value.ownBlock] at h
   ·simp only [aW] at e
    obtain ⟨rfl,_,_⟩:=e
    simp only [Value.ownBlock,aK] at h
    have hz:(Value.slice (some ⟨g,0,none⟩) ls.length vcap).ownBlock=some g:=rfl
    rcases cY hsort.own with ⟨e,_⟩ | ⟨g',c'',e,_,hg'⟩
    ·simp at e
    ·simp only [aW,aK,Addr.mk.injEq] at e
     omega
 have s0:=k2.some s0 (nsb _)
 have s3:=k2.some s3 (nsb _)
 have fU2:∀ x,w2.frozen? ⟨U,x,none⟩=false:=fun x=>by rw [k2.frozen U x (aE (k1.some (by assumption) (nU 0 (by omega))))]; exact fU1 x
 obtain ⟨R,hR⟩:∃ R,R=r++(fy snap l).toList:=⟨_,rfl⟩
 rw [← hR] at sort2
 obtain ⟨ra,rcap,hre,hrcap,hrm⟩:=bZ sort2.own
 subst hre
 have p10:=sort2.hd
 have hsR:∀ g,(Value.slice ra R.length rcap).ownBlock=some g→g≠U∧g≠Bf∧cq d g∧(Value.slice ka l.length cap).ownBlock≠some g:=fun g hg=>by
  rcases n2 g hg with h | h
  ·exact hv0 g h
  ·refine ⟨by omega,by omega,inc1.out h,fun he => ?_⟩
   have:=(key1.own.lt g he).2
   omega
 have inc2:bz d w2:=inc1.keep k2 fun b x h=>by
  rcases h with ⟨rfl,_⟩ | h
  ·exact oB x
  ·exact (hv0 b h).2.2.1 x
 have hRlen:R.length < 1000000:=by
  rw [hR,aM]
  have:(fy snap l).toList.length≤1:=by cases fy snap l <;> simp
  omega
 cases it
 rotate_left
 ·have n30:((0:Int) != 0)=false:=by decide
  refine FM @s0 @u0 @u94 @hC2 @u1 @u93 @p10 @u8 @s3 @n30 @fU2 ?_
  obtain ⟨w3,hw3⟩:∃ w3,w3=w2.setCell ⟨U,8,none⟩ (.slice ra R.length rcap):=⟨_,rfl⟩
  rw [← hw3]
  have k23:Keep (fun b x=>b=U∧x=8) w2 w3:=by rw [hw3]; exact bR ⟨rfl,rfl⟩
  have q8:w3.cell? ⟨U,8,none⟩=some (.slice ra R.length rcap):=by rw [hw3]; exact bb @u8
  have sort3:KOwn d w3 Bf 10 (.slice ra R.length rcap) R:=sort2.keep k23 (fun h=>hUB h.1) fun g hg x h=>(hsR g hg).1 h.1
  refine vu (Hb:=U) (ho:=8) ⟨q8,sort3.own,sort3.good⟩ (inc2.keep k23 fun b x h=>by rw [h.1]; exact oU x) (fun g hg=>⟨(hsR g hg).1,(hsR g hg).2.2.1⟩) hRlen fun w4 L k4 hL4 hm4 kk4 => ?_
  refine al ?_
  have e4:=k4.own
  rw [hL4] at e4
  have nb4:∀ b,b=U∨b=Bf∨(Value.slice ka l.length cap).ownBlock=some b→¬ (Value.slice ra R.length rcap).ownBlock=some b:=by
   rintro b (rfl | rfl | h) hb
   ·exact (hsR _ hb).1 rfl
   ·exact (hsR _ hb).2.1 rfl
   ·exact (hsR _ hb).2.2.2 h
  have s4:∀ {x v},x≠8→w2.cell? ⟨U,x,none⟩=some v→w4.cell? ⟨U,x,none⟩=some v:=fun hx h=>kk4.some (k23.some h fun h=>hx h.2) (nb4 _ (.inl rfl))
  have b4:∀ {x v},w2.cell? ⟨Bf,x,none⟩=some v→w4.cell? ⟨Bf,x,none⟩=some v:=fun h=>kk4.some (k23.some h fun h=>hUB h.1) (nb4 _ (.inr (.inl rfl)))
  have p9:=k2.some p9 (nB2 _ (by omega))
  refine hkT rfl w4 r _ L hcr (s4 (by omega) p6) (s4 (by omega) p7) k4.hd (fun u hu=>s4 (by omega) (k2.some (k1.some hu (nU _ (by omega))) (nU2 _))) ((key2.keep k23 (fun h=>hUB h.1) fun g hg x h=>(hvk g hg).1 h.1).keep kk4 (nb4 _ (.inr (.inl rfl))) fun g hg x=>nb4 g (.inr (.inr hg))) ⟨b4 sort2.hd,k4.own,k4.good⟩ (by rw [hm4,hR]) ⟨_,b4 p9⟩ (fun g hg => ?_) ?_
  ·rcases n2 g hg with h | h
   ·exact .inl (by rw [cI va ls.length 0]; exact h)
   ·exact .inr (aU k1.size h)
  ·refine ((k1.mono fun b x _ h => ?_).tr k2 fun b x hb h => ?_).tr (k23.mono fun b x _ h=>(?_:H5 U Bf (.slice ka l.length cap) (.slice va ls.length vcap) b x)) (fun b x _ h=>h) |>.tr kk4 fun b x hb h => ?_
   ·rcases h with ⟨h1,h2,h3⟩ | ⟨h1,h2,h3⟩
    ·exact .inl ⟨h1,by omega,by omega⟩
    ·exact .inr (.inl ⟨h1,h2,h3⟩)
   ·rcases h with ⟨h1,h2⟩ | h
    ·exact .inr (.inl ⟨h1,by omega,by omega⟩)
    ·exact .inr (.inr (.inr (by rw [cI va ls.length 0]; exact h)))
   ·exact .inl ⟨h.1,by omega,by omega⟩
   ·rcases n2 b h with h | h
    ·exact .inr (.inr (.inr (by rw [cI va ls.length 0]; exact h)))
    ·have:=k1.size; omega
 have hk:=hk rfl
 have zk:(0:Int)≤cap:=by omega
 simp (disch:=first | exact dZ | fail) only [go_sem,s0,u0,u94,hC2,u1,u93,p10,u8,sD Tryz.es110,z0,zk,fU2]
 obtain ⟨w3,hw3⟩:∃ w3,w3=w2.setCell ⟨U,8,none⟩ (.slice ka 0 cap):=⟨_,rfl⟩
 rw [← hw3]
 have k23:Keep (fun b x=>b=U∧x=8∨(Value.slice ka l.length cap).ownBlock=some b) w2 w3:=by rw [hw3]; exact bR (.inl ⟨rfl,rfl⟩)
 have q8:w3.cell? ⟨U,8,none⟩=some (.slice ka 0 cap):=by rw [hw3]; exact bb @u8
 have hkU:∀ g,(Value.slice ka l.length cap).ownBlock=some g→g≠U:=fun g hg=>(hvk g hg).1
 have k23':Keep (fun b x=>b=U∧x=8) w2 w3:=by rw [hw3]; exact bR ⟨rfl,rfl⟩
 have key3:w3.ownsRow 0 256 3 (.slice ka l.length cap) l.length (flat l):=aZ key2.own k23' fun g hg x h=>hkU g hg h.1
 have hUs2:U < w1.heap.size:=aI hUs k1.size
 have hRl:∀ x ∈ R,x ∈ l:=fun x hx=>by
  rw [hR] at hx
  rcases ax.1 hx with h | h
  ·exact hcr.sub h
  ·exact DY (by simpa using h)
 refine bO (fun i:Nat=>[(3,.pointer (some ⟨U,6,none⟩)),(10,.slice ra R.length rcap),(102,.int .i64 R.length),(103,.int .i64 i)])
  (fun i w'=>∃ c,w'.ownsRow 0 256 3 (.slice ka l.length cap) l.length (flat c)∧c.length=l.length∧(∀ x ∈ c,x.good d)∧c.take ((R.take i).filter fun x=>an x.k.tr == 21).length=(R.take i).filter (fun x=>an x.k.tr == 21) ∧
   w'.cell? ⟨U,8,none⟩=some (.slice ka ((R.take i).filter fun x=>an x.k.tr == 21).length cap)∧Keep (fun b x=>b=U∧x=8∨(Value.slice ka l.length cap).ownBlock=some b) w2 w'∧i≤R.length) (fun i _=>R.length - i) 0 (by kernel_rfl) ?_ ⟨l,key3,rfl,hkey.good,rfl,q8,k23,aQ _⟩ ?_
 ·exact bE
 rintro K e2 i w4 ⟨c,i1,i2,i3,i4,i5,i6,i7⟩ hK
 have fU4:∀ x,w4.frozen? ⟨U,x,none⟩=false:=fun x=>by rw [i6.frozen U x (aE u8)]; exact fU2 x
 have sort4:w4.ownsRow 0 256 3 (.slice ra R.length rcap) R.length (flat R):=aZ sort2.own i6 fun g hg x h=>by
  rcases h with ⟨h,_⟩ | h
  ·exact (hsR g hg).1 h
  ·exact (hsR g hg).2.2.2 h
 by_cases hi:i < R.length
 ·have hi':(i:Int) < R.length:=by omega
  obtain ⟨x,hx⟩:∃ x,R[i]? = some x:=⟨R[i],aC hi⟩
  have hxm:x ∈ R:=aJ hx
  have hg:=hkey.good x (hRl x hxm)
  obtain ⟨a,na,b,nb,q1,q2⟩:=hg.form
  have hv:x.v = .agg [.int .u64 x.k.tr,.slice a x.k.suf.length na,.slice b x.k.val.length nb].toArray:=by unfold KR.v; rw [q1,q2]
  obtain ⟨gs,sc',hgs⟩:∃ gs sc',Value.slice ra R.length rcap = .slice (some ⟨gs,0,none⟩) R.length sc':=by
   rcases cY sort4 with ⟨_,h,_⟩ | ⟨g,c',h,_⟩
   ·omega
   ·exact ⟨g,c',h⟩
  simp only [aW,true_and] at hgs
  obtain ⟨rfl,rfl⟩:=hgs
  obtain ⟨f1,f2,f3⟩:=dz hx
  have c1:=av sort4 f1
  have c2:=av sort4 f2
  have c3:=av sort4 f3
  rw [q1] at c2
  rw [q2] at c3
  have htk:R.take (i+1)=R.take i++[x]:=by rw [List.take_add_one,hx]; rfl
  refine fW @hi' @c1 @c2 @c3 ?_
  rw [← hv]
  refine l9 hg fun w5 x5 => ?_
  have i5':=x5.cell i5
  have c1:=x5.cell c1
  have c2:=x5.cell c2
  have c3:=x5.cell c3
  have fU5:∀ x,w5.frozen? ⟨U,x,none⟩=false:=fun x=>by rw [x5.frozen U x (aE i5)]; exact fU4 x
  by_cases h21:an x.k.tr=21
  ·have e21:(((an x.k.tr:Nat):Int) == 21)=true:=by rw [h21]; rfl
   refine bf @e21 ?_
   refine ay (sq [0,1,2,3] (.read 4 (sq [5,6,7,8,9,10,11,12] (.read 13 (sq [14,15,16] (.read 17 (sq [18,19,20,21] (.read 22 (sq [23,24,25,26] (.read 27 (.eff 28 [] (sq [29,30] .done)))))))))))) ?_
   refine al ?_
   have hir:i < r.length:=by
    refine Classical.byContradiction fun hn => ?_
    rw [hR,bP (by omega)] at hx
    have hm:=aJ hx
    have:=uY (l:=l) (snap:=snap) (x:=x) (by simpa using hm)
    omega
   have hout:((R.take i).filter fun x=>an x.k.tr == 21).length≤i:=by
    have:=az (fun x:KR=>an x.k.tr == 21) (R.take i)
    rw [ar] at this
    omega
   obtain ⟨g,cap',hga⟩:∃ g c',Value.slice ka l.length cap = .slice (some ⟨g,0,none⟩) l.length c':=by
    rcases cY i1 with ⟨_,h,_⟩ | ⟨g,c',h,_⟩
    ·omega
    ·exact ⟨g,c',h⟩
   simp only [aW,true_and] at hga
   obtain ⟨rfl,rfl⟩:=hga
   have hcap:l.length≤cap:=by
    obtain ⟨_,_,e,h,_⟩:=bZ i1
    simp only [aW,true_and] at e
    rw [e.2]; exact h
   obtain ⟨out,ho⟩:∃ out,out=(R.take i).filter fun x=>an x.k.tr == 21:=⟨_,rfl⟩
   rw [← ho] at i4 i5 i5' hout
   have hUs5:=aE i5'
   have hgs5:=aE c1
   have hgsU:gs≠U:=(hsR gs rfl).1
   have hgsg:gs≠g:=fun e=>(hsR gs rfl).2.2.2 (by rw [e]; rfl)
   have hgU:g≠U:=hkU g rfl
   refine ay (sq [0,1,2,3] (.read 4 (sq [5,6,7] (.read 8 (.eff 9 [4] (.eff 10 [] (sq [11,12] (.eff 13 [] .done)))))))) ?_
   refine fW @c1 @c2 @c3 @i5' ?_
   have hcells : #[Value.int IntKind.u64 x.k.tr,Value.slice a x.k.suf.length na,Value.slice b x.k.val.length nb]=x.cells.toArray:=by unfold KR.cells; rw [q1,q2]
   have hxc:Value.agg x.cells.toArray = .agg [.int .u64 x.k.tr,.slice a x.k.suf.length na,.slice b x.k.val.length nb].toArray:=by unfold KR.cells; rw [q1,q2]
   obtain ⟨w6,a1,a2,a3⟩:=Iv (w:=w5.drew) (j:=out.length) (aZ i1 x5 (fun _ _ _ h=>h)).drew i2 (by omega) hcap hg
   have a1:∀ q:aq,pe prog #[110,110] 110 #[.slice (some ⟨g,0,none⟩) out.length cap,.slice (some ⟨w5.heap.size,0,none⟩) 1 1] q (w5.alloc (.cells x.cells.toArray 256)).drew.drew=q (.slice (some ⟨g,0,none⟩) (out.length+1) cap) w6:=a1
   have a3:Keep (fun b o=>b=g∧out.length * 3≤o∧o < out.length * 3+3) w5 w6:=(Keep.refl _ w5).drew.trans a3
   rw [hcells,a1]
   have c1:=a3.some c1 (fun h=>hgsg h.1)
   have c2:=a3.some c2 (fun h=>hgsg h.1)
   have c3:=a3.some c3 (fun h=>hgsg h.1)
   have i6':=a3.some i5' (fun h=>hgU h.1.symm)
   have fU6:∀ x,w6.frozen? ⟨U,x,none⟩=false:=fun x=>by rw [a3.frozen U x hUs5]; exact fU5 x
   rw [hxc]
   refine gH @c1 @c2 @c3 @i6' @fU6 ?_
   have hfl:(R.take (i+1)).filter (fun x=>an x.k.tr == 21)=out++[x]:=by
    rw [htk,List.filter_append,← ho]
    simp [h21]
   refine hK _ _ (i+1) ?_ ⟨c.set out.length x,aZ a2 (M:=fun b o=>b=U∧o=8) (bR ⟨rfl,rfl⟩) fun g' hg' x' h=>hkU g' hg' h.1,by simp [i2],fun y hy => ?_,?_,?_,?_,by omega⟩ (by omega)
   ·exact bE
   ·rcases List.mem_or_eq_of_mem_set hy with h | h
    ·exact i3 y h
    ·subst h; exact hg
   ·rw [hfl,aM,aY,List.take_add_one,List.take_set_of_le (aD _),i4,List.getElem?_set_self (by omega)]; rfl
   ·rw [hfl,aM,aY]
    exact bb @i6'
   ·exact ((i6.trans x5.keep).trans (a3.mono fun b o _ h => .inr (by rw [h.1]; rfl))).set (fun _ => .inl ⟨rfl,rfl⟩)
  ·have e21:(((an x.k.tr:Nat):Int) == 21)=false:=by rw [beq_eq_false_iff_ne]; omega
   have hfl:(R.take (i+1)).filter (fun x=>an x.k.tr == 21)=(R.take i).filter (fun x=>an x.k.tr == 21):=by
    rw [htk,List.filter_append]
    simp [h21]
   by_cases h20:an x.k.tr=20
   ·have e20:(((an x.k.tr:Nat):Int) == 20)=true:=by rw [h20]; rfl
    refine dV @e21 @e20 ?_
    refine ay (sq [0,1,2,3] (.read 4 (sq [5,6,7,8,9,10,11,12] (.read 13 (sq [14,15,16] (.read 17 (sq [18,19,20,21] (.read 22 (sq [23,24,25,26] (.read 27 (.eff 28 [] (sq [29,30] .done)))))))))))) ?_
    refine al ?_
    refine hK _ _ (i+1) ?_ ⟨c,(aZ i1 x5 (fun _ _ _ h=>h)).drew,i2,i3,by rw [hfl]; exact i4,by rw [hfl]; exact i5',(i6.trans x5.keep).drew,by omega⟩ (by omega)
    exact bE
   ·have e20:(((an x.k.tr:Nat):Int) == 20)=false:=by rw [beq_eq_false_iff_ne]; omega
    have h19:an x.k.tr=19:=by
     rcases hkind x (hRl x hxm) with h | h | h
     ·exact h
     ·exact absurd h h20
     ·exact absurd h h21
    have e19:(((an x.k.tr:Nat):Int) == 19)=true:=by rw [h19]; rfl
    refine eI @e21 @e20 @e19 ?_
    refine hK _ _ (i+1) ?_ ⟨c,aZ i1 x5 (fun _ _ _ h=>h),i2,i3,by rw [hfl]; exact i4,by rw [hfl]; exact i5',i6.trans x5.keep,by omega⟩ (by omega)
    exact bE
 ·have hi':¬ (i:Int) < R.length:=by omega
  obtain rfl:i=R.length:=by omega
  have hflt:R.filter (fun x=>an x.k.tr == 21)=r.filter fun x=>an x.k.tr == 21:=by
   rw [hR,List.filter_append]
   cases hdl:fy snap l with
   | none=>simp
   | some x=>simp [uY hdl]
  rw [aT,hflt] at i4 i5
  have u9':=i6.some u9 (by
   rintro (⟨_,h⟩ | h)
   ·omega
   ·exact hkU U h rfl)
  have nU4:∀ x,x≠8→¬ (U=U∧x=8∨(Value.slice ka l.length cap).ownBlock=some U):=by
   rintro x hx (⟨_,h⟩ | h)
   ·exact hx h
   ·exact hkU U h rfl
  have nB4:∀ x,¬ (Bf=U∧x=8∨(Value.slice ka l.length cap).ownBlock=some Bf):=by
   rintro x (⟨h,_⟩ | h)
   ·exact hUB h
   ·exact (hvk Bf h).2.1 rfl
  have p6:=i6.some p6 (nU4 _ (by omega))
  have p7:=i6.some p7 (nU4 _ (by omega))
  refine eI @hi' @u9' @fU4 ?_
  have k45:Keep (fun b x=>b=U∧x=9) w4 (w4.setCell ⟨U,9,none⟩ (.int .i8 1)):=bR ⟨rfl,rfl⟩
  refine hk _ r c _ R hcr ?_ ?_ ?_ ?_ ⟨k45.some (i6.some key2.hd (nB4 _)) (fun h=>hUB h.1),by rw [i2]; exact aZ i1 k45 fun g hg x h=>hkU g hg h.1,i3⟩ i2 i4 ⟨k45.some (i6.some p10 (nB4 _)) (fun h=>hUB h.1),aZ sort4 k45 fun g hg x h=>(hsR g hg).1 h.1,sort2.good⟩ ⟨_,k45.some (i6.some (k2.some p9 (nB2 _ (by omega))) (nB4 _)) (fun h=>hUB h.1)⟩ ?_ ?_
  ·exact bb @p6
  ·exact bb @p7
  ·exact bb @i5
  ·exact bb @u9'
  ·intro g hg
   rcases n2 g hg with h | h
   ·exact .inl (by rw [cI va ls.length 0]; exact h)
   ·exact .inr (aU k1.size h)
  ·have b1:Keep (H5 U Bf (.slice ka l.length cap) (.slice va ls.length vcap)) w w1:=k1.mono fun b x _ h=>by
     rcases h with ⟨h1,h2,h3⟩ | h
     ·exact .inl ⟨h1,by omega,by omega⟩
     ·exact .inr (.inl h)
   refine (((b1.trans (k2.mono fun b x _ h => ?_)).trans (i6.mono fun b x _ h => ?_)).trans (k45.mono fun b x _ h => .inl ⟨h.1,by omega,by omega⟩))
   ·rcases h with ⟨h1,h2⟩ | h
    ·exact .inr (.inl ⟨h1,by omega,by omega⟩)
    ·exact .inr (.inr (.inr (by rw [cI va ls.length 0]; exact h)))
   ·rcases h with ⟨h1,h2⟩ | h
    ·exact .inl ⟨h1,by omega,by omega⟩
    ·exact .inr (.inr (.inl h))
end
end Go.Proofs
end
section
namespace Go.E
open Go Go.Sort Go.Proofs
theorem G1 {P:Program} {t t2 ty el el2:TypeId} {a:Option Addr} {n c:Nat} {x:Value} {w:World} (h:P.underlying t=some (.slice el)) (h2:P.underlying t2=some (.slice el2)) :
    (Builtin.append_ [t,t2].toArray ty [.slice a n c,x].toArray).run P w=(Builtin.append_ [t,t].toArray ty [.slice a n c,x].toArray).run P w:=by
 simp [Builtin.append_,run_underlying h,run_underlying h2]
end Go.E
namespace Go.E
open Go Go.Sort Go.Proofs
theorem uZ {d:World} {v:Value} {ks:List K} (h:fI mh 3 d v ks) (hne:ks≠[]):∃ xs:List KR,xs.map KR.k=ks∧(∀ x ∈ xs,x.good d)∧∀ w,bz d w→tP w v ks.length (flat xs):=by
 unfold fI at h
 split at h
 ·obtain ⟨rfl,rfl⟩:=h
  exact ⟨[],rfl,fun x hx=>by simp at hx,fun w _=>⟨rfl,rfl,rfl⟩⟩
 ·rename_i a n c
  obtain ⟨b,o,s⟩:=a
  obtain ⟨h1,h2,_,h4⟩:=h
  have hs:s=none:=h1 (by rw [h2]; exact List.length_pos_iff.2 hne)
  subst hs
  have gen:∀ (ks:List K) (o:Nat),(∀ i x,ks[i]? = some x→mh d b (o+i * 3) x)→∃ xs:List KR,xs.map KR.k=ks∧(∀ x ∈ xs,x.good d)∧∀ j u,(flat xs)[j]? = some u→d.cell? ⟨b,o+j,none⟩=some u:=by
   intro ks
   induction ks with
   | nil=>intro o _; exact ⟨[],rfl,fun x hx=>by simp at hx,fun j u hj=>by simp [o0] at hj⟩
   | cons y ks ih =>
    intro o hy
    obtain ⟨xs,e1,e2,e3⟩:=ih (o+3) (fun i x hx=>by
     have:=hy (i+1) x (by simpa using hx)
     rw [show o+3+i * 3=o+(i+1) * 3 by omega]; exact this)
    obtain ⟨k1,k2,⟨sv,k3,k4⟩,vv,k5,k6⟩:=hy 0 y rfl
    simp only [Nat.zero_mul,Nat.add_zero] at k1 k3 k5
    refine ⟨⟨y,sv,vv⟩ :: xs,by simp [e1],fun x hx => ?_,fun j u hj => ?_⟩
    ·rcases ak.1 hx with rfl | hx
     ·exact ⟨k2,k4,k6⟩
     ·exact e2 x hx
    ·rw [iO] at hj
     rcases j with _ | _ | _ | j
     ·simp only [List.getElem?_cons_zero,aK] at hj
      subst hj; exact k1
     ·simp only [List.getElem?_cons_succ,List.getElem?_cons_zero,aK] at hj
      subst hj; exact k3
     ·simp only [List.getElem?_cons_succ,List.getElem?_cons_zero,aK] at hj
      subst hj; exact k5
     ·simp only [List.getElem?_cons_succ] at hj
      have:=e3 j u hj
      rw [show o+(j+1+1+1)=o+3+j by omega]; exact this
  obtain ⟨xs,e1,e2,e3⟩:=gen ks o h4
  refine ⟨xs,e1,e2,fun w hw=>⟨h2,fun j u hj => ?_⟩⟩
  rw [dm rfl]
  exact hw _ _ _ (e3 j u hj)
 ·exact h.elim
theorem sJ {d w:World} {ka:Option Addr} {n cap:Nat} {c out:List KR} (h:w.ownsRow 0 256 3 (.slice ka n cap) n (flat c)) (hc:c.length=n) (ht:c.take out.length=out) (hg:∀ x ∈ c,x.good d) (hd:bz d w) :
    fI mh 3 w (.slice ka out.length cap) (out.map KR.k):=by
 have hle:out.length≤n:=by
  have:out.length=(c.take out.length).length:=by rw [ht]
  rw [ar] at this
  omega
 rcases cY h with ⟨e,h0,_⟩ | ⟨g,cap',e,hcap,_⟩
 ·simp only [aW] at e
  obtain ⟨rfl,_,rfl⟩:=e
  have:out=[]:=ao.1 (by omega)
  subst this
  exact ⟨rfl,rfl⟩
 ·simp only [aW,true_and] at e
  obtain ⟨rfl,rfl⟩:=e
  refine ⟨fun _=>rfl,by simp,by omega,fun i x hx => ?_⟩
  rw [bq] at hx
  obtain ⟨y,hy,rfl⟩:=Option.map_eq_some_iff.1 hx
  have hy2:c[i]? = some y:=by
   rw [← ht,List.getElem?_take] at hy
   split at hy
   ·exact hy
   ·simp at hy
  obtain ⟨f1,f2,f3⟩:=dz hy2
  have g:=hg y (aJ hy2)
  refine ⟨by rw [Nat.zero_add]; exact av h f1,g.1,⟨y.sv,by rw [Nat.zero_add]; exact av h f2,g.2.1.inc hd⟩,y.vv,by rw [Nat.zero_add]; exact av h f3,g.2.2.inc hd⟩
theorem kj {d:World} {l:List KR} (h:∀ x ∈ l,x.good d):∀ u ∈ flat l,u.oneCell'=true:=by
 induction l with
 | nil=>intro u hu; simp [o0] at hu
 | cons x l ih =>
  intro u hu
  rw [show flat (x :: l)=x.cells++flat l from rfl] at hu
  rcases ax.1 hu with h1 | h1
  ·exact fQ (h x aR) u h1
  ·exact ih (fun y hy=>h y (aj _ hy)) u h1
def Lf (Ls:Array Lvl):Nat→List Sp:=fun i=>Ls[i]!.L
def yj (d:World) (S:Nat→Prop) (w:World) (v:Value) (ks:List K):Prop :=
 ∃ (ka:Option Addr) (n cap:Nat) (c out:List KR),v = .slice ka out.length cap∧w.ownsRow 0 256 3 (.slice ka n cap) n (flat c)∧c.length=n∧c.take out.length=out∧(∀ y ∈ c,y.good d)∧out.map KR.k=ks∧∀ g,(Value.slice ka n cap).ownBlock=some g→S g
theorem yj.keep {d w w2:World} {S:Nat→Prop} {v:Value} {ks:List K} {M:Nat→Nat→Prop} (h:yj d S w v ks) (hk:Keep M w w2) (hm:∀ g,S g→∀ x,¬ M g x):yj d S w2 v ks:=by
 obtain ⟨ka,n,cap,c,out,k1,k2,k3,k4,k5,k6,k7⟩:=h
 exact ⟨ka,n,cap,c,out,k1,aZ k2 hk fun g hg x=>hm g (k7 g hg) x,k3,k4,k5,k6,k7⟩
theorem yj.mono {d w:World} {S S':Nat→Prop} {v:Value} {ks:List K} (h:yj d S w v ks) (hs:∀ b,S b→S' b):yj d S' w v ks:=by
 obtain ⟨ka,n,cap,c,out,k1,k2,k3,k4,k5,k6,k7⟩:=h
 exact ⟨ka,n,cap,c,out,k1,k2,k3,k4,k5,k6,fun g hg=>hs g (k7 g hg)⟩
theorem yj.slc {d w:World} {S:Nat→Prop} {v:Value} {ks:List K} (h:yj d S w v ks) (hd:bz d w):fI mh 3 w v ks:=by
 obtain ⟨ka,n,cap,c,out,rfl,k2,k3,k4,k5,k6,k7⟩:=h
 rw [← k6]
 exact sJ k2 k3 k4 k5 hd
theorem yj.drew {d w:World} {S:Nat→Prop} {v:Value} {ks:List K} (h:yj d S w v ks):yj d S w.drew v ks:=by
 obtain ⟨ka,n,cap,c,out,k1,k2,k3⟩:=h
 exact ⟨ka,n,cap,c,out,k1,k2.drew,k3⟩
structure TX where
 F:List K→List K
 ord:Int
 rt:TypeId
 rv:Value
 T:Nat→Nat→Prop
 X:World→(Nat→Prop)→Prop
 dr:∀ {w S},X w S→X w.drew S
def K6 (Z:TX) (pb po:Nat) (vk:Value) (S:Nat→Prop):Nat→Nat→Prop:=fun b x=>b=pb∧po≤x∧x≤po+3∨Z.T b x∨vk.ownBlock=some b∨S b
structure TI (d:World) (pb po Hb:Nat) (HK:List K→Prop) (Z:TX):Prop where
 keep:∀ {w w2 S M},Z.X w S→Keep M w w2→(∀ b x,b < w.heap.size→M b x→¬ Z.T b x∧¬ S b∧d.cell? ⟨b,x,none⟩=none)→Z.X w2 S
 outS:∀ {w S},Z.X w S→∀ b,S b→cq d b∧b < w.heap.size
 tT:∀ {b x},Z.T b x→b=pb∧(x+4 < po∨po+66≤x)∨b=Hb∧9≤x
 tl:∀ {w S b x},Z.X w S→Z.T b x→b < w.heap.size
 run:∀ {w:World} {S:Nat→Prop} {l:List KR} {ks:List K} {ka sa ea:Option Addr} {cap sn sc en ec:Nat} {k:aq},Z.X w S →
  w.cell? ⟨pb,po,none⟩=some (.slice sa sn sc)→w.cell? ⟨pb,po+1,none⟩=some (.slice ea en ec)→w.cell? ⟨pb,po+2,none⟩=some (.slice ka l.length cap)→w.cell? ⟨pb,po+3,none⟩=some (.int .i8 0) →
  KOwn d w Hb 0 (.slice ka l.length cap) l→(∀ x,w.frozen? ⟨pb,x,none⟩=false)→(∀ x,w.frozen? ⟨Hb,x,none⟩=false)→bz d w→cq d pb→cq d Hb→Hb≠pb →
  (∀ g,(Value.slice ka l.length cap).ownBlock=some g→g≠pb∧g≠Hb∧cq d g∧¬ S g)→(∀ g,S g→g≠pb∧g≠Hb) →
  DK l→l.length < 100000→(l.map KR.k).Perm ks→Cd ks→HK ks →
  (∀ w' S' c kv,w'.cell? ⟨pb,po,none⟩=some (.slice sa sn sc)→w'.cell? ⟨pb,po+1,none⟩=some (.slice ea en ec)→w'.cell? ⟨pb,po+2,none⟩=some kv→w'.cell? ⟨pb,po+3,none⟩=some (.int .i8 Z.ord) →
   KOwn d w' Hb 0 (.slice ka l.length cap) c→c.length=l.length→yj d (fun b=>(Value.slice ka l.length cap).ownBlock=some b∨S' b) w' kv (Z.F ks)→Z.X w' S'→(∀ b,S' b→S b∨w.heap.size≤b)→Keep (K6 Z pb po (.slice ka l.length cap) S) w w'→k .nilIface w') →
  bu Tryz.prog (.iface Z.rt Z.rv) "Transform" #[.func (.func 102) #[] #[], .agg [.slice sa sn sc, .slice ea en ec, .slice ka l.length cap, .int .i8 0].toArray, .pointer (some ⟨pb, po, none⟩)] k w
structure MS (d:World) (U o Bf:Nat) (Z:TX) (Ls:Array Lvl) (B:List Bytes):Prop where
 mc:MC d U Bf Ls
 bds:Bds Ls.size (Lf Ls) B
 ti:∃ HK,TI d U (o+4) Bf HK Z∧∀ u,HK (cM Ls.size (Lf Ls) B u)
 cd:∀ u,Cd (cM Ls.size (Lf Ls) B u)
 len:∀ u,(cM Ls.size (Lf Ls) B u).length < 100000
 blen:∀ x ∈ B,x.length < 4294967296
structure MU (w:World) (U o:Nat) (Z:TX):Prop where
 u3:∃ a n c,w.cell? ⟨U,o+1,none⟩=some (.slice a n c)
 u4:∃ a n c,w.cell? ⟨U,o+2,none⟩=some (.slice a n c)
 u5:w.cell? ⟨U,o+3,none⟩=some (.iface Z.rt Z.rv)
 u6:∃ v,w.cell? ⟨U,o+4,none⟩=some v
 u7:∃ v,w.cell? ⟨U,o+5,none⟩=some v
 u8:∃ v,w.cell? ⟨U,o+6,none⟩=some v
 u9:∃ v,w.cell? ⟨U,o+7,none⟩=some v
 u11:∃ v,w.cell? ⟨U,o+9,none⟩=some v
section
variable (n:Nat) (L:Nat→List Sp) (B:List Bytes) (u:Nat)
def jV (i:Nat):List K:=(List.range i).flatMap fun i=>if cp L B u i % 2=1 then (L i)[cp L B u i / 2]!.ks else []
theorem jj (i:Nat):jV L B u (i+1)=jV L B u i++if cp L B u i % 2=1 then (L i)[cp L B u i / 2]!.ks else []:=by
 unfold jV
 rw [List.range_succ,cV]
 simp
theorem ub {i:Nat} (h:i≤n):(jV L B u i).length≤(cM n L B u).length:=by
 obtain ⟨m,rfl⟩:∃ m,n=i+m:=⟨n - i,by omega⟩
 unfold cM jV
 rw [List.range_add,cV,aM]
 omega
def pB (i:Nat):Bool:=(List.range i).any fun i=>decide (cp L B u i % 2=1)
theorem ud:pB L B u 0=false:=rfl
theorem mb (i:Nat):pB L B u (i+1)=(pB L B u i || decide (cp L B u i % 2=1)):=by
 unfold pB
 rw [List.range_succ,List.any_append]
 simp
end
def E0 (U o Bf:Nat) (Z:TX) (vk:Value) (S:Nat→Prop):Nat→Nat→Prop:=fun b x=>b=U∧o+4≤x∧x≤o+7∨b=Bf∧x=0∨Z.T b x∨vk.ownBlock=some b∨S b
section
variable {d w:World} {U o Bf:Nat} {Z:TX} {Ls:Array Lvl} {B:List Bytes} {S:Nat→Prop}
theorem MS.tU (m:MS d U o Bf Z Ls B) {x:Nat} (h:Z.T U x):x < o∨o+70≤x:=by
 obtain ⟨HK,t,_⟩:=m.ti
 rcases t.tT h with ⟨_,h⟩ | ⟨h,_⟩
 ·omega
 ·exact absurd h.symm m.mc.ne
theorem MS.tB (m:MS d U o Bf Z Ls B) {x:Nat} (h:Z.T Bf x):9≤x:=by
 obtain ⟨HK,t,_⟩:=m.ti
 rcases t.tT h with ⟨h,_⟩ | ⟨_,h⟩
 ·exact absurd h m.mc.ne
 ·exact h
theorem MS.tT (m:MS d U o Bf Z Ls B) {b x:Nat} (h:Z.T b x):b=U∨b=Bf:=by
 obtain ⟨HK,t,_⟩:=m.ti
 exact (t.tT h).imp And.left And.left
theorem MS.tO (m:MS d U o Bf Z Ls B) {b x:Nat} (h:Z.T b x):d.cell? ⟨b,x,none⟩=none:=by
 rcases m.tT h with rfl | rfl
 ·exact m.mc.oU x
 ·exact m.mc.oB x
theorem MS.tI (m:MS d U o Bf Z Ls B) {b x i:Nat} (h:Z.T b x) (hi:i < Ls.size):b≠Ls[i]!.I:=by
 rcases m.tT h with rfl | rfl
 ·exact (m.mc.iU i hi).symm
 ·exact (m.mc.iB i hi).symm
end
end Go.E
end
