/- Parts of the proof: Tr, Sy, Sk, Fm. -/
import Derived.Test.YtlmoafgebiffaaaGreatDoorV09
set_option linter.all false
set_option maxRecDepth 10000
section
namespace Go.E
open Go Go.Sort Go.Proofs Go.Proofs.Tryz
theorem uP {snap:Nat} {l:List KR} {x:KR} (h:jv snap l=some x):au x.k.tr=19:=by
 induction l with
 | nil=>simp [jv] at h
 | cons y l ih =>
  rw [uN] at h
  split at h
  ·split at h
   ·simp only [aP] at h
    subst h; assumption
   ·exact ih h
  ·exact ih h
theorem KOwn.drew {d w:World} {Hb ho:Nat} {v:Value} {l:List KR} (h:KOwn d w Hb ho v l):KOwn d w.drew Hb ho v l:=⟨h.hd,h.own.drew,h.good⟩
theorem KOwn.keep {d w w2:World} {Hb ho:Nat} {v:Value} {l:List KR} {M:Nat→Nat→Prop} (h:KOwn d w Hb ho v l) (hk:Keep M w w2) (h1:¬ M Hb ho) (h2:∀ g,v.ownBlock=some g→∀ x,¬ M g x):KOwn d w2 Hb ho v l:=⟨hk.some h.hd h1,aX h.own hk h2,h.good⟩
end Go.E
namespace Go.Proofs
open Go Go.E Go.Sort Go.Proofs.Tryz
section
variable {k:aq} {d w:World}
theorem JY {g n cap j:Nat} {c:List KR} {x:KR} (o:w.ownsRow 0 117 3 (.slice (some ⟨g,0,none⟩) n cap) n (dA c)) (hc:c.length=n) (hj:j < n) (hcap:n≤cap) (hg:x.good d) :
    ∃ w6,(∀ q:aq,me prog #[57,57] 57 #[.slice (some ⟨g,0,none⟩) j cap,.slice (some ⟨w.heap.size,0,none⟩) 1 1] q (w.alloc (.cells x.cells.toArray 117)).drew=q (.slice (some ⟨g,0,none⟩) (j+1) cap) w6) ∧
     w6.ownsRow 0 117 3 (.slice (some ⟨g,0,none⟩) n cap) n (dA (c.set j x))∧Keep (fun b o=>b=g∧j * 3≤o∧o < j * 3+3) w w6:=by
 obtain ⟨w5,hw5⟩:∃ w5,w5=w.alloc (.cells x.cells.toArray 117):=⟨_,rfl⟩
 rw [← hw5]
 have k5:bp w w5:=by rw [hw5]; exact aJ _
 obtain ⟨w6,hw6⟩:∃ w6,w6=(((w5.setCell ⟨g,j * 3,none⟩ (.int .u64 x.k.tr)).setCell ⟨g,j * 3+1,none⟩ x.sv).setCell ⟨g,j * 3+2,none⟩ x.vv):=⟨_,rfl⟩
 have hclen:(dA c).length=n * 3:=by rw [ic,hc]
 refine ⟨w6.drew,?_,?_,?_⟩
 ·intro q
  have:=qz (k:=q) (w:=w5.drew) (by_:=56) (ty:=57) (news:=x.cells) (m:=1) (c:=1) (cap:=cap) (b:=g) (off:=0) (n:=j) (a:=⟨w.heap.size,0,none⟩) rw57 rfl ?_ (gC hg) (by omega) ?_ ?_
  ·rw [Nat.zero_add] at this
   rw [hw6]; exact this
  ·intro i u hu
   rw [dS rfl,Nat.zero_add,hw5]
   rw [show (w.alloc (Obj.cells x.cells.toArray 117)).drew.cell? ⟨w.heap.size,i,none⟩=(w.alloc (Obj.cells x.cells.toArray 117)).cell? ⟨w.heap.size,i,none⟩ from rfl]
   refine bA ?_
   simpa using hu
  ·intro i hi
   have hi:i < 3:=hi
   have:(dA c)[j * 3+i]? = some (dA c)[j * 3+i]:=aD (by omega)
   rw [Nat.zero_add]
   exact ⟨_,(k5.cell (bW o this):w5.drew.cell? _=_)⟩
  ·intro i
   have:=cl (aX o k5 (fun _ _ _ h=>h)) rfl i
   exact this
 ·have:=cR (cR (cR (aX o k5 (fun _ _ _ h=>h)) (j * 3) (.int .u64 x.k.tr)) (j * 3+1) x.sv) (j * 3+2) x.vv
  rw [lx c j x (by omega),← hw6] at this
  exact this.drew
 ·rw [hw6]
  exact (((k5.keep.set (fun _=>⟨rfl,by omega,by omega⟩)).set (fun _=>⟨rfl,by omega,by omega⟩)).set (fun _=>⟨rfl,by omega,by omega⟩)).drew
theorem vW {Hb ho:Nat} {v:Value} {l:List KR} (h:KOwn d w Hb ho v l) (hinc:cM d w) (hne:∀ g,v.ownBlock=some g→g≠Hb∧cj d g) (hz:l.length < 1000000)
    (hk:∀ w' l',KOwn d w' Hb ho v l'→l'.length=l.length→l'.map KR.k=Dq (l.map KR.k)→Keep (fun b _=>v.ownBlock=some b) w w'→k (.tuple #[]) w') :
    ai prog 194 #[.pointer (some ⟨Hb,ho,none⟩)] k w:=by
 refine al [] func194 ?_
 refine bA ?_
 refine uO h hinc hne hz fun w' l' h1 h2 h3 _ _ h4 => ?_
 refine bA ?_
 exact hk w' l' h1 h2 h3 h4
def Ik (U Bf:Nat) (vk vs:Value):Nat→Nat→Prop:=fun b x=>b=U∧6≤x∧x≤9∨b=Bf∧9≤x∧x≤10∨vk.ownBlock=some b∨vs.ownBlock=some b
set_option maxHeartbeats 1000000 in
theorem tS {U Bf C snap cap:Nat} {it:Bool} {ka sa ea:Option Addr} {sn sc en ec:Nat} {vs:Value} {l ls:List KR}
    (u0:w.cell? ⟨U,0,none⟩=some (.int .u64 snap)) (u1:w.cell? ⟨U,1,none⟩=some (.pointer (some ⟨C,0,none⟩))) (u93:w.cell? ⟨U,93,none⟩=some (.bool it)) (u94:w.cell? ⟨U,94,none⟩=some (.pointer (some ⟨Bf,0,none⟩)))
    (hC:d.cell? ⟨C,1,none⟩=some (.func (.func 86) #[] #[])) (c9:∃ v,w.cell? ⟨Bf,9,none⟩=some v) (hkey:KOwn d w Bf 0 (.slice ka l.length cap) l) (hsort:KOwn d w Bf 10 vs ls)
    (u6:∃ v,w.cell? ⟨U,6,none⟩=some v) (u7:∃ v,w.cell? ⟨U,7,none⟩=some v) (u8:w.cell? ⟨U,8,none⟩=some (.slice ka l.length cap)) (u9:∃ v,w.cell? ⟨U,9,none⟩=some v)
    (fU:∀ x,w.frozen? ⟨U,x,none⟩=false) (fB:∀ x,w.frozen? ⟨Bf,x,none⟩=false) (hinc:cM d w) (oU:cj d U) (oB:cj d Bf) (hUB:Bf≠U)
    (hvk:∀ g,(Value.slice ka l.length cap).ownBlock=some g→g≠U∧g≠Bf∧cj d g) (hvs:∀ g,vs.ownBlock=some g→g≠U∧g≠Bf∧cj d g∧(Value.slice ka l.length cap).ownBlock≠some g)
    (hd:DK l) (hl:l.length < 100000) (hkind:∀ x ∈ l,au x.k.tr=19∨au x.k.tr=20∨au x.k.tr=21) (hs:snap < 18446744073709551616)
    (hkT:it=true→∀ w' r v L,CoR snap l r→w'.cell? ⟨U,6,none⟩=some (.slice sa sn sc)→w'.cell? ⟨U,7,none⟩=some (.slice ea en ec)→w'.cell? ⟨U,8,none⟩=some v→(∀ u,w.cell? ⟨U,9,none⟩=some u→w'.cell? ⟨U,9,none⟩=some u) →
     KOwn d w' Bf 0 (.slice ka l.length cap) l→KOwn d w' Bf 10 v L→L.map KR.k=Dq ((r++(jv snap l).toList).map KR.k)→(∃ v,w'.cell? ⟨Bf,9,none⟩=some v)→cZ w vs v→Keep (Ik U Bf (.slice ka l.length cap) vs) w w'→k .nilIface w')
    (hk:it=false→∀ w' r c vs' ls',CoR snap l r→w'.cell? ⟨U,6,none⟩=some (.slice sa sn sc)→w'.cell? ⟨U,7,none⟩=some (.slice ea en ec)→w'.cell? ⟨U,8,none⟩=some (.slice ka (r.filter fun x=>au x.k.tr == 21).length cap)→w'.cell? ⟨U,9,none⟩=some (.int .i8 1) →
     KOwn d w' Bf 0 (.slice ka l.length cap) c→c.length=l.length→c.take (r.filter fun x=>au x.k.tr == 21).length=r.filter (fun x=>au x.k.tr == 21)→KOwn d w' Bf 10 vs' ls'→(∃ v,w'.cell? ⟨Bf,9,none⟩=some v)→cZ w vs vs'→Keep (Ik U Bf (.slice ka l.length cap) vs) w w'→k .nilIface w') :
    ai prog 166 #[.pointer (some ⟨U,0,none⟩),.func (.func 85) #[] #[],.agg [.slice sa sn sc,.slice ea en ec,.slice ka l.length cap,.int .i8 0].toArray,.pointer (some ⟨U,6,none⟩)] k w:=by
 obtain ⟨v6,u6⟩:=u6
 obtain ⟨v7,u7⟩:=u7
 obtain ⟨v9,u9⟩:=u9
 obtain ⟨b9,c9⟩:=c9
 obtain ⟨va,vcap,hvse,hvcap,hvm⟩:=bP hsort.own
 subst hvse
 have c10:=hsort.hd
 have hUs:=aC u0
 have hBs:=aC c9
 have hUB':=Ne.symm hUB
 have z0:(0:Int).toNat=0:=rfl
 have zc:(0:Int)≤vcap:=by omega
 refine al [.tmp 8] func166 ?_
 refine eO @u6 @u7 @fU @aA ?_
 refine bF (sq [0,1,2] (.read 3 (sq [4,5,6,7] (.read 8 (sq [9,10,11] (.read 12 (sq [13,14,15,16] (.eff 17 [] .done)))))))) ?_
 simp (disch:=first | exact dZ | fail) only [go_sem,u94,c9,c10,fB,pG Tryz.es57,z0,zc,aA]
 obtain ⟨w1,hw1⟩:∃ w1,w1=((((((w.setCell ⟨U,6,none⟩ (.slice sa sn sc)).setCell ⟨U,7,none⟩ (.slice ea en ec)).setCell ⟨Bf,9,none⟩ (.func (.func 85) #[] #[])).setCell ⟨Bf,10,none⟩ (.slice va 0 vcap)).alloc (.cells #[.slice sa sn sc,.slice ea en ec,.slice ka l.length cap,.int .i8 0] 61)).drew):=⟨_,rfl⟩
 rw [← hw1]
 obtain ⟨sb,hsb⟩:∃ sb,sb=w.heap.size:=⟨_,rfl⟩
 rw [← hsb]
 have k1:Keep (fun b x=>b=U∧6≤x∧x≤7∨b=Bf∧9≤x∧x≤10) w w1:=by
  rw [hw1]
  exact ((((((Keep.refl _ w).set (fun _ => .inl ⟨rfl,by omega,by omega⟩)).set (fun _ => .inl ⟨rfl,by omega,by omega⟩)).set (fun _ => .inr ⟨rfl,by omega,by omega⟩)).set (fun _ => .inr ⟨rfl,by omega,by omega⟩)).alloc _).drew
 have s0:w1.cell? ⟨sb,2,none⟩=some (.slice ka l.length cap):=by rw [hw1,hsb]; exact bX @aA
 have s3:w1.cell? ⟨sb,3,none⟩=some (.int .i8 0):=by rw [hw1,hsb]; exact bX @aA
 have p6:w1.cell? ⟨U,6,none⟩=some (.slice sa sn sc):=by rw [hw1]; exact bX @u6
 have p7:w1.cell? ⟨U,7,none⟩=some (.slice ea en ec):=by rw [hw1]; exact bX @u7
 have p9:w1.cell? ⟨Bf,9,none⟩=some (.func (.func 85) #[] #[]):=by rw [hw1]; exact bX @c9
 have p10:w1.cell? ⟨Bf,10,none⟩=some (.slice va 0 vcap):=by rw [hw1]; exact bX @c10
 have nU:∀ x,x < 6∨7 < x→¬ (U=U∧6≤x∧x≤7∨U=Bf∧9≤x∧x≤10):=by
  rintro x hx (⟨_,h⟩ | ⟨h,_⟩)
  ·omega
  ·exact hUB' h
 have nB:∀ x,x < 9∨10 < x→¬ (Bf=U∧6≤x∧x≤7∨Bf=Bf∧9≤x∧x≤10):=by
  rintro x hx (⟨h,_⟩ | ⟨_,h⟩)
  ·exact hUB h
  ·omega
 have nK:∀ g,(Value.slice ka l.length cap).ownBlock=some g→∀ x,¬ (g=U∧6≤x∧x≤7∨g=Bf∧9≤x∧x≤10):=by
  rintro g hg x (⟨h,_⟩ | ⟨h,_⟩)
  ·exact (hvk g hg).1 h
  ·exact (hvk g hg).2.1 h
 have u0:=k1.some u0 (nU _ (by omega))
 have u1:=k1.some u1 (nU _ (by omega))
 have u8:=k1.some u8 (nU _ (by omega))
 have u9:=k1.some u9 (nU _ (by omega))
 have u93:=k1.some u93 (nU _ (by omega))
 have u94:=k1.some u94 (nU _ (by omega))
 have key1:KOwn d w1 Bf 0 (.slice ka l.length cap) l:=⟨k1.some hkey.hd (nB _ (by omega)),aX hkey.own k1 nK,hkey.good⟩
 have sort1:KOwn d w1 Bf 10 (.slice va 0 vcap) []:=by
  refine ⟨p10,aX (eQ hsort.own) k1 fun g hg x h => ?_,fun x h=>by simp at h⟩
  have:=hvs g (by rw [cS va ls.length 0]; exact hg)
  rcases h with ⟨h,_⟩ | ⟨h,_⟩
  ·exact this.1 h
  ·exact this.2.1 h
 have inc1:cM d w1:=hinc.keep k1 fun b x h=>by
  rcases h with ⟨rfl,_⟩ | ⟨rfl,_⟩
  ·exact oU x
  ·exact oB x
 have fU1:∀ x,w1.frozen? ⟨U,x,none⟩=false:=fun x=>by rw [k1.frozen U x hUs]; exact fU x
 have fB1:∀ x,w1.frozen? ⟨Bf,x,none⟩=false:=fun x=>by rw [k1.frozen Bf x hBs]; exact fB x
 have hsbl:sb < w1.heap.size:=aC s0
 have hC1:=inc1 _ _ _ hC
 refine bF (sq [0,1,2] (.read 3 (sq [4,5] (.read 6 (sq [7,8,9] (.read 10 (sq [11,12,13,14,15] (.read 16 (sq [17] (.read 18 (.eff 19 [] (sq [20] .done)))))))))))) ?_
 refine hJ @u0 @u1 @u94 @hC1 @s0 ?_
 obtain ⟨gk,hgk⟩:∃ gk,(0 < l.length→ka=some ⟨gk,0,none⟩)∧gk≠Bf∧JX w1 gk l∧(0 < l.length→gk < w1.heap.size)∧(∀ g,(Value.slice va 0 vcap).ownBlock=some g→g≠gk):=by
  rcases cg key1.own with ⟨h1,h2,_⟩ | ⟨g,c',h1,_,h3⟩
  ·have:l=[]:=ak.1 h2
   subst this
   refine ⟨U,fun h=>by simp at h,hUB',fun i x h=>by simp at h,fun h=>by simp at h,fun g hg=>(hvs g (by rw [cS va ls.length 0]; exact hg)).1⟩
  ·simp only [aU,true_and] at h1
   obtain ⟨rfl,rfl⟩:=h1
   refine ⟨g,fun _=>rfl,(hvk g rfl).2.1,fun i x hx => ?_,fun _=>h3,fun g' hg' he => ?_⟩
   ·obtain ⟨f1,f2,f3⟩:=kZ hx
    exact ⟨bW key1.own f1,bW key1.own f2,bW key1.own f3⟩
   ·subst he
    exact (hvs g' (by rw [cS va ls.length 0]; exact hg')).2.2.2 rfl
 obtain ⟨g1,g2,g3,g4,g5⟩:=hgk
 refine vV (d:=d) (ho:=9) (by exact p9) sort1.drew (by exact fB1) (fun g hg=>⟨(hvs g (by rw [cS va ls.length 0]; exact hg)).2.1,g5 g hg,(hvs g (by rw [cS va ls.length 0]; exact hg)).2.2.1⟩) g2 (oB _) g1 (by exact g3) (by exact g4) hkey.good (by exact inc1) hd hl hs fun w2 vs2 r sort2 hcr hrl k2 n2 => ?_
 have k2:Keep (jG Bf 10 (.slice va 0 vcap)) w1 w2:=(Keep.refl _ w1).drew.trans k2
 have n2:cZ w1 (.slice va 0 vcap) vs2:=n2
 have hv0:∀ g,(Value.slice va 0 vcap).ownBlock=some g→g≠U∧g≠Bf∧cj d g∧(Value.slice ka l.length cap).ownBlock≠some g:=fun g hg=>hvs g (by rw [cS va ls.length 0]; exact hg)
 have nU2:∀ x,¬ jG Bf 10 (.slice va 0 vcap) U x:=by
  rintro x (⟨h,_⟩ | h)
  ·exact hUB' h
  ·exact (hv0 U h).1 rfl
 have nB2:∀ x,x≠10→¬ jG Bf 10 (.slice va 0 vcap) Bf x:=by
  rintro x hx (⟨_,h⟩ | h)
  ·exact hx h
  ·exact (hv0 Bf h).2.1 rfl
 have nK2:∀ g,(Value.slice ka l.length cap).ownBlock=some g→∀ x,¬ jG Bf 10 (.slice va 0 vcap) g x:=by
  rintro g hg x (⟨h,_⟩ | h)
  ·exact (hvk g hg).2.1 h
  ·exact (hv0 g h).2.2.2 hg
 have key2:=key1.keep k2 (nB2 _ (by omega)) nK2
 have p6:=k2.some p6 (nU2 _)
 have p7:=k2.some p7 (nU2 _)
 have u0:=k2.some u0 (nU2 _)
 have u1:=k2.some u1 (nU2 _)
 have u8:=k2.some u8 (nU2 _)
 have u9:=k2.some u9 (nU2 _)
 have u93:=k2.some u93 (nU2 _)
 have u94:=k2.some u94 (nU2 _)
 have hC2:=k2.some hC1 (by
  rintro (⟨h,_⟩ | h)
  ·exact cM.ne hC oB h
  ·exact cM.ne hC (hv0 _ h).2.2.1 rfl)
 have nsb:∀ x,¬ jG Bf 10 (.slice va 0 vcap) sb x:=by
  rintro x (⟨h,_⟩ | h)
  ·omega
  ·rcases cg sort1.own with ⟨e,_⟩ | ⟨g,c',e,_,hg⟩
   ·rw [e] at h; simp [Value.ownBlock] at h
   ·simp only [aU] at e
    obtain ⟨rfl,_,_⟩:=e
    simp only [Value.ownBlock,aP] at h
    have hz:(Value.slice (some ⟨g,0,none⟩) ls.length vcap).ownBlock=some g:=rfl
    rcases cg hsort.own with ⟨e,_⟩ | ⟨g',c'',e,_,hg'⟩
    ·simp at e
    ·simp only [aU,aP,Addr.mk.injEq] at e
     omega
 have s0:=k2.some s0 (nsb _)
 have s3:=k2.some s3 (nsb _)
 have fU2:∀ x,w2.frozen? ⟨U,x,none⟩=false:=fun x=>by rw [k2.frozen U x (aC (k1.some (by assumption) (nU 0 (by omega))))]; exact fU1 x
 obtain ⟨R,hR⟩:∃ R,R=r++(jv snap l).toList:=⟨_,rfl⟩
 rw [← hR] at sort2
 obtain ⟨ra,rcap,hre,hrcap,hrm⟩:=bP sort2.own
 subst hre
 have p10:=sort2.hd
 have hsR:∀ g,(Value.slice ra R.length rcap).ownBlock=some g→g≠U∧g≠Bf∧cj d g∧(Value.slice ka l.length cap).ownBlock≠some g:=fun g hg=>by
  rcases n2 g hg with h | h
  ·exact hv0 g h
  ·refine ⟨by omega,by omega,inc1.out h,fun he => ?_⟩
   have:=(key1.own.lt g he).2
   omega
 have inc2:cM d w2:=inc1.keep k2 fun b x h=>by
  rcases h with ⟨rfl,_⟩ | h
  ·exact oB x
  ·exact (hv0 b h).2.2.1 x
 have hRlen:R.length < 1000000:=by
  rw [hR,aE]
  have:(jv snap l).toList.length≤1:=by cases jv snap l <;> simp
  omega
 cases it
 rotate_left
 ·have n30:((0:Int) != 0)=false:=by decide
  refine FW @s0 @u0 @u94 @hC2 @u1 @u93 @p10 @u8 @s3 @n30 @fU2 ?_
  obtain ⟨w3,hw3⟩:∃ w3,w3=w2.setCell ⟨U,8,none⟩ (.slice ra R.length rcap):=⟨_,rfl⟩
  rw [← hw3]
  have k23:Keep (fun b x=>b=U∧x=8) w2 w3:=by rw [hw3]; exact bY ⟨rfl,rfl⟩
  have q8:w3.cell? ⟨U,8,none⟩=some (.slice ra R.length rcap):=by rw [hw3]; exact bX @u8
  have sort3:KOwn d w3 Bf 10 (.slice ra R.length rcap) R:=sort2.keep k23 (fun h=>hUB h.1) fun g hg x h=>(hsR g hg).1 h.1
  refine vW (Hb:=U) (ho:=8) ⟨q8,sort3.own,sort3.good⟩ (inc2.keep k23 fun b x h=>by rw [h.1]; exact oU x) (fun g hg=>⟨(hsR g hg).1,(hsR g hg).2.2.1⟩) hRlen fun w4 L k4 hL4 hm4 kk4 => ?_
  refine bA ?_
  have e4:=k4.own
  rw [hL4] at e4
  have nb4:∀ b,b=U∨b=Bf∨(Value.slice ka l.length cap).ownBlock=some b→¬ (Value.slice ra R.length rcap).ownBlock=some b:=by
   rintro b (rfl | rfl | h) hb
   ·exact (hsR _ hb).1 rfl
   ·exact (hsR _ hb).2.1 rfl
   ·exact (hsR _ hb).2.2.2 h
  have s4:∀ {x v},x≠8→w2.cell? ⟨U,x,none⟩=some v→w4.cell? ⟨U,x,none⟩=some v:=fun hx h=>kk4.some (k23.some h fun h=>hx h.2) (nb4 _ (.inl rfl))
  have b4:∀ {x v},w2.cell? ⟨Bf,x,none⟩=some v→w4.cell? ⟨Bf,x,none⟩=some v:=fun h=>kk4.some (k23.some h fun h=>hUB h.1) (nb4 _ (.inr (.inl rfl)))
  have p9:=k2.some p9 (nB2 _ (by omega))
  refine hkT rfl w4 r _ L hcr (s4 (by omega) p6) (s4 (by omega) p7) k4.hd (fun u hu=>s4 (by omega) (k2.some (k1.some hu (nU _ (by omega))) (nU2 _))) ((key2.keep k23 (fun h=>hUB h.1) fun g hg x h=>(hvk g hg).1 h.1).keep kk4 (nb4 _ (.inr (.inl rfl))) fun g hg x=>nb4 g (.inr (.inr hg))) ⟨b4 sort2.hd,k4.own,k4.good⟩ (by rw [hm4,hR]) ⟨_,b4 p9⟩ (fun g hg => ?_) ?_
  ·rcases n2 g hg with h | h
   ·exact .inl (by rw [cS va ls.length 0]; exact h)
   ·exact .inr (ah k1.size h)
  ·refine ((k1.mono fun b x _ h => ?_).tr k2 fun b x hb h => ?_).tr (k23.mono fun b x _ h=>(?_:Ik U Bf (.slice ka l.length cap) (.slice va ls.length vcap) b x)) (fun b x _ h=>h) |>.tr kk4 fun b x hb h => ?_
   ·rcases h with ⟨h1,h2,h3⟩ | ⟨h1,h2,h3⟩
    ·exact .inl ⟨h1,by omega,by omega⟩
    ·exact .inr (.inl ⟨h1,h2,h3⟩)
   ·rcases h with ⟨h1,h2⟩ | h
    ·exact .inr (.inl ⟨h1,by omega,by omega⟩)
    ·exact .inr (.inr (.inr (by rw [cS va ls.length 0]; exact h)))
   ·exact .inl ⟨h.1,by omega,by omega⟩
   ·rcases n2 b h with h | h
    ·exact .inr (.inr (.inr (by rw [cS va ls.length 0]; exact h)))
    ·have:=k1.size; omega
 have hk:=hk rfl
 have zk:(0:Int)≤cap:=by omega
 simp (disch:=first | exact dZ | fail) only [go_sem,s0,u0,u94,hC2,u1,u93,p10,u8,pG Tryz.es57,z0,zk,fU2]
 obtain ⟨w3,hw3⟩:∃ w3,w3=w2.setCell ⟨U,8,none⟩ (.slice ka 0 cap):=⟨_,rfl⟩
 rw [← hw3]
 have k23:Keep (fun b x=>b=U∧x=8∨(Value.slice ka l.length cap).ownBlock=some b) w2 w3:=by rw [hw3]; exact bY (.inl ⟨rfl,rfl⟩)
 have q8:w3.cell? ⟨U,8,none⟩=some (.slice ka 0 cap):=by rw [hw3]; exact bX @u8
 have hkU:∀ g,(Value.slice ka l.length cap).ownBlock=some g→g≠U:=fun g hg=>(hvk g hg).1
 have k23':Keep (fun b x=>b=U∧x=8) w2 w3:=by rw [hw3]; exact bY ⟨rfl,rfl⟩
 have key3:w3.ownsRow 0 117 3 (.slice ka l.length cap) l.length (dA l):=aX key2.own k23' fun g hg x h=>hkU g hg h.1
 have hUs2:U < w1.heap.size:=aL hUs k1.size
 have hRl:∀ x ∈ R,x ∈ l:=fun x hx=>by
  rw [hR] at hx
  rcases aS.1 hx with h | h
  ·exact hcr.sub h
  ·exact Di (by simpa using h)
 refine bZ (fun i:Nat=>[(3,.pointer (some ⟨U,6,none⟩)),(10,.slice ra R.length rcap),(102,.int .i64 R.length),(103,.int .i64 i)])
  (fun i w'=>∃ c,w'.ownsRow 0 117 3 (.slice ka l.length cap) l.length (dA c)∧c.length=l.length∧(∀ x ∈ c,x.good d)∧c.take ((R.take i).filter fun x=>au x.k.tr == 21).length=(R.take i).filter (fun x=>au x.k.tr == 21) ∧
   w'.cell? ⟨U,8,none⟩=some (.slice ka ((R.take i).filter fun x=>au x.k.tr == 21).length cap)∧Keep (fun b x=>b=U∧x=8∨(Value.slice ka l.length cap).ownBlock=some b) w2 w'∧i≤R.length) (fun i _=>R.length - i) 0 (by kernel_rfl) ?_ ⟨l,key3,rfl,hkey.good,rfl,q8,k23,aT _⟩ ?_
 ·exact bU
 rintro K e2 i w4 ⟨c,i1,i2,i3,i4,i5,i6,i7⟩ hK
 have fU4:∀ x,w4.frozen? ⟨U,x,none⟩=false:=fun x=>by rw [i6.frozen U x (aC u8)]; exact fU2 x
 have sort4:w4.ownsRow 0 117 3 (.slice ra R.length rcap) R.length (dA R):=aX sort2.own i6 fun g hg x h=>by
  rcases h with ⟨h,_⟩ | h
  ·exact (hsR g hg).1 h
  ·exact (hsR g hg).2.2.2 h
 by_cases hi:i < R.length
 ·have hi':(i:Int) < R.length:=by omega
  obtain ⟨x,hx⟩:∃ x,R[i]? = some x:=⟨R[i],aD hi⟩
  have hxm:x ∈ R:=aO hx
  have hg:=hkey.good x (hRl x hxm)
  obtain ⟨a,na,b,nb,q1,q2⟩:=hg.form
  have hv:x.v = .agg [.int .u64 x.k.tr,.slice a x.k.suf.length na,.slice b x.k.val.length nb].toArray:=by unfold KR.v; rw [q1,q2]
  obtain ⟨gs,sc',hgs⟩:∃ gs sc',Value.slice ra R.length rcap = .slice (some ⟨gs,0,none⟩) R.length sc':=by
   rcases cg sort4 with ⟨_,h,_⟩ | ⟨g,c',h,_⟩
   ·omega
   ·exact ⟨g,c',h⟩
  simp only [aU,true_and] at hgs
  obtain ⟨rfl,rfl⟩:=hgs
  obtain ⟨f1,f2,f3⟩:=kZ hx
  have c1:=bW sort4 f1
  have c2:=bW sort4 f2
  have c3:=bW sort4 f3
  rw [q1] at c2
  rw [q2] at c3
  have htk:R.take (i+1)=R.take i++[x]:=by rw [List.take_add_one,hx]; rfl
  refine eO @hi' @c1 @c2 @c3 ?_
  rw [← hv]
  refine oW hg fun w5 x5 => ?_
  have i5':=x5.cell i5
  have c1:=x5.cell c1
  have c2:=x5.cell c2
  have c3:=x5.cell c3
  have fU5:∀ x,w5.frozen? ⟨U,x,none⟩=false:=fun x=>by rw [x5.frozen U x (aC i5)]; exact fU4 x
  by_cases h21:au x.k.tr=21
  ·have e21:(((au x.k.tr:Nat):Int) == 21)=true:=by rw [h21]; rfl
   refine bu @e21 ?_
   refine bF (sq [0,1,2,3] (.read 4 (sq [5,6,7,8,9,10,11,12] (.read 13 (sq [14,15,16] (.read 17 (sq [18,19,20,21] (.read 22 (sq [23,24,25,26] (.read 27 (.eff 28 [] (sq [29,30] .done)))))))))))) ?_
   refine bA ?_
   have hir:i < r.length:=by
    refine Classical.byContradiction fun hn => ?_
    rw [hR,bC (by omega)] at hx
    have hm:=aO hx
    have:=uP (l:=l) (snap:=snap) (x:=x) (by simpa using hm)
    omega
   have hout:((R.take i).filter fun x=>au x.k.tr == 21).length≤i:=by
    have:=bN (fun x:KR=>au x.k.tr == 21) (R.take i)
    rw [bE] at this
    omega
   obtain ⟨g,cap',hga⟩:∃ g c',Value.slice ka l.length cap = .slice (some ⟨g,0,none⟩) l.length c':=by
    rcases cg i1 with ⟨_,h,_⟩ | ⟨g,c',h,_⟩
    ·omega
    ·exact ⟨g,c',h⟩
   simp only [aU,true_and] at hga
   obtain ⟨rfl,rfl⟩:=hga
   have hcap:l.length≤cap:=by
    obtain ⟨_,_,e,h,_⟩:=bP i1
    simp only [aU,true_and] at e
    rw [e.2]; exact h
   obtain ⟨out,ho⟩:∃ out,out=(R.take i).filter fun x=>au x.k.tr == 21:=⟨_,rfl⟩
   rw [← ho] at i4 i5 i5' hout
   have hUs5:=aC i5'
   have hgs5:=aC c1
   have hgsU:gs≠U:=(hsR gs rfl).1
   have hgsg:gs≠g:=fun e=>(hsR gs rfl).2.2.2 (by rw [e]; rfl)
   have hgU:g≠U:=hkU g rfl
   refine bF (sq [0,1,2,3] (.read 4 (sq [5,6,7] (.read 8 (.eff 9 [4] (.eff 10 [] (sq [11,12] (.eff 13 [] .done)))))))) ?_
   refine eO @c1 @c2 @c3 @i5' ?_
   have hcells : #[Value.int IntKind.u64 x.k.tr,Value.slice a x.k.suf.length na,Value.slice b x.k.val.length nb]=x.cells.toArray:=by unfold KR.cells; rw [q1,q2]
   have hxc:Value.agg x.cells.toArray = .agg [.int .u64 x.k.tr,.slice a x.k.suf.length na,.slice b x.k.val.length nb].toArray:=by unfold KR.cells; rw [q1,q2]
   obtain ⟨w6,a1,a2,a3⟩:=JY (w:=w5.drew) (j:=out.length) (aX i1 x5 (fun _ _ _ h=>h)).drew i2 (by omega) hcap hg
   have a1:∀ q:aq,me prog #[57,57] 57 #[.slice (some ⟨g,0,none⟩) out.length cap,.slice (some ⟨w5.heap.size,0,none⟩) 1 1] q (w5.alloc (.cells x.cells.toArray 117)).drew.drew=q (.slice (some ⟨g,0,none⟩) (out.length+1) cap) w6:=a1
   have a3:Keep (fun b o=>b=g∧out.length * 3≤o∧o < out.length * 3+3) w5 w6:=(Keep.refl _ w5).drew.trans a3
   rw [hcells,a1]
   have c1:=a3.some c1 (fun h=>hgsg h.1)
   have c2:=a3.some c2 (fun h=>hgsg h.1)
   have c3:=a3.some c3 (fun h=>hgsg h.1)
   have i6':=a3.some i5' (fun h=>hgU h.1.symm)
   have fU6:∀ x,w6.frozen? ⟨U,x,none⟩=false:=fun x=>by rw [a3.frozen U x hUs5]; exact fU5 x
   rw [hxc]
   refine hJ @c1 @c2 @c3 @i6' @fU6 ?_
   have hfl:(R.take (i+1)).filter (fun x=>au x.k.tr == 21)=out++[x]:=by
    rw [htk,List.filter_append,← ho]
    simp [h21]
   refine hK _ _ (i+1) ?_ ⟨c.set out.length x,aX a2 (M:=fun b o=>b=U∧o=8) (bY ⟨rfl,rfl⟩) fun g' hg' x' h=>hkU g' hg' h.1,by simp [i2],fun y hy => ?_,?_,?_,?_,by omega⟩ (by omega)
   ·exact bU
   ·rcases List.mem_or_eq_of_mem_set hy with h | h
    ·exact i3 y h
    ·subst h; exact hg
   ·rw [hfl,aE,ar,List.take_add_one,List.take_set_of_le (aF _),i4,List.getElem?_set_self (by omega)]; rfl
   ·rw [hfl,aE,ar]
    exact bX @i6'
   ·exact ((i6.trans x5.keep).trans (a3.mono fun b o _ h => .inr (by rw [h.1]; rfl))).set (fun _ => .inl ⟨rfl,rfl⟩)
  ·have e21:(((au x.k.tr:Nat):Int) == 21)=false:=by rw [beq_eq_false_iff_ne]; omega
   have hfl:(R.take (i+1)).filter (fun x=>au x.k.tr == 21)=(R.take i).filter (fun x=>au x.k.tr == 21):=by
    rw [htk,List.filter_append]
    simp [h21]
   by_cases h20:au x.k.tr=20
   ·have e20:(((au x.k.tr:Nat):Int) == 20)=true:=by rw [h20]; rfl
    refine dO @e21 @e20 ?_
    refine bF (sq [0,1,2,3] (.read 4 (sq [5,6,7,8,9,10,11,12] (.read 13 (sq [14,15,16] (.read 17 (sq [18,19,20,21] (.read 22 (sq [23,24,25,26] (.read 27 (.eff 28 [] (sq [29,30] .done)))))))))))) ?_
    refine bA ?_
    refine hK _ _ (i+1) ?_ ⟨c,(aX i1 x5 (fun _ _ _ h=>h)).drew,i2,i3,by rw [hfl]; exact i4,by rw [hfl]; exact i5',(i6.trans x5.keep).drew,by omega⟩ (by omega)
    exact bU
   ·have e20:(((au x.k.tr:Nat):Int) == 20)=false:=by rw [beq_eq_false_iff_ne]; omega
    have h19:au x.k.tr=19:=by
     rcases hkind x (hRl x hxm) with h | h | h
     ·exact h
     ·exact absurd h h20
     ·exact absurd h h21
    have e19:(((au x.k.tr:Nat):Int) == 19)=true:=by rw [h19]; rfl
    refine dQ @e21 @e20 @e19 ?_
    refine hK _ _ (i+1) ?_ ⟨c,aX i1 x5 (fun _ _ _ h=>h),i2,i3,by rw [hfl]; exact i4,by rw [hfl]; exact i5',i6.trans x5.keep,by omega⟩ (by omega)
    exact bU
 ·have hi':¬ (i:Int) < R.length:=by omega
  obtain rfl:i=R.length:=by omega
  have hflt:R.filter (fun x=>au x.k.tr == 21)=r.filter fun x=>au x.k.tr == 21:=by
   rw [hR,List.filter_append]
   cases hdl:jv snap l with
   | none=>simp
   | some x=>simp [uP hdl]
  rw [ag,hflt] at i4 i5
  have u9':=i6.some u9 (by
   rintro (⟨_,h⟩ | h)
   ·omega
   ·exact hkU U h rfl)
  have nU4:∀ x,x≠8→¬ (U=U∧x=8∨(Value.slice ka l.length cap).ownBlock=some U):=by
   rintro x hx (⟨_,h⟩ | h)
   ·exact hx h
   ·exact hkU U h rfl
  have nB4:∀ x,¬ (Bf=U∧x=8∨(Value.slice ka l.length cap).ownBlock=some Bf):=by
   rintro x (⟨h,_⟩ | h)
   ·exact hUB h
   ·exact (hvk Bf h).2.1 rfl
  have p6:=i6.some p6 (nU4 _ (by omega))
  have p7:=i6.some p7 (nU4 _ (by omega))
  refine dQ @hi' @u9' @fU4 ?_
  have k45:Keep (fun b x=>b=U∧x=9) w4 (w4.setCell ⟨U,9,none⟩ (.int .i8 1)):=bY ⟨rfl,rfl⟩
  refine hk _ r c _ R hcr ?_ ?_ ?_ ?_ ⟨k45.some (i6.some key2.hd (nB4 _)) (fun h=>hUB h.1),by rw [i2]; exact aX i1 k45 fun g hg x h=>hkU g hg h.1,i3⟩ i2 i4 ⟨k45.some (i6.some p10 (nB4 _)) (fun h=>hUB h.1),aX sort4 k45 fun g hg x h=>(hsR g hg).1 h.1,sort2.good⟩ ⟨_,k45.some (i6.some (k2.some p9 (nB2 _ (by omega))) (nB4 _)) (fun h=>hUB h.1)⟩ ?_ ?_
  ·exact bX @p6
  ·exact bX @p7
  ·exact bX @i5
  ·exact bX @u9'
  ·intro g hg
   rcases n2 g hg with h | h
   ·exact .inl (by rw [cS va ls.length 0]; exact h)
   ·exact .inr (ah k1.size h)
  ·have b1:Keep (Ik U Bf (.slice ka l.length cap) (.slice va ls.length vcap)) w w1:=k1.mono fun b x _ h=>by
     rcases h with ⟨h1,h2,h3⟩ | h
     ·exact .inl ⟨h1,by omega,by omega⟩
     ·exact .inr (.inl h)
   refine (((b1.trans (k2.mono fun b x _ h => ?_)).trans (i6.mono fun b x _ h => ?_)).trans (k45.mono fun b x _ h => .inl ⟨h.1,by omega,by omega⟩))
   ·rcases h with ⟨h1,h2⟩ | h
    ·exact .inr (.inl ⟨h1,by omega,by omega⟩)
    ·exact .inr (.inr (.inr (by rw [cS va ls.length 0]; exact h)))
   ·rcases h with ⟨h1,h2⟩ | h
    ·exact .inl ⟨h1,by omega,by omega⟩
    ·exact .inr (.inr (.inl h))
end
end Go.Proofs
end
section
namespace Go.E
open Go Go.Sort Go.Proofs
theorem Dr {P:Program} {t t2 ty el el2:TypeId} {a:Option Addr} {n c:Nat} {x:Value} {w:World} (h:P.underlying t=some (.slice el)) (h2:P.underlying t2=some (.slice el2)) :
    (Builtin.append_ [t,t2].toArray ty [.slice a n c,x].toArray).run P w=(Builtin.append_ [t,t].toArray ty [.slice a n c,x].toArray).run P w:=by
 simp [Builtin.append_,run_underlying h,run_underlying h2]
end Go.E
namespace Go.E
open Go Go.Sort Go.Proofs
theorem uQ {d:World} {v:Value} {ks:List K} (h:fD jt 3 d v ks) (hne:ks≠[]):∃ xs:List KR,xs.map KR.k=ks∧(∀ x ∈ xs,x.good d)∧∀ w,cM d w→rW w v ks.length (dA xs):=by
 unfold fD at h
 split at h
 ·obtain ⟨rfl,rfl⟩:=h
  exact ⟨[],rfl,fun x hx=>by simp at hx,fun w _=>⟨rfl,rfl,rfl⟩⟩
 ·rename_i a n c
  obtain ⟨b,o,s⟩:=a
  obtain ⟨h1,h2,_,h4⟩:=h
  have hs:s=none:=h1 (by rw [h2]; exact List.length_pos_iff.2 hne)
  subst hs
  have gen:∀ (ks:List K) (o:Nat),(∀ i x,ks[i]? = some x→jt d b (o+i * 3) x)→∃ xs:List KR,xs.map KR.k=ks∧(∀ x ∈ xs,x.good d)∧∀ j u,(dA xs)[j]? = some u→d.cell? ⟨b,o+j,none⟩=some u:=by
   intro ks
   induction ks with
   | nil=>intro o _; exact ⟨[],rfl,fun x hx=>by simp at hx,fun j u hj=>by simp [oJ] at hj⟩
   | cons y ks ih =>
    intro o hy
    obtain ⟨xs,e1,e2,e3⟩:=ih (o+3) (fun i x hx=>by
     have:=hy (i+1) x (by simpa using hx)
     rw [show o+3+i * 3=o+(i+1) * 3 by omega]; exact this)
    obtain ⟨k1,k2,⟨sv,k3,k4⟩,vv,k5,k6⟩:=hy 0 y rfl
    simp only [Nat.zero_mul,Nat.add_zero] at k1 k3 k5
    refine ⟨⟨y,sv,vv⟩ :: xs,by simp [e1],fun x hx => ?_,fun j u hj => ?_⟩
    ·rcases av.1 hx with rfl | hx
     ·exact ⟨k2,k4,k6⟩
     ·exact e2 x hx
    ·rw [iJ] at hj
     rcases j with _ | _ | _ | j
     ·simp only [List.getElem?_cons_zero,aP] at hj
      subst hj; exact k1
     ·simp only [List.getElem?_cons_succ,List.getElem?_cons_zero,aP] at hj
      subst hj; exact k3
     ·simp only [List.getElem?_cons_succ,List.getElem?_cons_zero,aP] at hj
      subst hj; exact k5
     ·simp only [List.getElem?_cons_succ] at hj
      have:=e3 j u hj
      rw [show o+(j+1+1+1)=o+3+j by omega]; exact this
  obtain ⟨xs,e1,e2,e3⟩:=gen ks o h4
  refine ⟨xs,e1,e2,fun w hw=>⟨h2,fun j u hj => ?_⟩⟩
  rw [dS rfl]
  exact hw _ _ _ (e3 j u hj)
 ·exact h.elim
theorem nJ {d w:World} {ka:Option Addr} {n cap:Nat} {c out:List KR} (h:w.ownsRow 0 117 3 (.slice ka n cap) n (dA c)) (hc:c.length=n) (ht:c.take out.length=out) (hg:∀ x ∈ c,x.good d) (hd:cM d w) :
    fD jt 3 w (.slice ka out.length cap) (out.map KR.k):=by
 have hle:out.length≤n:=by
  have:out.length=(c.take out.length).length:=by rw [ht]
  rw [bE] at this
  omega
 rcases cg h with ⟨e,h0,_⟩ | ⟨g,cap',e,hcap,_⟩
 ·simp only [aU] at e
  obtain ⟨rfl,_,rfl⟩:=e
  have:out=[]:=ak.1 (by omega)
  subst this
  exact ⟨rfl,rfl⟩
 ·simp only [aU,true_and] at e
  obtain ⟨rfl,rfl⟩:=e
  refine ⟨fun _=>rfl,by simp,by omega,fun i x hx => ?_⟩
  rw [bw] at hx
  obtain ⟨y,hy,rfl⟩:=Option.map_eq_some_iff.1 hx
  have hy2:c[i]? = some y:=by
   rw [← ht,List.getElem?_take] at hy
   split at hy
   ·exact hy
   ·simp at hy
  obtain ⟨f1,f2,f3⟩:=kZ hy2
  have g:=hg y (aO hy2)
  refine ⟨by rw [Nat.zero_add]; exact bW h f1,g.1,⟨y.sv,by rw [Nat.zero_add]; exact bW h f2,g.2.1.inc hd⟩,y.vv,by rw [Nat.zero_add]; exact bW h f3,g.2.2.inc hd⟩
theorem ki {d:World} {l:List KR} (h:∀ x ∈ l,x.good d):∀ u ∈ dA l,u.oneCell'=true:=by
 induction l with
 | nil=>intro u hu; simp [oJ] at hu
 | cons x l ih =>
  intro u hu
  rw [show dA (x :: l)=x.cells++dA l from rfl] at hu
  rcases aS.1 hu with h1 | h1
  ·exact gC (h x aK) u h1
  ·exact ih (fun y hy=>h y (aW _ hy)) u h1
def Lf (Ls:Array Lvl):Nat→List Sp:=fun i=>Ls[i]!.L
def zN (d:World) (S:Nat→Prop) (w:World) (v:Value) (ks:List K):Prop :=
 ∃ (ka:Option Addr) (n cap:Nat) (c out:List KR),v = .slice ka out.length cap∧w.ownsRow 0 117 3 (.slice ka n cap) n (dA c)∧c.length=n∧c.take out.length=out∧(∀ y ∈ c,y.good d)∧out.map KR.k=ks∧∀ g,(Value.slice ka n cap).ownBlock=some g→S g
theorem zN.keep {d w w2:World} {S:Nat→Prop} {v:Value} {ks:List K} {M:Nat→Nat→Prop} (h:zN d S w v ks) (hk:Keep M w w2) (hm:∀ g,S g→∀ x,¬ M g x):zN d S w2 v ks:=by
 obtain ⟨ka,n,cap,c,out,k1,k2,k3,k4,k5,k6,k7⟩:=h
 exact ⟨ka,n,cap,c,out,k1,aX k2 hk fun g hg x=>hm g (k7 g hg) x,k3,k4,k5,k6,k7⟩
theorem zN.mono {d w:World} {S S':Nat→Prop} {v:Value} {ks:List K} (h:zN d S w v ks) (hs:∀ b,S b→S' b):zN d S' w v ks:=by
 obtain ⟨ka,n,cap,c,out,k1,k2,k3,k4,k5,k6,k7⟩:=h
 exact ⟨ka,n,cap,c,out,k1,k2,k3,k4,k5,k6,fun g hg=>hs g (k7 g hg)⟩
theorem zN.slc {d w:World} {S:Nat→Prop} {v:Value} {ks:List K} (h:zN d S w v ks) (hd:cM d w):fD jt 3 w v ks:=by
 obtain ⟨ka,n,cap,c,out,rfl,k2,k3,k4,k5,k6,k7⟩:=h
 rw [← k6]
 exact nJ k2 k3 k4 k5 hd
theorem zN.drew {d w:World} {S:Nat→Prop} {v:Value} {ks:List K} (h:zN d S w v ks):zN d S w.drew v ks:=by
 obtain ⟨ka,n,cap,c,out,k1,k2,k3⟩:=h
 exact ⟨ka,n,cap,c,out,k1,k2.drew,k3⟩
structure TX where
 F:List K→List K
 ord:Int
 rt:TypeId
 rv:Value
 T:Nat→Nat→Prop
 X:World→(Nat→Prop)→Prop
 dr:∀ {w S},X w S→X w.drew S
def LR (Z:TX) (pb po:Nat) (vk:Value) (S:Nat→Prop):Nat→Nat→Prop:=fun b x=>b=pb∧po≤x∧x≤po+3∨Z.T b x∨vk.ownBlock=some b∨S b
structure TI (d:World) (pb po Hb:Nat) (HK:List K→Prop) (Z:TX):Prop where
 keep:∀ {w w2 S M},Z.X w S→Keep M w w2→(∀ b x,b < w.heap.size→M b x→¬ Z.T b x∧¬ S b∧d.cell? ⟨b,x,none⟩=none)→Z.X w2 S
 outS:∀ {w S},Z.X w S→∀ b,S b→cj d b∧b < w.heap.size
 tT:∀ {b x},Z.T b x→b=pb∧(x+4 < po∨po+66≤x)∨b=Hb∧9≤x
 tl:∀ {w S b x},Z.X w S→Z.T b x→b < w.heap.size
 run:∀ {w:World} {S:Nat→Prop} {l:List KR} {ks:List K} {ka sa ea:Option Addr} {cap sn sc en ec:Nat} {k:aq},Z.X w S →
  w.cell? ⟨pb,po,none⟩=some (.slice sa sn sc)→w.cell? ⟨pb,po+1,none⟩=some (.slice ea en ec)→w.cell? ⟨pb,po+2,none⟩=some (.slice ka l.length cap)→w.cell? ⟨pb,po+3,none⟩=some (.int .i8 0) →
  KOwn d w Hb 0 (.slice ka l.length cap) l→(∀ x,w.frozen? ⟨pb,x,none⟩=false)→(∀ x,w.frozen? ⟨Hb,x,none⟩=false)→cM d w→cj d pb→cj d Hb→Hb≠pb →
  (∀ g,(Value.slice ka l.length cap).ownBlock=some g→g≠pb∧g≠Hb∧cj d g∧¬ S g)→(∀ g,S g→g≠pb∧g≠Hb) →
  DK l→l.length < 100000→(l.map KR.k).Perm ks→Cd ks→HK ks →
  (∀ w' S' c kv,w'.cell? ⟨pb,po,none⟩=some (.slice sa sn sc)→w'.cell? ⟨pb,po+1,none⟩=some (.slice ea en ec)→w'.cell? ⟨pb,po+2,none⟩=some kv→w'.cell? ⟨pb,po+3,none⟩=some (.int .i8 Z.ord) →
   KOwn d w' Hb 0 (.slice ka l.length cap) c→c.length=l.length→zN d (fun b=>(Value.slice ka l.length cap).ownBlock=some b∨S' b) w' kv (Z.F ks)→Z.X w' S'→(∀ b,S' b→S b∨w.heap.size≤b)→Keep (LR Z pb po (.slice ka l.length cap) S) w w'→k .nilIface w') →
  cQ Tryz.prog (.iface Z.rt Z.rv) "Transform" #[.func (.func 85) #[] #[], .agg [.slice sa sn sc, .slice ea en ec, .slice ka l.length cap, .int .i8 0].toArray, .pointer (some ⟨pb, po, none⟩)] k w
structure MS (d:World) (U o Bf:Nat) (Z:TX) (Ls:Array Lvl) (B:List Bytes):Prop where
 mc:MC d U Bf Ls
 bds:Bds Ls.size (Lf Ls) B
 ti:∃ HK,TI d U (o+4) Bf HK Z∧∀ u,HK (cy Ls.size (Lf Ls) B u)
 cd:∀ u,Cd (cy Ls.size (Lf Ls) B u)
 len:∀ u,(cy Ls.size (Lf Ls) B u).length < 100000
 blen:∀ x ∈ B,x.length < 4294967296
structure MU (w:World) (U o:Nat) (Z:TX):Prop where
 u3:∃ a n c,w.cell? ⟨U,o+1,none⟩=some (.slice a n c)
 u4:∃ a n c,w.cell? ⟨U,o+2,none⟩=some (.slice a n c)
 u5:w.cell? ⟨U,o+3,none⟩=some (.iface Z.rt Z.rv)
 u6:∃ v,w.cell? ⟨U,o+4,none⟩=some v
 u7:∃ v,w.cell? ⟨U,o+5,none⟩=some v
 u8:∃ v,w.cell? ⟨U,o+6,none⟩=some v
 u9:∃ v,w.cell? ⟨U,o+7,none⟩=some v
 u11:∃ v,w.cell? ⟨U,o+9,none⟩=some v
section
variable (n:Nat) (L:Nat→List Sp) (B:List Bytes) (u:Nat)
def mB (i:Nat):List K:=(List.range i).flatMap fun i=>if cp L B u i % 2=1 then (L i)[cp L B u i / 2]!.ks else []
theorem qN (i:Nat):mB L B u (i+1)=mB L B u i++if cp L B u i % 2=1 then (L i)[cp L B u i / 2]!.ks else []:=by
 unfold mB
 rw [List.range_succ,ay]
 simp
theorem BR {i:Nat} (h:i≤n):(mB L B u i).length≤(cy n L B u).length:=by
 obtain ⟨m,rfl⟩:∃ m,n=i+m:=⟨n - i,by omega⟩
 unfold cy mB
 rw [List.range_add,ay,aE]
 omega
def vX (i:Nat):Bool:=(List.range i).any fun i=>decide (cp L B u i % 2=1)
theorem BT:vX L B u 0=false:=rfl
theorem uR (i:Nat):vX L B u (i+1)=(vX L B u i || decide (cp L B u i % 2=1)):=by
 unfold vX
 rw [List.range_succ,List.any_append]
 simp
end
def Gm (U o Bf:Nat) (Z:TX) (vk:Value) (S:Nat→Prop):Nat→Nat→Prop:=fun b x=>b=U∧o+4≤x∧x≤o+7∨b=Bf∧x=0∨Z.T b x∨vk.ownBlock=some b∨S b
section
variable {d w:World} {U o Bf:Nat} {Z:TX} {Ls:Array Lvl} {B:List Bytes} {S:Nat→Prop}
theorem MS.tU (m:MS d U o Bf Z Ls B) {x:Nat} (h:Z.T U x):x < o∨o+70≤x:=by
 obtain ⟨HK,t,_⟩:=m.ti
 rcases t.tT h with ⟨_,h⟩ | ⟨h,_⟩
 ·omega
 ·exact absurd h.symm m.mc.ne
theorem MS.tB (m:MS d U o Bf Z Ls B) {x:Nat} (h:Z.T Bf x):9≤x:=by
 obtain ⟨HK,t,_⟩:=m.ti
 rcases t.tT h with ⟨h,_⟩ | ⟨_,h⟩
 ·exact absurd h m.mc.ne
 ·exact h
theorem MS.tT (m:MS d U o Bf Z Ls B) {b x:Nat} (h:Z.T b x):b=U∨b=Bf:=by
 obtain ⟨HK,t,_⟩:=m.ti
 exact (t.tT h).imp And.left And.left
theorem MS.tO (m:MS d U o Bf Z Ls B) {b x:Nat} (h:Z.T b x):d.cell? ⟨b,x,none⟩=none:=by
 rcases m.tT h with rfl | rfl
 ·exact m.mc.oU x
 ·exact m.mc.oB x
theorem MS.tI (m:MS d U o Bf Z Ls B) {b x i:Nat} (h:Z.T b x) (hi:i < Ls.size):b≠Ls[i]!.I:=by
 rcases m.tT h with rfl | rfl
 ·exact (m.mc.iU i hi).symm
 ·exact (m.mc.iB i hi).symm
end
end Go.E
end
section
namespace Go.Proofs
open Go Go.E Go.Sort Go.Proofs.Tryz
section
variable {k:aq} {d w:World} {U o Bf u:Nat} {Z:TX} {Ls:Array Lvl} {B:List Bytes} {pos:Nat→Int}
theorem Ds {a:Option Addr} {n c:Nat} {x:Value} {q:aq}:me prog #[143,57] 143 #[.slice a n c,x] q w=dH prog (Builtin.append_ #[143,143] 143 #[.slice a n c,x]) q w:=by
 have h2:prog.underlying 57=some (.slice 117):=by kernel_rfl
 have h1:prog.underlying 143=some (.slice 117):=by kernel_rfl
 have:=Dr (P:=prog) (t:=143) (t2:=57) (ty:=143) (a:=a) (n:=n) (c:=c) (x:=x) (w:=w) h1 h2
 have e:me prog #[143,57] 143 #[.slice a n c,x] q w=dH prog (Builtin.append_ #[143,57] 143 #[.slice a n c,x]) q w:=by simp only [me]
 rw [e]
 simp only [dH,this]
theorem Fs {o f:Nat} {a b:Value} {x y:Bytes} (h0:w.cell? ⟨U,o,none⟩=some (.pointer (some ⟨Bf,f,none⟩))) (h1:w.cell? ⟨Bf,f+2,none⟩=some (.func (.func 85) #[] #[])) (ha:dR w a x) (hb:dR w b y) (hk:k (.int .i64 (eH x y)) w) :
    ai prog 185 #[.pointer (some ⟨U,o,none⟩),a,b] k w:=by
 refine al [.tmp 6] func185 ?_
 refine dO @h0 @h1 ?_
 refine dG ha hb ?_
 refine bA ?_
 exact hk
set_option maxHeartbeats 1000000 in
theorem zO {vk:Value} {Sx:Nat→Prop} {lk:List KR} {sa ea:Option Addr} {sn sc en ec:Nat} (m:MS d U o Bf Z Ls B) (g:MB d w U o Bf 0 Ls pos) (mu:MU w U o Z) (hcmp:w.cell? ⟨Bf,2,none⟩=some (.func (.func 85) #[] #[]))
    (hpos:∀ i,i < Ls.size→0 < Ls[i]!.L.length→pos i=cp (Lf Ls) B u i) (rk:KOwn d w Bf 0 vk lk) (rx:Z.X w Sx)
    (hvk:∀ g,vk.ownBlock=some g→g≠U∧g≠Bf∧cj d g∧(∀ i,i < Ls.size→g≠Ls[i]!.I)) (hvs:∀ g,Sx g→g≠U∧g≠Bf∧cj d g∧(∀ i,i < Ls.size→g≠Ls[i]!.I)∧vk.ownBlock≠some g)
    (u3:w.cell? ⟨U,o+1,none⟩=some (.slice sa sn sc)) (u4:w.cell? ⟨U,o+2,none⟩=some (.slice ea en ec))
    (hk:∀ w' vk' S' lk' kv,w'.cell? ⟨U,o+4,none⟩=some (.slice sa sn sc)→w'.cell? ⟨U,o+5,none⟩=some (.slice ea en ec)→w'.cell? ⟨U,o+6,none⟩=some kv→w'.cell? ⟨U,o+7,none⟩=some (.int .i8 Z.ord) →
     KOwn d w' Bf 0 vk' lk'→zN d (fun b=>vk'.ownBlock=some b∨S' b) w' kv (Z.F (cy Ls.size (Lf Ls) B u))→Z.X w' S'→(∀ b,S' b→b < w'.heap.size)→cZ w vk vk'→(∀ b,S' b→Sx b∨w.heap.size≤b)→(∀ g,S' g→vk'.ownBlock≠some g)→Keep (Gm U o Bf Z vk Sx) w w' →
     k (.tuple #[.bool (tE Ls.size (Lf Ls) B u),.pointer (some ⟨U,o+4,none⟩)]) w') :
    ai prog 186 #[.pointer (some ⟨U,o,none⟩),.int .i8 (1)] k w:=by
 have c1:=g.bufs
 have lvs:=g.lvls
 have fU:=g.fU
 have fB:=g.fB
 have hUs:=aC u3
 have hBs:=aC lvs
 have ne:=m.mc.ne
 obtain ⟨HK,ti,hHK⟩:=m.ti
 obtain ⟨a0,cap0,e0,hc0,_⟩:=bP rk.own
 subst e0
 have r0:=rk.hd
 have m11:((-1:Int) == 1)=false:=by decide
 have z0:(0:Int).toNat=0:=rfl
 have zc:(0:Int)≤cap0:=by omega
 refine al [.tmp 4,.tmp 5] func186 ?_
 refine bA ?_
 refine bF (sq [0,1,2] (.read 3 (sq [4,5,6] (.read 7 (sq [8,9] (.read 10 (sq [11,12,13] (.eff 14 [] .done)))))))) ?_
 simp (disch:=first | exact dZ | fail) only [go_sem,c1,r0,pG Tryz.es143,z0,zc,fB,lvs]
 obtain ⟨w1,hw1⟩:∃ w1,w1=(w.setCell ⟨Bf,0,none⟩ (.slice a0 0 cap0)).drew:=⟨_,rfl⟩
 rw [← hw1]
 have k1:Keep (jG Bf 0 (.slice a0 lk.length cap0)) w w1:=by rw [hw1]; exact ((Keep.refl _ w).set (fun _ => .inl ⟨rfl,rfl⟩)).drew
 have k1':Keep (fun b x=>b=Bf∧x=0) w w1:=by rw [hw1]; exact ((Keep.refl _ w).set (fun _=>⟨rfl,rfl⟩)).drew
 have ro:KOwn d w1 Bf 0 (.slice a0 0 cap0) []:=by
  refine ⟨by rw [hw1]; exact bX @r0,aX (eQ rk.own) k1' fun g hg x h=>(hvk g (by rw [cS a0 lk.length 0]; exact hg)).2.1 h.1,fun x hx=>by simp at hx⟩
 have nw:cZ w (.slice a0 lk.length cap0) (.slice a0 0 cap0):=fun g hg => .inl (by rw [cS a0 lk.length 0]; exact hg)
 refine bZ (fun i:Nat=>[(0,.pointer (some ⟨U,o,none⟩)),(1,.int .i8 (1)),(6,.bool (vX (Lf Ls) B u i)),(42,.int .i64 Ls.size),(43,.int .i64 i)])
  (fun i w'=>∃ v l,KOwn d w' Bf 0 v l∧l.map KR.k=mB (Lf Ls) B u i∧cZ w (.slice a0 lk.length cap0) v∧Keep (jG Bf 0 (.slice a0 lk.length cap0)) w w'∧i≤Ls.size) (fun i _=>Ls.size - i) 0 (by kernel_rfl) ?_ ⟨_,[],ro,rfl,nw,k1,aT _⟩ ?_
 ·((try simp (disch:=first | exact dZ | fail) only [go_sem,BT]); (try simp only [and_true,true_and,eT,aU,dF,aP]); (try (refine ⟨?_,?_⟩ <;> omega)); (try omega))
 clear ro k1 k1' hw1 w1
 rintro K e i w1 ⟨v,l,i1,i2,i3,i4,i5⟩ hK
 have nrU:∀ x,¬ jG Bf 0 (.slice a0 lk.length cap0) U x:=by
  rintro x (⟨h,_⟩ | h)
  ·exact ne h.symm
  ·exact (hvk U h).1 rfl
 have nrB:∀ x,x≠0→¬ jG Bf 0 (.slice a0 lk.length cap0) Bf x:=by
  rintro x hx (⟨_,h⟩ | h)
  ·exact hx h
  ·exact (hvk Bf h).2.1 rfl
 have g1:MB d w1 U o Bf 0 Ls pos:=g.keep m.mc i4 (nrU _) (nrB _ (by omega)) (nrU _) (fun x _ _=>nrU x) (by
  rintro i hi x (⟨h,_⟩ | h)
  ·exact m.mc.iB i hi h
  ·exact (hvk _ h).2.2.2 i hi rfl) (by
  rintro x y (⟨rfl,_⟩ | h)
  ·exact m.mc.oB _
  ·exact (hvk _ h).2.2.1 _)
 have c1:=g1.bufs
 have lvs:=g1.lvls
 have fU:=g1.fU
 have fB:=g1.fB
 have n10:=m.mc.n10
 by_cases hi:i < Ls.size
 ·have hi':(i:Int) < Ls.size:=by omega
  have l1:=g1.lv i hi
  have d1:=l1.kd
  obtain ⟨vsp,d3,_,y3⟩:=l1.sp
  have hcle:=jw (L:=Lf Ls) (B:=B) u i
  unfold Lf at hcle
  by_cases hc:cp (Lf Ls) B u i % 2=1
  ·have hlen:0 < Ls[i]!.L.length:=by unfold Lf at hc; omega
   have hp:=hpos i hi hlen
   obtain ⟨c,hcc⟩:∃ c,c=cp (Lf Ls) B u i:=⟨_,rfl⟩
   have hcle:c≤2 * Ls[i]!.L.length:=by rw [hcc]; exact hcle
   rw [← hcc] at hp hc
   have hvl:gY Ls[i]!.L (pos i):=⟨by omega,by omega⟩
   have hkd:ia Ls[i]!.L (pos i)=2:=xF hvl (by omega)
   rw [hkd] at d1
   have e3:=y3 hvl
   subst e3
   rw [show (pos i).toNat / 2=c / 2 by omega] at d3
   obtain ⟨_,_,⟨kv,s1,s2⟩,_⟩:=m.mc.sp i hi (c / 2) (by omega)
   obtain ⟨xs,x1,x2,x3⟩:=uQ s2 (m.mc.kn i hi (c / 2) (by omega))
   obtain ⟨kva,kvc,hkv⟩:=s2.form
   subst hkv
   have s1:=g1.inc _ _ _ s1
   have x3:=x3 w1 g1.inc
   have r1:=i1.hd
   obtain ⟨va,vcap,hve,_,_⟩:=bP i1.own
   subst hve
   refine hJ @hi' @c1 @lvs @d1 @m11 ?_
   refine bF (sq [0,1,2] (.read 3 (sq [4,5,6] (.read 7 (sq [8,9] (.read 10 (sq [11,12,13] (.read 14 (sq [15,16] (.read 17 (sq [18,19,20,21] (.read 22 (sq [23,24] (.read 25 (.eff 26 [3] (sq [27,28] (.eff 29 [] .done))))))))))))))))) ?_
   simp (disch:=first | exact dZ | fail) only [go_sem,c1,lvs,d3,AI,s1,r1]
   have hvv:∀ g',(Value.slice va l.length vcap).ownBlock=some g'→g'≠U∧g'≠Bf∧cj d g'∧(∀ i,i < Ls.size→g'≠Ls[i]!.I):=fun g' hg'=>by
    rcases i3 g' hg' with h | h
    ·exact hvk g' h
    ·exact ⟨by omega,by omega,g.inc.out h,fun i hi he=>by have:=aC (g.lv i hi).iter.c0; omega⟩
   have hfk:=qN (Lf Ls) B u i
   rw [← hcc,if_pos hc] at hfk
   have hfl:=BR Ls.size (Lf Ls) B u (i:=i+1) (by omega)
   have hlm:=m.len u
   have hll:l.length=(mB (Lf Ls) B u i).length:=by rw [← i2,aR]
   have hsum:l.length+Ls[i]!.L[c / 2]!.ks.length < 100000:=by
    rw [hfk,aE] at hfl
    unfold Lf at hfl hlm hll
    omega
   rw [Ds]
   refine pO (m:=Ls[i]!.L[c / 2]!.ks.length) (news:=dA xs) rw143 i1.own.drew (by rw [ic,← x1,aR]) (by exact x3) (ki x2) (by omega) fun v5 w5 o5 k5 n5 _ => ?_
   obtain ⟨va5,vc5,e5,_,_⟩:=bP o5
   subst e5
   have k5:Keep (fun b _=>(Value.slice va l.length vcap).ownBlock=some b) w1 w5:=(Keep.refl _ w1).drew.trans (k5 _ fun b o hb _=>hb)
   have hUs1:=aC c1
   have hBs1:=aC lvs
   have c1:=k5.some c1 (fun h=>(hvv _ h).1 rfl)
   have lvs:=k5.some lvs (fun h=>(hvv _ h).2.1 rfl)
   have r1:=k5.some r1 (fun h=>(hvv _ h).2.1 rfl)
   have d3:=k5.some d3 (fun h=>(hvv _ h).1 rfl)
   have inc5:cM d w5:=g1.inc.keep k5 fun b o h=>(hvv b h).2.2.1 o
   obtain ⟨_,_,⟨kv',s1',_⟩,_⟩:=m.mc.sp i hi (c / 2) (by omega)
   have s1:=k5.some s1 (fun h=>cM.ne s1' (hvv _ h).2.2.1 (by rfl))
   have fB5:∀ x,w5.frozen? ⟨Bf,x,none⟩=false:=fun x=>by rw [k5.frozen Bf x hBs1]; exact fB x
   simp (disch:=first | exact dZ | fail) only [go_sem,c1,lvs,d3,AI,s1,r1,fB5]
   have hcv:vX (Lf Ls) B u (i+1)=true:=by rw [uR,← hcc,aV hc,Bool.or_true]
   have hxl:xs.length=Ls[i]!.L[c / 2]!.ks.length:=by rw [← x1,aR]
   have n15:cZ w1 (.slice va l.length vcap) (.slice va5 (l.length+Ls[i]!.L[c / 2]!.ks.length) vc5):=fun g' hg'=>by
    rcases n5 with h | ⟨g2,h,h',_⟩
    ·exact .inl (by rw [← h]; exact hg')
    ·rw [h] at hg'
     simp only [aP] at hg'
     subst hg'
     exact .inr h'
   refine hK _ _ (i+1) ?_ ⟨.slice va5 (l.length+Ls[i]!.L[c / 2]!.ks.length) vc5,l++xs,⟨?_,?_,?_⟩,?_,i3.trans n15 i4.size,?_,by omega⟩ (by omega)
   ·((try simp (disch:=first | exact dZ | fail) only [go_sem,hcv]); (try simp only [and_true,true_and,eT,aU,dF,aP]); (try (refine ⟨?_,?_⟩ <;> omega)); (try omega))
   ·exact bX @r1
   ·rw [aE,hxl,ib]
    refine aX o5 (bY (M:=fun b o=>b=Bf∧o=0) ⟨rfl,rfl⟩) fun g' hg' o h => ?_
    rcases n15 g' hg' with h' | h'
    ·exact (hvv g' h').2.1 h.1
    ·have:=h.1; omega
   ·intro y hy
    rcases aS.1 hy with h | h
    ·exact i1.good y h
    ·exact x2 y h
   ·rw [az,i2,x1,hfk]; rfl
   ·exact (i4.tr k5 fun b o hb h=>i3.m b o hb (.inr h)).set (fun _ => .inl ⟨rfl,rfl⟩)
  ·have hkd:(ia Ls[i]!.L (pos i) == 2)=false:=by
     rw [beq_eq_false_iff_ne]
     unfold ia
     split
     ·rename_i hv
      have hp:=hpos i hi (by unfold gY at hv; omega)
      split <;> omega
     ·omega
   have hcv:vX (Lf Ls) B u (i+1)=vX (Lf Ls) B u i:=by rw [uR,aG hc,Bool.or_false]
   have hfk:=qN (Lf Ls) B u i
   rw [if_neg hc,ao] at hfk
   refine qh @hi' @c1 @lvs @d1 @hkd @m11 ?_
   refine hK _ _ (i+1) ?_ ⟨v,l,i1,by rw [i2,hfk],i3,i4,by omega⟩ (by omega)
   ((try simp (disch:=first | exact dZ | fail) only [go_sem,hcv]); (try simp only [and_true,true_and,eT,aU,dF,aP]); (try (refine ⟨?_,?_⟩ <;> omega)); (try omega))
 ·have hi':¬ (i:Int) < Ls.size:=by omega
  obtain rfl:i=Ls.size:=by omega
  have hcv:vX (Lf Ls) B u Ls.size=tE Ls.size (Lf Ls) B u:=rfl
  have hfk:mB (Lf Ls) B u Ls.size=cy Ls.size (Lf Ls) B u:=rfl
  rw [hfk] at i2
  rw [hcv]
  have hvv:∀ g',v.ownBlock=some g'→g'≠U∧g'≠Bf∧cj d g'∧(∀ i,i < Ls.size→g'≠Ls[i]!.I):=fun g' hg'=>by
   rcases i3 g' hg' with h | h
   ·exact hvk g' h
   ·exact ⟨by omega,by omega,g.inc.out h,fun i hi he=>by have:=aC (g.lv i hi).iter.c0; omega⟩
  have hll:l.length < 100000:=by
   have:=m.len u
   rw [← i2,aR] at this
   exact this
  refine dO @hi' @c1 ?_
  refine uO i1 g1.inc (fun g' hg'=>⟨(hvv g' hg').2.1,(hvv g' hg').2.2.1⟩) (by omega) fun w2 l2 j1 hl2 _ j2 j3 k2 => ?_
  have k02:Keep (jG Bf 0 (.slice a0 lk.length cap0)) w w2:=i4.tr k2 fun b o hb h=>i3.m b o hb (.inr h)
  obtain ⟨v6,u6⟩:=mu.u6
  obtain ⟨v7,u7⟩:=mu.u7
  obtain ⟨v8,u8⟩:=mu.u8
  obtain ⟨v9,u9⟩:=mu.u9
  have u3:=k02.some u3 (nrU _)
  have u4:=k02.some u4 (nrU _)
  have u6:=k02.some u6 (nrU _)
  have u7:=k02.some u7 (nrU _)
  have u8:=k02.some u8 (nrU _)
  have u9:=k02.some u9 (nrU _)
  have u5:=k02.some mu.u5 (nrU _)
  have hcmp:=k02.some hcmp (nrB _ (by omega))
  have c1:=k02.some g.bufs (nrU _)
  have fU2:∀ x,w2.frozen? ⟨U,x,none⟩=false:=fun x=>by rw [k02.frozen U x hUs]; exact g.fU x
  have fB2:∀ x,w2.frozen? ⟨Bf,x,none⟩=false:=fun x=>by rw [k02.frozen Bf x hBs]; exact g.fB x
  have inc2:cM d w2:=g1.inc.keep k2 fun b o h=>(hvv b h).2.2.1 o
  obtain ⟨ka,cap,hve,_,_⟩:=bP j1.own
  subst hve
  have j1h:=j1.hd
  refine bA ?_
  refine bF (sq [0,1,2,3] (.read 4 (sq [5,6,7] (.read 8 (sq [9,10,11] (.read 12 (sq [13,14] (.read 15 (sq [16,17,18] (.eff 19 [] .done)))))))))) ?_
  refine AE @c1 @u3 @u4 @j1h @u6 @u7 @u8 @u9 @fU2 ?_
  refine bF (sq [0,1,2] (.read 3 (sq [4,5,6] (.read 7 (sq [8,9,10] (.read 11 (sq [12,13,14] (.read 15 (sq [16,17,18,19,20] (.eff 21 [] (sq [22] .done))))))))))) ?_
  refine vJ @c1 @u5 @hcmp @u6 @u7 @u8 @u9 ?_
  obtain ⟨w3,hw3⟩:∃ w3,w3=((((w2.setCell ⟨U,o+4,none⟩ (.slice sa sn sc)).setCell ⟨U,o+5,none⟩ (.slice ea en ec)).setCell ⟨U,o+6,none⟩ (.slice ka l2.length cap)).setCell ⟨U,o+7,none⟩ (.int .i8 0)).drew.drew:=⟨_,rfl⟩
  rw [← hw3]
  have k23:Keep (fun b x=>b=U∧o+4≤x∧x≤o+7) w2 w3:=by
   rw [hw3]
   exact (((((Keep.refl _ w2).set (fun _=>⟨rfl,by omega,by omega⟩)).set (fun _=>⟨rfl,by omega,by omega⟩)).set (fun _=>⟨rfl,by omega,by omega⟩)).set (fun _=>⟨rfl,by omega,by omega⟩)).drew.drew
  have q6:w3.cell? ⟨U,o+4,none⟩=some (.slice sa sn sc):=by rw [hw3]; exact bX @u6
  have q7:w3.cell? ⟨U,o+5,none⟩=some (.slice ea en ec):=by rw [hw3]; exact bX @u7
  have q8:w3.cell? ⟨U,o+6,none⟩=some (.slice ka l2.length cap):=by rw [hw3]; exact bX @u8
  have q9:w3.cell? ⟨U,o+7,none⟩=some (.int .i8 0):=by rw [hw3]; exact bX @u9
  have rx3:Z.X w3 Sx:=by
   refine ti.keep (ti.keep rx k02 fun b x hb h => ?_) k23 fun b x hb h => ?_
   ·rcases h with ⟨rfl,rfl⟩ | h
    ·exact ⟨fun h=>by have:=m.tB h; omega,fun h=>(hvs _ h).2.1 rfl,m.mc.oB _⟩
    ·obtain ⟨a1,a2,a3,_⟩:=hvk b h
     exact ⟨fun h=>by rcases m.tT h with h | h; exact a1 h; exact a2 h,fun h'=>(hvs _ h').2.2.2.2 h,a3 x⟩
   ·obtain ⟨rfl,h1,h2⟩:=h
    exact ⟨fun h=>by have:=m.tU h; omega,fun h=>(hvs _ h).1 rfl,m.mc.oU _⟩
  have rk3:KOwn d w3 Bf 0 (.slice ka l2.length cap) l2:=j1.keep k23 (fun h=>ne h.1) fun g' hg' x h=>(hvv g' hg').1 h.1
  have hcd:Cd (l2.map KR.k):=by
   have hc:=m.cd u
   rw [← i2] at hc
   exact ⟨(List.Perm.pairwise_iff (by intro x y hxy e e2; exact hxy e.symm e2.symm) j2).2 hc.dist,fun x hx=>hc.kind x (j2.mem_iff.1 hx)⟩
  have hdk:DK l2:=by
   have h2:=hcd.dist
   rw [List.pairwise_map] at h2
   refine (j3.and h2).imp fun {x y} h=>⟨h.1,fun e => ?_⟩
   have:=h.2 e
   have:=h.1
   omega
  have z23:=k23.size
  have z02:=k02.size
  have hsx:∀ g',Sx g'→g' < w.heap.size:=fun g' hg'=>(ti.outS rx g' hg').2
  refine ti.run rx3 q6 q7 q8 q9 rk3 (fun x=>by rw [k23.frozen U x (aC u3)]; exact fU2 x) (fun x=>by rw [k23.frozen Bf x (aC hcmp)]; exact fB2 x) (inc2.keep k23 fun b x h=>by rw [h.1]; exact m.mc.oU x) m.mc.oU m.mc.oB ne
   (fun g' hg'=>by
    have:=hvv g' hg'
    refine ⟨this.1,this.2.1,this.2.2.1,fun hs => ?_⟩
    rcases i3 g' hg' with h | h
    ·exact (hvs g' hs).2.2.2.2 h
    ·have:=hsx g' hs; omega) (fun g' hg'=>⟨(hvs g' hg').1,(hvs g' hg').2.1⟩) hdk (by omega) (ks:=cy Ls.size (Lf Ls) B u) (by rw [← i2]; exact j2) (m.cd u) (hHK u) fun w4 S4 c kv p6 p7 p8 p9 ok oc oi ox os k4 => ?_
  refine bA ?_
  refine bF (sq [0,1,2,3,4,5] .done) ?_
  refine bA ?_
  refine hk w4.drew _ S4 c kv p6 p7 p8 p9 (by rw [← oc] at ok; exact ok.drew) (by rw [← oc] at oi; exact oi.drew) (Z.dr ox) (fun b hb=>(ti.outS ox b hb).2) (by rw [oc]; exact i3) (fun b hb => ?_) (fun g' hg' he => ?_) ?_
  ·rcases os b hb with h | h
   ·exact .inl h
   ·exact .inr (by omega)
  ·rw [oc] at he
   rcases os g' hg' with h | h
   ·rcases i3 g' he with h' | h'
    ·exact (hvs g' h).2.2.2.2 h'
    ·have:=hsx g' h; omega
   ·have:=(j1.own.lt g' he).2
    omega
  ·refine ((k02.mono fun b x _ h => ?_).tr k23 fun b x _ h => .inl ⟨h.1,h.2⟩).tr k4.drew fun b x hb h => ?_
   ·rcases h with ⟨h1,h2⟩ | h
    ·exact .inr (.inl ⟨h1,h2⟩)
    ·exact .inr (.inr (.inr (.inl h)))
   ·rcases h with h | h | h | h
    ·exact .inl h
    ·exact .inr (.inr (.inl h))
    ·rcases i3 b h with h' | h'
     ·exact .inr (.inr (.inr (.inl h')))
     ·omega
    ·exact .inr (.inr (.inr (.inr h)))
end
end Go.Proofs
end
section
namespace Go.E
open Go Go.Sort Go.Proofs
structure MR (d w:World) (U o Bf:Nat) (Z:TX) (Ls:Array Lvl) (S:Nat→Prop) (vk vb:Value) (vs:Nat→Prop) (lk:List KR) (xb:List Value):Prop where
 k:KOwn d w Bf 0 vk lk
 x:Z.X w vs
 bh:w.cell? ⟨Bf,5,none⟩=some vb
 bo:w.ownsRow 0 5 1 vb xb.length xb
 kS:∀ g,vk.ownBlock=some g→S g
 bS:∀ g,vb.ownBlock=some g→S g
 sS:∀ g,vs g→S g
 kb:∀ g,vb.ownBlock=some g→vk.ownBlock≠some g
 ks:∀ g,vs g→vk.ownBlock≠some g
 bs:∀ g,vs g→vb.ownBlock≠some g
 sp:∀ g,S g→g≠U∧g≠Bf∧cj d g∧(∀ i,i < Ls.size→g≠Ls[i]!.I)∧g < w.heap.size
def JZ (U o Bf:Nat) (Z:TX) (Ls:Array Lvl) (S:Nat→Prop):Nat→Nat→Prop:=fun b x =>
 qw U o Bf 0 Ls b x∨b=U∧(o+1≤x∧x≤o+2∨o+4≤x∧x≤o+9)∨b=Bf∧(x=0∨x=5)∨Z.T b x∨S b
def SB (d:World) (vb:Value) (xb:List Value) (v:Value) (l:Bytes):Prop:=dR d v l∨v=vb∧xb=eF l
section
variable {d w w2:World} {U o Bf:Nat} {Z:TX} {Ls:Array Lvl} {B:List Bytes} {S:Nat→Prop} {vk vb:Value} {vs:Nat→Prop} {lk:List KR} {xb:List Value}
theorem jS {w:World} {v:Value} {l:Bytes} (h:w.ownsRow 0 5 1 v l.length (eF l)):dR w v l:=by
 rcases cg h with ⟨rfl,h0,_⟩ | ⟨g,cap,rfl,_,_⟩
 ·exact ⟨rfl,ak.1 h0⟩
 ·refine ⟨rfl,rfl,fun i x hx => ?_⟩
  have:=bW h hx
  simpa using this
theorem cP (l:Bytes):(eF l).length=l.length:=by unfold eF; simp
theorem MR.sb (r:MR d w U o Bf Z Ls S vk vb vs lk xb) (hd:cM d w) {v:Value} {l:Bytes} (h:SB d vb xb v l):dR w v l:=by
 rcases h with h | ⟨rfl,rfl⟩
 ·exact h.inc hd
 ·have:=r.bo
  rw [cP] at this
  exact jS this
theorem MR.keep {M:Nat→Nat→Prop} (m:MS d U o Bf Z Ls B) (r:MR d w U o Bf Z Ls S vk vb vs lk xb) (hk:Keep M w w2) (h1:¬ M Bf 0) (h3:¬ M Bf 5) (h4:∀ g,S g→∀ x,¬ M g x) (h5:∀ b x,b < w.heap.size→M b x→¬ Z.T b x∧d.cell? ⟨b,x,none⟩=none):MR d w2 U o Bf Z Ls S vk vb vs lk xb where
 k:=r.k.keep hk h1 fun g hg x=>h4 g (r.kS g hg) x
 x:=by
  obtain ⟨HK,ti,_⟩:=m.ti
  exact ti.keep r.x hk fun b x hb hm=>⟨(h5 b x hb hm).1,fun hs=>h4 b (r.sS b hs) x hm,(h5 b x hb hm).2⟩
 bh:=hk.some r.bh h3
 bo:=aX r.bo hk fun g hg x=>h4 g (r.bS g hg) x
 kS:=r.kS
 bS:=r.bS
 sS:=r.sS
 kb:=r.kb
 ks:=r.ks
 bs:=r.bs
 sp g hg:=by
  obtain ⟨a,b,c,e,f⟩:=r.sp g hg
  exact ⟨a,b,c,e,aL f hk.size⟩
theorem MU.keep {M:Nat→Nat→Prop} (g:MU w U o Z) (hk:Keep M w w2) (h1:∀ x,o+1≤x→x≤o+7→¬ M U x) (h3:∃ v,w2.cell? ⟨U,o+9,none⟩=some v):MU w2 U o Z where
 u3:=by obtain ⟨a,n,c,h⟩:=g.u3; exact ⟨a,n,c,hk.some h (h1 _ (by omega) (by omega))⟩
 u4:=by obtain ⟨a,n,c,h⟩:=g.u4; exact ⟨a,n,c,hk.some h (h1 _ (by omega) (by omega))⟩
 u5:=hk.some g.u5 (h1 _ (by omega) (by omega))
 u6:=by obtain ⟨v,h⟩:=g.u6; exact ⟨v,hk.some h (h1 _ (by omega) (by omega))⟩
 u7:=by obtain ⟨v,h⟩:=g.u7; exact ⟨v,hk.some h (h1 _ (by omega) (by omega))⟩
 u8:=by obtain ⟨v,h⟩:=g.u8; exact ⟨v,hk.some h (h1 _ (by omega) (by omega))⟩
 u9:=by obtain ⟨v,h⟩:=g.u9; exact ⟨v,hk.some h (h1 _ (by omega) (by omega))⟩
 u11:=h3
theorem uS (c:MC d U Bf Ls) {x:Nat} (h:x < o+10∨o+70≤x):¬ qw U o Bf 0 Ls U x:=by
 rintro (⟨_,h1,h2⟩ | ⟨h1,_⟩ | ⟨i,hi,h1,_⟩)
 ·omega
 ·exact c.ne h1.symm
 ·exact c.iU i hi h1.symm
theorem Dt (c:MC d U Bf Ls) {x:Nat} (h:x < 3∨4 < x):¬ qw U o Bf 0 Ls Bf x:=by
 rintro (⟨h1,_⟩ | ⟨_,h1,h2⟩ | ⟨i,hi,h1,_⟩)
 ·exact c.ne h1
 ·omega
 ·exact c.iB i hi h1.symm
theorem Gn (m:MS d U o Bf Z Ls B) {b x:Nat} (h:qw U o Bf 0 Ls b x):¬ Z.T b x∧d.cell? ⟨b,x,none⟩=none:=by
 rcases h with ⟨rfl,h1,h2⟩ | ⟨rfl,h1,h2⟩ | ⟨i,hi,rfl,_⟩
 ·exact ⟨fun h=>by have:=m.tU h; omega,m.mc.oU x⟩
 ·exact ⟨fun h=>by have:=m.tB h; omega,m.mc.oB x⟩
 ·exact ⟨fun h=>m.tI h hi rfl,m.mc.oI i hi x⟩
theorem MR.mv (m:MS d U o Bf Z Ls B) (r:MR d w U o Bf Z Ls S vk vb vs lk xb) (hk:Keep (qw U o Bf 0 Ls) w w2):MR d w2 U o Bf Z Ls S vk vb vs lk xb:=by
 refine r.keep m hk (Dt m.mc (by omega)) (Dt m.mc (by omega)) (fun g hg x => ?_) fun b x _=>Gn m
 obtain ⟨a,b,_,e,_⟩:=r.sp g hg
 rintro (⟨h1,_⟩ | ⟨h1,_⟩ | ⟨i,hi,h1,_⟩)
 ·exact a h1
 ·exact b h1
 ·exact e i hi h1
theorem MU.mv (g:MU w U o Z) (c:MC d U Bf Ls) (hk:Keep (qw U o Bf 0 Ls) w w2):MU w2 U o Z:=by
 refine g.keep hk (fun x h1 h2=>uS c (by omega)) ?_
 obtain ⟨v,h⟩:=g.u11
 exact ⟨v,hk.some h (uS c (by omega))⟩
def xQ (f:Nat→Nat):Nat→Nat
 | 0=>0
 | n+1=>xQ f n+f n
theorem zP {f f':Nat→Nat} {n:Nat} (h:∀ i,i < n→f' i=f i):xQ f' n=xQ f n:=by
 induction n with
 | zero=>rfl
 | succ n ih=>unfold xQ; rw [ih (fun i hi=>h i (by omega)),h n (by omega)]
theorem Ft {f f':Nat→Nat} {n r:Nat} (hr:r < n) (h1:f' r < f r) (h2:∀ i,i < n→i≠r→f' i=f i):xQ f' n < xQ f n:=by
 induction n with
 | zero=>omega
 | succ n ih =>
  unfold xQ
  by_cases hrn:r=n
  ·subst hrn
   rw [zP (fun i hi=>h2 i (by omega) (by omega))]
   omega
  ·have:=ih (by omega) (fun i hi=>h2 i (by omega))
   rw [h2 n (by omega) (fun e=>hrn e.symm)]
   omega
end
end Go.E
namespace Go.Proofs
open Go Go.E Go.Sort
section
variable {k:aq} {d w:World} {U o Bf:Nat} {Ls:Array Lvl} {pos:Nat→Int} {rev:Bool} {hp:Array Nat}
theorem vY (g:MB d w U o Bf 0 Ls pos) (h:MH w U o Bf 0 Ls pos rev hp) (h0:0 < hp.size) {v:Value} (hv:w.cell? ⟨U,o+10+hp[0]! * 4+2,none⟩=some v) (hf:∃ a n c,v = .slice a n c) (hk:k v w):ai Tryz.prog 189 #[.pointer (some ⟨U,o,none⟩)] k w:=by
 obtain ⟨a,n,c,rfl⟩:=hf
 have c1:=g.bufs
 have c2:=h.at_.c2
 have p0:=h.at_.ptr 0 h0
 have z0:(0:Int).toNat=0:=rfl
 have z1:(0:Int)≤0:=by decide
 have z2:(0:Int) < hp.size:=by omega
 refine al [.tmp 2] Tryz.func189 ?_
 refine AE @c1 @c2 @p0 @hv @z0 @z1 @z2 @Nat.zero_mul @Nat.add_zero ?_
 exact hk
end
end Go.Proofs
end
