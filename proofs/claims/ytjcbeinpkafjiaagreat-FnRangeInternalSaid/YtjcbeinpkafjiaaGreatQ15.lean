/- Parts of the proof: Mt, Fj, Mf, Bp, Bo. -/
import Derived.Test.YtjcbeinpkafjiaaGreatQ14
set_option linter.all false
set_option maxRecDepth 10000
section
namespace Go.Proofs
open Go Go.E Go.Sort Go.Proofs.Tryz
section
variable {k:ae} {d w:World} {U o Bf:Nat} {Z:TX} {Ls:Array Lvl} {B:List Bytes} {S:Nat→Prop} {pos:Nat→Int} {vk vb:Value} {vs:Nat→Prop} {lk:List KR} {xb:List Value} {p:Int}
theorem Ca (G:List Sp) (key:Bytes):dQ G key < G.length:=by
 unfold dQ
 have:=jS (fun j=>decide (G[j]!.s < key)) G.length
 omega
set_option maxHeartbeats 4000000 in
theorem wo {kva:Option Addr} {kn kc:Nat} {key:Bytes} (m:MS d U o Bf Z Ls B) (sc:Sc d w U o Bf Z Ls S pos vk vb vs lk xb) (hkey:eO w (.slice kva kn kc) key) (hkv:zx (.slice kva kn kc) fun b=>∀ x,¬ mT U o Bf Z Ls b x∧¬ S b)
    (hk:FK (.pointer none) U (o+4) (GL Z.F Ls.size (Lf Ls) B) (mT U o Bf Z Ls) (Mi d U o Bf Z Ls B) w S (dQ (GL Z.F Ls.size (Lf Ls) B) key) k):aU prog 198 #[.pointer (some ⟨U,o,none⟩),.slice kva kn kc] k w:=by
 have c:=m.mc
 have ne:=c.ne
 have ne:=m.mc.ne
 have hsl:dQ (GL Z.F Ls.size (Lf Ls) B) key < (bn Ls.size (Lf Ls) B).length:=by
  rw [← bp (F:=Z.F)]
  exact Ca _ _
 have c1:=sc.g.bufs
 have lvs:=sc.g.lvls
 refine aW [.tmp 4] func198 ?_
 refine aY ?_
 refine lW sc.g ?_
 refine dU @c1 @lvs ?_
 refine bI (fun i:Nat=>[(0,.pointer (some ⟨U,o,none⟩)),(1,.slice kva kn kc),(19,.int .i64 Ls.size),(20,.int .i64 i)]) (fun i w'=>Sc d w' U o Bf Z Ls S (oY (fun x _=>(cK Ls[x]!.L key:Int)) pos i) vk vb vs lk xb∧Bef w w' U o Bf Z Ls S S∧i≤Ls.size) (fun i _=>Ls.size - i) 0 (by kernel_rfl) ?_ ⟨by rw [jb]; exact sc,Bef.refl _ _ _ _ _ _ _,aM _⟩ ?_
 ·exact bA
 rintro K e i w1 ⟨sc1,b1,hi0⟩ hK
 have c1:=sc1.g.bufs
 have lvs:=sc1.g.lvls
 have n10:=c.n10
 by_cases hi:i < Ls.size
 ·have hi':(i:Int) < Ls.size:=by omega
  have l1:=sc1.g.lv i hi
  rw [jc] at l1
  have d0:=l1.it
  have d1:=l1.kd
  obtain ⟨v2,d2,_,_⟩:=l1.ky
  obtain ⟨v3,d3,_,_⟩:=l1.sp
  have e2:=ja (fun x _=>(cK Ls[x]!.L key:Int)) pos i
  have hsz:=c.sz i hi
  have hk1:=nG hkey hkv b1
  have hkb:∀ w',Keep (lf Ls[i]!.I) w1 w'→eO w' (.slice kva kn kc) key:=fun w' hk'=>hk1.keep hk' fun a n cc e _ x hx=>(hkv a n cc e x).1 (.inr (.inr (.inl ⟨i,hi,hx.1⟩)))
  refine eI @hi' @c1 @lvs @d0 ?_
  refine qH l1.iter (by omega) sc1.g.inc (c.oI i hi) (c.sp i hi) (c.wf i hi) hkb fun w2 r i2 k2 hr h1 h2 => ?_
  have nU:∀ x,¬ lf Ls[i]!.I U x:=fun x h=>c.iU i hi h.1.symm
  have nB:∀ x,¬ lf Ls[i]!.I Bf x:=fun x h=>c.iB i hi h.1.symm
  have c1:=k2.some c1 (nU _)
  have lvs:=k2.some lvs (nB _)
  have d1:=k2.some d1 (nU _)
  have d2:=k2.some d2 (nU _)
  have d3:=k2.some d3 (nU _)
  have hc0:=k2.some sc1.hw.c0 (nB _)
  have fU:∀ x,w2.frozen? ⟨U,x,none⟩=false:=fun x=>by rw [k2.frozen U x (aE sc1.g.bufs)]; exact sc1.g.fU x
  have hck:=F4 (c.wf i hi) hr h1 h2
  have hcl:=og Ls[i]!.L key
  by_cases hr0:r=Ls[i]!.L.length
  ·rw [if_neg (by omega)]
   rw [if_pos hr0] at hck
   simp (disch:=first | exact dZ | fail) only [go_sem,c1,lvs,d1,d2,d3,fU,Option.isNone_none]
   have q1:=l1.mk' (q:=(cK Ls[i]!.L key:Int)) (x:=0) (y := .slice none 0 0) (z := .pointer none) (Ne.symm (c.iU i hi)) (by omega) (by rw [show (cK Ls[i]!.L key:Int) / 2=r by omega]; exact i2) k2 (by rw [gB (by unfold dH; omega)]) rfl rfl (fun h=>by unfold dH at h; omega) (fun h=>by unfold dH at h; omega)
   obtain ⟨sc2,b2⟩:=sc1.lv m hi q1 (eP k2)
   rw [e2] at sc2
   refine hK _ _ (i+1) ?_ ⟨sc2,b1.trans b2,by omega⟩ (by omega)
   exact bA
  ·rw [if_pos (by omega)]
   rw [if_neg hr0] at hck
   have hinc2:cH d w2:=sc1.g.inc.keep k2 fun b x h=>by rw [h.1]; exact c.oI i hi x
   obtain ⟨⟨vv1,s1,s1s,s1b⟩,⟨vv2,s2,s2s,s2b⟩,_,_⟩:=c.sp i hi r (by omega)
   have s1:=hinc2 _ _ _ s1
   have s2:=hinc2 _ _ _ s2
   obtain ⟨a1,n1,cc1,rfl⟩:=cR s1s
   obtain ⟨a2,n2,cc2,rfl⟩:=cR s2s
   simp (disch:=first | exact dZ | fail) only [go_sem,ku,Option.isNone_some,s1]
   refine lV (f:=0) c1 hc0 (s1b.inc hinc2) (hkb w2 k2) ?_
   by_cases hle:key≤Ls[i]!.L[r]!.s
   ·have hle':(0:Int)≤cz Ls[i]!.L[r]!.s key:=dw.2 hle
    rw [if_pos hle] at hck
    have hnn:((cK Ls[i]!.L key:Int)).toNat / 2=r:=by omega
    refine me @hle' @s1 @d1 @d2 @d3 @fU ?_
    have q1:=l1.mk' (q:=(cK Ls[i]!.L key:Int)) (x:=1) (y := .slice (some a1) n1 cc1) (z:=ku Ls[i]!.b Ls[i]!.o r) (Ne.symm (c.iU i hi)) (by omega) (by rw [show (cK Ls[i]!.L key:Int) / 2=r by omega]; exact i2) k2 ((fK ⟨by omega,by omega⟩ (by omega)).symm) rfl rfl (fun h=>⟨rfl,by unfold cn; rw [if_pos (by omega),hnn]; exact s1b⟩) (fun h=>by rw [hnn])
    obtain ⟨sc2,b2⟩:=sc1.lv m hi q1 (eP k2)
    rw [e2] at sc2
    refine hK _ _ (i+1) ?_ ⟨sc2,b1.trans b2,by omega⟩ (by omega)
    exact bA
   ·have hle':¬ (0:Int)≤cz Ls[i]!.L[r]!.s key:=fun h=>hle (dw.1 h)
    rw [if_neg hle] at hck
    have hnn:((cK Ls[i]!.L key:Int)).toNat / 2=r:=by omega
    refine me @hle' @s2 @d1 @d2 @d3 @fU ?_
    have q1:=l1.mk' (q:=(cK Ls[i]!.L key:Int)) (x:=2) (y := .slice (some a2) n2 cc2) (z:=ku Ls[i]!.b Ls[i]!.o r) (Ne.symm (c.iU i hi)) (by omega) (by rw [show (cK Ls[i]!.L key:Int) / 2=r by omega]; exact i2) k2 ((jZ ⟨by omega,by omega⟩ (by omega)).symm) rfl rfl (fun h=>⟨rfl,by unfold cn; rw [if_neg (by omega),hnn]; exact s2b⟩) (fun h=>by rw [hnn])
    obtain ⟨sc2,b2⟩:=sc1.lv m hi q1 (eP k2)
    rw [e2] at sc2
    refine hK _ _ (i+1) ?_ ⟨sc2,b1.trans b2,by omega⟩ (by omega)
    exact bA
 ·have hi':¬ (i:Int) < Ls.size:=by omega
  obtain rfl:i=Ls.size:=by omega
  obtain ⟨pos1,hpos1⟩:∃ pos1,pos1=oY (fun x _=>(cK Ls[x]!.L key:Int)) pos Ls.size:=⟨_,rfl⟩
  rw [← hpos1] at sc1
  have hpk':∀ i,i < Ls.size→pos1 i=cK (Lf Ls i) key:=fun i hi=>by
   rw [hpos1,fY _ _ hi]
   rfl
  have hpk:∀ i,i < Ls.size→0 < (Lf Ls i).length→pos1 i=cK (Lf Ls i) key:=fun i hi _=>hpk' i hi
  have hcle:∀ i,cK (Lf Ls i) key≤2 * Ls[i]!.L.length:=fun i=>og (Lf Ls i) key
  have hpn:∀ i,i < Ls.size→oY (fun _=>jo) pos1 Ls.size i+1=cK (Lf Ls i) key:=fun i hi=>by
   rw [fY _ _ hi]
   have a1:=hpk' i hi
   show jo (pos1 i)+1=_
   unfold jo
   rw [if_neg (by omega)]
   omega
  have hpn':∀ i,i < Ls.size→0 < (Lf Ls i).length→oY (fun _=>jo) pos1 Ls.size i+1=cK (Lf Ls i) key:=fun i hi _=>hpn i hi
  have hcv:=eJ m.bds
  refine bP @hi' ?_
  refine iP c sc1.g sc1.hw sc1.u.u11 fun w2 hp2 g2 h2 e2 k2 => ?_
  obtain ⟨st2,b2⟩:=sc1.turn m g2 h2 e2 k2
  have c1:=st2.g.bufs
  have c2:=st2.h.at_.c2
  have er:=st2.g.err
  by_cases h0:0 < hp2.size
  ·have h0':((hp2.size:Int) == 0)=false:=by rw [beq_eq_false_iff_ne]; omega
   have hr:=(st2.h.mem _).1 (ef h0)
   obtain ⟨r,hre⟩:∃ r,r=hp2[0]! := ⟨_,rfl⟩
   rw [← hre] at hr
   have lr:=st2.g.lv r hr.1
   have dk:=lr.kd
   obtain ⟨kv2,d2,kvc,y2⟩:=lr.ky
   obtain ⟨kvS,kvB⟩:=y2 hr.2
   obtain ⟨X,hX⟩:∃ X,X=cn Ls[r]!.L (pos1 r).toNat:=⟨_,rfl⟩
   rw [← hX] at kvB
   obtain ⟨kva2,kvn2,kvc2,rfl⟩:=cR kvS
   have p0:=st2.h.at_.ptr 0 h0
   rw [← hre] at p0
   obtain ⟨_,_,_,u3⟩:=st2.u.u4
   have fU:=st2.g.fU
   have z0:(0:Int).toNat=0:=rfl
   have z1:(0:Int)≤0:=by decide
   have hz2:(0:Int) < hp2.size:=by omega
   refine Fz @c1 @c2 @er @h0' @p0 @d2 @dk @z0 @z1 @hz2 @u3 @fU @Nat.zero_mul @Nat.add_zero ?_
   obtain ⟨st3,l3⟩:=st2.setU m (x:=o+2) (.inr rfl) (.slice (some kva2) kvn2 kvc2) ⟨_,_,_,rfl⟩
   obtain ⟨w3,hw3⟩:∃ w3,w3=w2.setCell ⟨U,o+2,none⟩ (.slice (some kva2) kvn2 kvc2):=⟨_,rfl⟩
   rw [← hw3] at st3 l3 ⊢
   have w33:w3.cell? ⟨U,o+2,none⟩=some (.slice (some kva2) kvn2 kvc2):=by rw [hw3]; exact bU @u3
   refine pN (fun _:Unit=>[(0,.pointer (some ⟨U,o,none⟩)),(1,.slice kva kn kc)]) (fun _ w'=>∃ S2 vb2 xb2 v,St d w' U o Bf Z Ls S2 pos1 false hp2 vk vb2 vs lk xb2∧Lt w2 w' U o Bf Z Ls S S2∧w'.cell? ⟨U,o+2,none⟩=some v∧(∃ a n c,v = .slice a n c)∧(nz v=true∨X=[])∧SB d vb2 xb2 v X) (by kernel_rfl) (by kernel_rfl) (fun K3 hK3 => ?_) ?_
   ·by_cases hkd:dK Ls[r]!.L (pos1 r)=1
    ·have e5:(dK Ls[r]!.L (pos1 r) == 1)=true:=by rw [hkd]; rfl
     have c1:=st3.g.bufs
     have b5:=st3.r.bh
     have fB:=st3.g.fB
     have fU:=st3.g.fU
     have hUs2:=aE c1
     have hBs2:=aE b5
     obtain ⟨ba,bcap,hbe,hbc,_⟩:=bF st3.r.bo
     subst hbe
     have zb:(0:Int)≤bcap:=by omega
     have kvB2:eO w3 (.slice (some kva2) kvn2 kvc2) X:=kvB.inc st3.g.inc
     refine bP @e5 ?_
     refine ao (sq [0,1,2] (.read 3 (sq [4,5,6] (.read 7 (sq [8,9] (.read 10 (sq [11,12,13,14] (.read 15 (.eff 16 [3] (sq [17,18] (.eff 19 [] .done))))))))))) ?_
     simp (disch:=first | exact dZ | fail) only [go_sem,c1,b5,w33,rE Tryz.es107,z0,zb]
     have hBm:X ∈ B:=(m.bds.mem X).2 ⟨r,hr.1,(pos1 r).toNat,by have:=hr.2; unfold dH at this; show (pos1 r).toNat < 2 * Ls[r]!.L.length; omega,hX.symm⟩
     have hbl:=m.blen _ hBm
     simp only [oQ]
     refine mf (m:=X.length) (news:=gA X) rw107 (dh st3.r.bo).drew (by rw [bG,Nat.mul_one]) (eY (by exact kvB2)) (eZ _) (by omega) fun v5 w5 o5 k5 n5 s5 => ?_
     obtain ⟨a5,cap5,e5',_,_⟩:=bF o5
     subst e5'
     have k5:Keep (fun b _=>(Value.slice ba xb.length bcap).ownBlock=some b) w3 w5:=(Keep.refl _ w3).drew.trans (k5 _ fun b o hb _=>by rw [bY ba xb.length 0]; exact hb)
     have n25:cJ w3 (.slice ba xb.length bcap) (.slice a5 (0+X.length) cap5):=fun g' hg'=>by
      rcases n5 with h | ⟨g2,h,h',_⟩
      ·exact .inl (by rw [← hg',h]; exact bY _ _ _ _)
      ·rw [h] at hg'
       simp only [aJ] at hg'
       subst hg'
       exact .inr h'
     rw [List.nil_append,Nat.zero_add,← bG] at o5
     rw [Nat.zero_add,← bG] at n25 s5
     have hnb:∀ g',(Value.slice ba xb.length bcap).ownBlock=some g'→g'≠U∧g'≠Bf:=fun g' hg'=>⟨(st3.r.sp _ (st3.r.bS _ hg')).1,(st3.r.sp _ (st3.r.bS _ hg')).2.1⟩
     obtain ⟨st6,l6⟩:=st3.buf m o5 k5 n25
     have c1:=k5.some c1 fun h=>(hnb _ h).1 rfl
     have b5:=k5.some b5 fun h=>(hnb _ h).2 rfl
     have w53:=k5.some w33 fun h=>(hnb _ h).1 rfl
     have fB:∀ x,w5.frozen? ⟨Bf,x,none⟩=false:=fun x=>by rw [k5.frozen Bf x hBs2]; exact fB x
     have fU:∀ x,w5.frozen? ⟨U,x,none⟩=false:=fun x=>by rw [k5.frozen U x hUs2]; exact fU x
     rw [Nat.zero_add,← bG]
     refine gW @c1 @b5 @w53 @fB @fU ?_
     obtain ⟨st7,l7⟩:=st6.setU m (x:=o+2) (.inr rfl) (.slice a5 (gA X).length cap5) ⟨_,_,_,rfl⟩
     have hne:nz (.slice a5 (gA X).length cap5)=true∨X=[]:=by
      by_cases h0:X=[]
      ·exact .inr h0
      ·exact .inl (j0 (s5 (by rw [bG]; exact List.length_pos_iff.2 h0)))
     refine hK3 _ _ () ?_ ⟨_,_,gA X,_,st7,(l3.trans l6).trans l7,?_,⟨_,_,_,rfl⟩,hne,.inr ⟨rfl,rfl⟩⟩
     ·exact bA
     ·exact bU @w53
    ·have e5:(dK Ls[r]!.L (pos1 r) == 1)=false:=by rw [beq_eq_false_iff_ne]; exact hkd
     refine bP @e5 ?_
     refine hK3 _ _ () ?_ ⟨S,vb,xb,_,st3,l3,w33,⟨_,_,_,rfl⟩,.inl rfl,.inl kvB⟩
     exact bA
   ·rintro e3 _ w4 ⟨S4,vb4,xb4,v4,st4,l4,q4,⟨v4a,v4n,v4c,rfl⟩,hs4,sb4⟩
    have b4:Bef w w4 U o Bf Z Ls S S4:=(b1.trans b2).trans l4.bef
    refine aY ?_
    refine fc c st4.g st4.sc.hw st4.u.u11 fun w5 hp5 g5 h5 e5 k5 => ?_
    obtain ⟨st5,b5⟩:=st4.sc.turn m g5 h5 e5 k5
    have q5:=k5.some q4 (by
     rintro (h | ⟨_,h⟩)
     ·exact lx c (by omega) h
     ·omega)
    have b05:=b4.trans b5
    have c1:=st5.g.bufs
    have c2:=st5.h.at_.c2
    have er:=st5.g.err
    by_cases h6:0 < hp5.size
    ·have h6':((hp5.size:Int) == 0)=false:=by rw [beq_eq_false_iff_ne]; omega
     have hz6:(0:Int) < hp5.size:=by omega
     obtain ⟨pos2,hpos2⟩:∃ pos2,pos2=oY (fun _=>jo) pos1 Ls.size:=⟨_,rfl⟩
     rw [← hpos2] at st5 hpn hpn'
     have hr5:=(st5.h.mem _).1 (ef h6)
     obtain ⟨r5,hre5⟩:∃ r5,r5=hp5[0]! := ⟨_,rfl⟩
     rw [← hre5] at hr5
     have hmin5:∀ x,x < Ls.size→dH (Lf Ls x) (pos2 x)→¬ cn (Lf Ls r5) (pos2 r5).toNat < cn (Lf Ls x) (pos2 x).toNat:=fun x hx hv=>by rw [hre5]; exact st5.h.root_max hx hv
     have lr5:=st5.g.lv r5 hr5.1
     have dk5:=lr5.kd
     obtain ⟨kv5,d5,_,y5⟩:=lr5.ky
     obtain ⟨kvS5,kvB5⟩:=y5 hr5.2
     obtain ⟨kva5,kvn5,kvc5,rfl⟩:=cR kvS5
     have p5:=st5.h.at_.ptr 0 h6
     rw [← hre5] at p5
     obtain ⟨_,_,_,u4⟩:=st5.u.u3
     have fU:=st5.g.fU
     have hkey5:=nG hkey hkv b05
     have tail:cn (Lf Ls r5) (pos2 r5).toNat≠key →
         ui Ls.size (Lf Ls) B (uL B key) pos2∧uL B key < B.length∧0 < uL B key∧cn Ls[r5]!.L (pos2 r5).toNat=B[uL B key - 1]! ∧ X=B[uL B key]! := by
      intro hne
      have hall:=wh m.bds hpn' hr5.1 hr5.2 hmin5 hne
      have af:=A5 m.bds hpn' hall
      obtain ⟨q1,q2⟩:=(af.near m.bds (om _ _)).root m.bds hr5.1 hr5.2 hmin5
      have ab:xw Ls.size (Lf Ls) B (uL B key) pos1:=fun i hi hl=>by rw [hpk i hi hl,← af i hi hl,hpn i hi]
      obtain ⟨q3,q4⟩:=(ab.near m.bds (om _ _)).root m.bds hr.1 hr.2 fun x hx hv=>by rw [hre]; exact st2.h.root_min hx hv
      exact ⟨af,q3,q1,q2,by rw [hX]; exact q4⟩
     by_cases hkd5:dK Ls[r5]!.L (pos2 r5)=2
     ·have e7:(dK Ls[r5]!.L (pos2 r5) == 2)=true:=by rw [hkd5]; rfl
      refine yl @c1 @c2 @er @h6' @p5 @d5 @dk5 @e7 @z0 @z1 @hz6 @Nat.zero_mul @Nat.add_zero ?_
      refine lV (f:=0) (x:=cn Ls[r5]!.L (pos2 r5).toNat) (y:=key) c1 st5.h.at_.c0 (kvB5.inc st5.g.inc) hkey5 ?_
      by_cases heq:cn Ls[r5]!.L (pos2 r5).toNat=key
      ·have e8:(cz (cn Ls[r5]!.L (pos2 r5).toNat) key == 0)=true:=by rw [beq_iff_eq]; exact dx.2 heq
       refine bP @e8 ?_
       obtain ⟨t,ht,htm,hut,nf⟩:=A0 m.bds hpn' hr5.1 hr5.2 heq
       refine eC m st5 nf (y8 (q:=(dQ (GL Z.F Ls.size (Lf Ls) B) key)) m b05 e5 (fun u hu htu hno => ?_) (fun hno => ?_) (fun w6 S6 r1 r2 r3 => ?_))
       ·have h:=gn (F:=Z.F) m.bds (key:=key) hu (by omega) fun v hv hle=>hno v hv (by omega)
        exact ⟨h.1,by omega,by omega⟩
       ·rw [jj (F:=Z.F) m.bds (key:=key) fun v hv hle=>hno v hv (by omega)]
       ·refine aY ?_
        exact hk w6 S6 r1 r2 r3
      ·have e8:(cz (cn Ls[r5]!.L (pos2 r5).toNat) key == 0)=false:=by rw [beq_eq_false_iff_ne]; exact fun h=>heq (dx.1 h)
       refine Fy @e8 @c1 @c2 @p5 @d5 @u4 @fU @z0 @z1 @hz6 @Nat.zero_mul @Nat.add_zero ?_
       obtain ⟨af,hum,hu0,hE,hXE⟩:=tail heq
       obtain ⟨st6,l6⟩:=st5.setU m (x:=o+1) (.inl rfl) (.slice (some kva5) kvn5 kvc5) ⟨_,_,_,rfl⟩
       obtain ⟨w6,hw6⟩:∃ w6,w6=w5.setCell ⟨U,o+1,none⟩ (.slice (some kva5) kvn5 kvc5):=⟨_,rfl⟩
       rw [← hw6] at st6 l6 ⊢
       have q63:w6.cell? ⟨U,o+2,none⟩=some (.slice v4a v4n v4c):=by rw [hw6]; exact bU @q5
       have q64:w6.cell? ⟨U,o+1,none⟩=some (.slice (some kva5) kvn5 kvc5):=by rw [hw6]; exact bU @u4
       have q6d:w6.cell? ⟨U,o+9,none⟩=some (.int .i8 (-1)):=by rw [hw6]; exact bU @e5
       refine mK (u:=uL B key) m st6.g st6.u st6.h.at_.c0 af st6.r.k st6.r.x (fun g hg=>by obtain ⟨a1,a2,a3,a4,_⟩:=st6.r.sp _ (st6.r.kS g hg); exact ⟨a1,a2,a3,a4⟩) (fun g hg=>by obtain ⟨a1,a2,a3,a4,_⟩:=st6.r.sp _ (st6.r.sS g hg); exact ⟨a1,a2,a3,a4,st6.r.ks g hg⟩) q64 q63 fun w7 vk7 vs7 lk7 kv7 p6 p7 p8 p9 ok oT ox xl nk ns dj k7 => ?_
       obtain ⟨st7,l7⟩:=st6.syn m ok ox xl nk ns dj k7 ⟨_,p6⟩ ⟨_,p7⟩ ⟨_,p8⟩ ⟨_,p9⟩
       have n7:∀ x,o≤x→x≤o+3∨x=o+9→¬ xz U o Bf Z vk vs U x:=by
        rintro x h0 hx (⟨_,h1,h2⟩ | ⟨h,_⟩ | h | h | h)
        ·omega
        ·exact m.mc.ne h.symm
        ·have:=m.tU h; omega
        ·exact (st6.r.sp _ (st6.r.kS _ h)).1 rfl
        ·exact (st6.r.sp _ (st6.r.sS _ h)).1 rfl
       have q73:=k7.some q63 (n7 _ (by omega) (by omega))
       have q74:=k7.some q64 (n7 _ (by omega) (by omega))
       have q7d:=k7.some q6d (n7 _ (by omega) (by omega))
       have b07:=(b05.trans l6.bef).trans l7.bef
       by_cases hcov:lC Ls.size (Lf Ls) B (uL B key)=true
       ·rw [hcov]
        refine aY ?_
        have hin:uL B key ∈ bn Ls.size (Lf Ls) B:=cX.2 ⟨by omega,hcov⟩
        have h:=gn (F:=Z.F) m.bds (key:=key) hin (aD _) fun v hv hle=>by omega
        have hs4':nz (.slice v4a v4n v4c)=true:=by
         rcases hs4 with h | h
         ·exact h
         ·exfalso
          have:=(m.bds.lt (i:=0) (j:=uL B key) (by omega) hum).2 hu0
          rw [← hXE,h] at this
          simp at this
        have:=b07.ret (B:=B) (d:=d) (q:=(dQ (GL Z.F Ls.size (Lf Ls) B) key)) hk ⟨uL B key,_,_,_,_,_,_,st7.sc,by omega,h.1,fun _ _=>⟨⟨_,p6,by rw [hE] at kvB5; exact .inl kvB5⟩,⟨_,p7,by rw [hXE] at sb4; exact st7.r.lb sb4⟩,⟨_,p8,oT.mono fun b hb => .inr hb⟩,p9⟩,.inr (.inl ⟨q7d,⟨_,st7.h⟩,af,.inr ⟨⟨_,q74,rfl⟩,⟨_,q73,hs4'⟩⟩⟩)⟩
        rwa [dm (by omega) (by rw [bp]; omega)] at this
       ·have hcov:lC Ls.size (Lf Ls) B (uL B key)=false:=by simpa using hcov
        rw [hcov]
        refine aY ?_
        have hnot:∀ v ∈ bn Ls.size (Lf Ls) B,v≤uL B key→v < uL B key:=fun v hv hle=>by
         rcases bO hle with h | h
         ·exact h
         ·subst h
          have:=(cX.1 hv).2
          rw [hcov] at this
          simp at this
        refine eC m st7 (af.near m.bds (om _ _)) (y8 (q:=(dQ (GL Z.F Ls.size (Lf Ls) B) key)) m b07 q7d (fun u hu htu hno => ?_) (fun hno => ?_) (fun w8 S8 r1 r2 r3 => ?_))
        ·have h:=gn (F:=Z.F) m.bds (key:=key) hu (by omega) fun v hv hle=>hno v hv (hnot v hv hle)
         exact ⟨h.1,by omega,by omega⟩
        ·rw [jj (F:=Z.F) m.bds (key:=key) fun v hv hle=>hno v hv (hnot v hv hle)]
        ·refine aY ?_
         exact hk w8 S8 r1 r2 r3
     ·have e7:(dK Ls[r5]!.L (pos2 r5) == 2)=false:=by rw [beq_eq_false_iff_ne]; exact hkd5
      have hne5:cn (Lf Ls r5) (pos2 r5).toNat≠key:=wk m.bds hpn' hr5.1 hr5.2 (Classical.byContradiction fun he=>hkd5 (jZ hr5.2 (by omega)))
      refine F0 @c1 @c2 @er @h6' @p5 @d5 @dk5 @e7 @z0 @z1 @hz6 @u4 @fU @Nat.zero_mul @Nat.add_zero ?_
      obtain ⟨af,hum,hu0,hE,hXE⟩:=tail hne5
      obtain ⟨st6,l6⟩:=st5.setU m (x:=o+1) (.inl rfl) (.slice (some kva5) kvn5 kvc5) ⟨_,_,_,rfl⟩
      obtain ⟨w6,hw6⟩:∃ w6,w6=w5.setCell ⟨U,o+1,none⟩ (.slice (some kva5) kvn5 kvc5):=⟨_,rfl⟩
      rw [← hw6] at st6 l6 ⊢
      have q63:w6.cell? ⟨U,o+2,none⟩=some (.slice v4a v4n v4c):=by rw [hw6]; exact bU @q5
      have q64:w6.cell? ⟨U,o+1,none⟩=some (.slice (some kva5) kvn5 kvc5):=by rw [hw6]; exact bU @u4
      have q6d:w6.cell? ⟨U,o+9,none⟩=some (.int .i8 (-1)):=by rw [hw6]; exact bU @e5
      refine mK (u:=uL B key) m st6.g st6.u st6.h.at_.c0 af st6.r.k st6.r.x (fun g hg=>by obtain ⟨a1,a2,a3,a4,_⟩:=st6.r.sp _ (st6.r.kS g hg); exact ⟨a1,a2,a3,a4⟩) (fun g hg=>by obtain ⟨a1,a2,a3,a4,_⟩:=st6.r.sp _ (st6.r.sS g hg); exact ⟨a1,a2,a3,a4,st6.r.ks g hg⟩) q64 q63 fun w7 vk7 vs7 lk7 kv7 p6 p7 p8 p9 ok oT ox xl nk ns dj k7 => ?_
      obtain ⟨st7,l7⟩:=st6.syn m ok ox xl nk ns dj k7 ⟨_,p6⟩ ⟨_,p7⟩ ⟨_,p8⟩ ⟨_,p9⟩
      have n7:∀ x,o≤x→x≤o+3∨x=o+9→¬ xz U o Bf Z vk vs U x:=by
       rintro x h0 hx (⟨_,h1,h2⟩ | ⟨h,_⟩ | h | h | h)
       ·omega
       ·exact m.mc.ne h.symm
       ·have:=m.tU h; omega
       ·exact (st6.r.sp _ (st6.r.kS _ h)).1 rfl
       ·exact (st6.r.sp _ (st6.r.sS _ h)).1 rfl
      have q73:=k7.some q63 (n7 _ (by omega) (by omega))
      have q74:=k7.some q64 (n7 _ (by omega) (by omega))
      have q7d:=k7.some q6d (n7 _ (by omega) (by omega))
      have b07:=(b05.trans l6.bef).trans l7.bef
      by_cases hcov:lC Ls.size (Lf Ls) B (uL B key)=true
      ·rw [hcov]
       refine aY ?_
       have hin:uL B key ∈ bn Ls.size (Lf Ls) B:=cX.2 ⟨by omega,hcov⟩
       have h:=gn (F:=Z.F) m.bds (key:=key) hin (aD _) fun v hv hle=>by omega
       have hs4':nz (.slice v4a v4n v4c)=true:=by
        rcases hs4 with h | h
        ·exact h
        ·exfalso
         have:=(m.bds.lt (i:=0) (j:=uL B key) (by omega) hum).2 hu0
         rw [← hXE,h] at this
         simp at this
       have:=b07.ret (B:=B) (d:=d) (q:=(dQ (GL Z.F Ls.size (Lf Ls) B) key)) hk ⟨uL B key,_,_,_,_,_,_,st7.sc,by omega,h.1,fun _ _=>⟨⟨_,p6,by rw [hE] at kvB5; exact .inl kvB5⟩,⟨_,p7,by rw [hXE] at sb4; exact st7.r.lb sb4⟩,⟨_,p8,oT.mono fun b hb => .inr hb⟩,p9⟩,.inr (.inl ⟨q7d,⟨_,st7.h⟩,af,.inr ⟨⟨_,q74,rfl⟩,⟨_,q73,hs4'⟩⟩⟩)⟩
       rwa [dm (by omega) (by rw [bp]; omega)] at this
      ·have hcov:lC Ls.size (Lf Ls) B (uL B key)=false:=by simpa using hcov
       rw [hcov]
       refine aY ?_
       have hnot:∀ v ∈ bn Ls.size (Lf Ls) B,v≤uL B key→v < uL B key:=fun v hv hle=>by
        rcases bO hle with h | h
        ·exact h
        ·subst h
         have:=(cX.1 hv).2
         rw [hcov] at this
         simp at this
       refine eC m st7 (af.near m.bds (om _ _)) (y8 (q:=(dQ (GL Z.F Ls.size (Lf Ls) B) key)) m b07 q7d (fun u hu htu hno => ?_) (fun hno => ?_) (fun w8 S8 r1 r2 r3 => ?_))
       ·have h:=gn (F:=Z.F) m.bds (key:=key) hu (by omega) fun v hv hle=>hno v hv (hnot v hv hle)
        exact ⟨h.1,by omega,by omega⟩
       ·rw [jj (F:=Z.F) m.bds (key:=key) fun v hv hle=>hno v hv (hnot v hv hle)]
       ·refine aY ?_
        exact hk w8 S8 r1 r2 r3
    ·have h6':((hp5.size:Int) == 0)=true:=by rw [beq_iff_eq]; omega
     refine eI @c1 @c2 @er @h6' ?_
     have hz:∀ i,i < Ls.size→cK (Lf Ls i) key=0:=fun i hi=>by
      have a1:=st5.h.empty h6 hi
      have a2:=hpn i hi
      have a3:=hcle i
      unfold dH at a1
      omega
     obtain ⟨_,hu1⟩:=sB m.bds hz
     have hq:dQ (GL Z.F Ls.size (Lf Ls) B) key = -1:=jj (F:=Z.F) m.bds (key:=key) fun v hv h=>by have:=(hcv v hv).1; omega
     have:=b05.ret (B:=B) (d:=d) (q:=dQ (GL Z.F Ls.size (Lf Ls) B) key) hk ⟨0,_,_,_,_,_,_,st5.sc,aM _,.inr (.inr ⟨hq,rfl⟩),fun h _=>by omega,.inr (.inl ⟨e5,⟨_,st5.h⟩,fun i hi hl=>by rw [hpn i hi,hz i hi]; rfl,.inl rfl⟩)⟩
     rwa [dp (by omega)] at this
  ·have h0':((hp2.size:Int) == 0)=true:=by rw [beq_iff_eq]; omega
   refine eI @c1 @c2 @er @h0' ?_
   have hz:∀ i,i < Ls.size→cK (Lf Ls i) key=2 * (Lf Ls i).length:=fun i hi=>by
    have a1:=st2.h.empty h0 hi
    have a2:=hpk' i hi
    have a3:=hcle i
    have a4:(Lf Ls i).length=Ls[i]!.L.length:=rfl
    unfold dH at a1
    omega
   obtain ⟨_,hu1⟩:=sC m.bds hz
   refine fc c st2.g st2.sc.hw st2.u.u11 fun w3 hp3 g3 h3 e3 k3 => ?_
   obtain ⟨st3,b3⟩:=st2.sc.turn m g3 h3 e3 k3
   refine aY ?_
   refine eC m st3 (ui.near m.bds (t:=B.length) (fun i hi hl=>by rw [hpn i hi,hz i hi,qJ m.bds hi]) (aD _)) (y8 (q:=dQ (GL Z.F Ls.size (Lf Ls) B) key) m ((b1.trans b2).trans b3) e3 (fun u hu htu hno => ?_) (fun hno => ?_) (fun w4 S4 r1 r2 r3 => ?_))
   ·have h:=gn (F:=Z.F) m.bds (key:=key) hu (by omega) fun v hv _=>hno v hv (hcv v hv).2
    have:=h.1.rg
    exact ⟨h.1,h.2,by
     rcases h.1 with ⟨j,e,hj⟩ | ⟨_,e⟩ | ⟨_,e⟩
     ·have:=(aN.1 hj).1; omega
     ·omega
     ·have:=(hcv u hu).1; omega⟩
   ·exact jj (F:=Z.F) m.bds (key:=key) fun v hv _=>hno v hv (hcv v hv).2
   ·refine aY ?_
    exact hk w4 S4 r1 r2 r3
end
end Go.Proofs
end
section
namespace Go.E
open Go Go.Sort Go.Proofs
structure FJ (P:Program) (recv:Value) (d:World) (pb po:Nat) (ord:Int) (G:List Sp) (pF pL:Prop) (pK:Bytes→Prop) (T:Nat→Nat→Prop) (R:World→(Nat→Prop)→Int→Prop):Prop where
 wf:Wf G
 small:G.length < 1000000
 inc:∀ {w S p},R w S p→cH d w
 rg:∀ {w S p},R w S p → -2≤p∧p≤G.length
 cur:∀ {w S} {p:Int} {j:Nat},R w S p→p=j→j < G.length→nE ord d S w pb po G[j]!
 keep:∀ {w w2 S p M},R w S p→Keep M w w2→(∀ b x,b < w.heap.size→M b x→¬ T b x∧¬ S b∧d.cell? ⟨b,x,none⟩=none)→R w2 S p
 outS:∀ {w S p},R w S p→∀ b,S b→dA d b∧b < w.heap.size
 outT:∀ {b x},T b x→d.cell? ⟨b,x,none⟩=none
 next : ∀ {w S p k}, R w S p → -1 ≤ p → p < G.length → FK recv pb po G T R w S (p + 1) k → bm P recv "Next" #[] k w
 prev : ∀ {w S p k}, R w S p → -1 < p → FK recv pb po G T R w S (p - 1) k → bm P recv "Prev" #[] k w
 first : ∀ {w S p k}, R w S p → pF → FK recv pb po G T R w S 0 k → bm P recv "First" #[] k w
 last : ∀ {w S p k}, R w S p → pL → FK recv pb po G T R w S (G.length - 1) k → bm P recv "Last" #[] k w
 seekGE : ∀ {w S p k kv key}, R w S p → pK key → eO w kv key → zx kv (fun b => ∀ x, ¬ T b x ∧ ¬ S b) → FK recv pb po G T R w S (cV G key) k → bm P recv "SeekGE" #[kv] k w
 seekLT : ∀ {w S p k kv key}, R w S p → pK key → eO w kv key → zx kv (fun b => ∀ x, ¬ T b x ∧ ¬ S b) → FK recv pb po G T R w S (dQ G key) k → bm P recv "SeekLT" #[kv] k w
 error : ∀ {w S p k}, R w S p → (∀ w', R w' S p → bV w w' → k .nilIface w') → bm P recv "Error" #[] k w
end Go.E
end
section
namespace Go.Proofs
open Go Go.E Go.Sort Go.Proofs.Tryz
section
variable {k:ae} {d w w2:World} {U o Bf:Nat} {Z:TX} {Ls:Array Lvl} {B:List Bytes} {S:Nat→Prop} {pos:Nat→Int} {vk vb:Value} {vs:Nat→Prop} {lk:List KR} {xb:List Value} {p:Int}
theorem Mi.keep {M:Nat→Nat→Prop} (m:MS d U o Bf Z Ls B) (h:Mi d U o Bf Z Ls B w S p) (hk:Keep M w w2) (hM:∀ b x,b < w.heap.size→M b x→¬ mT U o Bf Z Ls b x∧¬ S b∧d.cell? ⟨b,x,none⟩=none):Mi d U o Bf Z Ls B w2 S p:=by
 obtain ⟨u,pos,vk,vb,vs,lk,xb,sc,hu,hc,hsp,hd⟩:=h
 have hU:=aE sc.g.bufs
 have hB:=aE sc.g.lvls
 have hk:Keep (fun b x=>M b x∧b < w.heap.size) w w2:=⟨hk.size,fun b o hb hn=>hk.cell b o hb fun h=>hn ⟨h,hb⟩,hk.frozen,fun b hb hn=>hk.block b hb fun o h=>hn o ⟨h,hb⟩,hk.st⟩
 have hM:∀ b x,(M b x∧b < w.heap.size)→¬ mT U o Bf Z Ls b x∧¬ S b∧d.cell? ⟨b,x,none⟩=none:=fun b x h=>hM b x h.2 h.1
 have nU:∀ x,o≤x→x < o+70→¬ (M U x∧U < w.heap.size):=fun x h1 h2 h=>(hM _ _ h).1 (.inl ⟨rfl,h1,h2⟩)
 have nB:∀ x,x≤5→¬ (M Bf x∧Bf < w.heap.size):=fun x hx h=>(hM _ _ h).1 (.inr (.inl ⟨rfl,hx⟩))
 have nI:∀ i,i < Ls.size→∀ x,¬ (M Ls[i]!.I x∧Ls[i]!.I < w.heap.size):=fun i hi x h=>(hM _ _ h).1 (.inr (.inr (.inl ⟨i,hi,rfl⟩)))
 have nS:∀ g,S g→∀ x,¬ (M g x∧g < w.heap.size):=fun g hg x h=>(hM _ _ h).2.1 hg
 have g':=sc.g.keep m.mc hk (nU _ (by omega) (by omega)) (nB _ (by omega)) (nU _ (by omega) (by omega)) (fun x _ _=>nU x (by omega) (by omega)) nI (fun b x h=>(hM b x h).2.2)
 have hh:∀ {rev hp},MH w U o Bf 0 Ls pos rev hp→MH w2 U o Bf 0 Ls pos rev hp:=fun h=>h.keep hk (fun x _ _=>nB x (by omega)) (fun x _ _=>nU x (by omega) (by omega)) hU
 have hse:yB w U o→yB w2 U o:=fun ⟨⟨v3,a3,b3⟩,⟨v4,a4,b4⟩⟩=>⟨⟨v3,hk.some a3 (nU _ (by omega) (by omega)),b3⟩,⟨v4,hk.some a4 (nU _ (by omega) (by omega)),b4⟩⟩
 have hd11:∀ {v},w.cell? ⟨U,o+9,none⟩=some v→w2.cell? ⟨U,o+9,none⟩=some v:=fun h=>hk.some h (nU _ (by omega) (by omega))
 obtain ⟨v11,e11⟩:=sc.u.u11
 refine ⟨u,pos,vk,vb,vs,lk,xb,⟨g',sc.hw.keep hk (fun x _ _=>nB x (by omega)) (fun x _ _=>nU x (by omega) (by omega)),sc.u.keep hk (fun x _ _=>nU x (by omega) (by omega)) ⟨_,hd11 e11⟩,sc.r.keep m hk (nB _ (by omega)) (nB _ (by omega)) nS fun b x _ h=>⟨fun ht=>(hM b x h).1 (.inr (.inr (.inr ht))),(hM b x h).2.2⟩⟩,hu,hc,fun h1 h2=>(hsp h1 h2).keep hk nS (fun y _ _=>nU y (by omega) (by omega)),?_⟩
 ·rcases hd with ⟨a,⟨hp,b⟩,c,e⟩ | ⟨a,⟨hp,b⟩,c,e⟩ | ⟨a,c,e,f⟩
  ·exact .inl ⟨hd11 a,⟨hp,hh b⟩,c,e.imp id hse⟩
  ·exact .inr (.inl ⟨hd11 a,⟨hp,hh b⟩,c,e.imp id hse⟩)
  ·exact .inr (.inr ⟨hd11 a,c,e,hk.some f (nB _ (by omega))⟩)
theorem uu (m:MS d U o Bf Z Ls B) (h:Mi d U o Bf Z Ls B w S p) (hk:∀ w',Mi d U o Bf Z Ls B w' S p→bV w w'→k .nilIface w'):aU prog 192 #[.pointer (some ⟨U,o,none⟩)] k w:=by
 have hc:=h
 obtain ⟨u,pos,vk,vb,vs,lk,xb,sc,hu,hcu,hsp,hd⟩:=h
 have c1:=sc.g.bufs
 have er:=sc.g.err
 obtain ⟨n,hn,c2⟩:=sc.hw.c2
 refine aW [.tmp 2] func192 ?_
 refine bP @c1 ?_
 have c2':w.cell? ⟨Bf,2+2,none⟩=some (.slice (some ⟨U,o+50,none⟩) n 10):=c2
 have len:∀ {K:ae},K (.int .i64 n) w→aU prog 211 #[.pointer (some ⟨Bf,2,none⟩)] K w:=by
  intro K hK
  refine aW [.tmp 2] func211 ?_
  refine bP @c2' ?_
  exact hK
 refine len ?_
 by_cases h0:n=0
 ·have h0':((n:Int) == 0)=true:=by rw [beq_iff_eq]; omega
  refine dU @h0' @er ?_
  exact hk w hc (bV.refl w)
 ·have h0':((n:Int) == 0)=false:=by rw [beq_eq_false_iff_ne]; omega
  have hheap:∃ rev hp,MH w U o Bf 0 Ls pos rev hp∧0 < hp.size:=by
   rcases hd with ⟨_,⟨hp,b⟩,_⟩ | ⟨_,⟨hp,b⟩,_⟩ | ⟨_,_,_,f⟩
   ·refine ⟨_,hp,b,?_⟩
    have:=b.at_.c2
    rw [c2'] at this
    simp only [aJ,aV,true_and,and_true] at this
    omega
   ·refine ⟨_,hp,b,?_⟩
    have:=b.at_.c2
    rw [c2'] at this
    simp only [aJ,aV,true_and,and_true] at this
    omega
   ·rw [c2'] at f
    simp only [aJ,aV,true_and,and_true] at f
    omega
  obtain ⟨rev,hp,hh,hz⟩:=hheap
  obtain ⟨r,hre⟩:∃ r,r=hp[0]! := ⟨_,rfl⟩
  have hr:=(hh.mem _).1 (ef hz)
  rw [← hre] at hr
  have ix:=hh.at_.ix 0 hz
  rw [← hre] at ix
  have lvs:=sc.g.lvls
  have d0:=(sc.g.lv r hr.1).it
  have z0:(0:Int).toNat=0:=rfl
  have z1:(0:Int)≤0:=by decide
  have hz2:(0:Int) < n:=by omega
  have hr':(r:Int) < Ls.size:=by have:=hr.1; omega
  refine dU @h0' @er ?_
  refine ao (sq [0,1,2] (.read 3 (sq [4,5] (.read 6 (sq [7,8,9] (.read 10 (sq [11,12,13] (.read 14 (sq [15,16] (.read 17 (sq [18,19] (.read 20 (.eff 21 [] (sq [22] .done)))))))))))))) ?_
  refine CM @c1 @lvs @c2' @ix @d0 @z0 @z1 @hz2 @hr' @Nat.zero_mul @Nat.add_zero ?_
  refine iA ?_
  refine gW @c1 @lvs @c2' @ix @d0 ?_
  first | exact hk w hc (bV.refl w) | exact hk w.drew (Mi.keep (M:=fun _ _=>False) m hc (Keep.refl _ w).drew fun _ _ _ h=>h.elim) (Keep.refl _ w).drew
theorem H4 (m:MS d U o Bf Z Ls B) (hsm:B.length < 999999):FJ prog (.iface 224 (.pointer (some ⟨U,o,none⟩))) d U (o+4) Z.ord (GL Z.F Ls.size (Lf Ls) B) True True (fun _=>True) (mT U o Bf Z Ls) (Mi d U o Bf Z Ls B) where
 wf:=uj m.bds
 small:=by
  rw [bp]
  have:(bn Ls.size (Lf Ls) B).length≤B.length+1:=by
   unfold bn
   exact aP (bz _ _) (by simp)
  omega
 inc h:=by obtain ⟨u,pos,vk,vb,vs,lk,xb,sc,_⟩:=h; exact sc.g.inc
 rg h:=by obtain ⟨u,pos,vk,vb,vs,lk,xb,sc,hu,hc,_⟩:=h; rw [bp]; have:=hc.rg; omega
 cur {w S p j} h hp hj:=by
  obtain ⟨u,pos,vk,vb,vs,lk,xb,sc,hu,hc,hsp,_⟩:=h
  rw [bp] at hj
  have:=hsp (by omega) (by omega)
  have e:(bn Ls.size (Lf Ls) B)[j]? = some u:=by
   rcases hc with ⟨i,e1,e2⟩ | ⟨e1,_⟩ | ⟨e1,_⟩
   ·obtain rfl:i=j:=by omega
    exact e2
   ·omega
   ·omega
  rw [jh e]
  exact this
 keep h hk hM:=Mi.keep m h hk hM
 outS h b hb:=by
  obtain ⟨u,pos,vk,vb,vs,lk,xb,sc,_⟩:=h
  obtain ⟨_,_,a,_,e⟩:=sc.r.sp b hb
  exact ⟨a,e⟩
 outT h:=by
  rcases h with ⟨rfl,_⟩ | ⟨rfl,_⟩ | ⟨i,hi,rfl⟩ | h
  ·exact m.mc.oU _
  ·exact m.mc.oB _
  ·exact m.mc.oI i hi _
  ·exact m.tO h
 next h _ hp hk:=by
  rw [Tryz.iv224_Next]
  exact Aw m h (by rw [bp] at hp; exact hp) hk
 prev h hp hk:=by
  rw [Tryz.iv224_Prev]
  exact Ax m h hp hk
 first h _ hk:=by
  obtain ⟨u,pos,vk,vb,vs,lk,xb,sc,_⟩:=h
  rw [Tryz.iv224_First]
  exact y9 m sc hk
 last h _ hk:=by
  obtain ⟨u,pos,vk,vb,vs,lk,xb,sc,_⟩:=h
  rw [Tryz.iv224_Last]
  exact Av m sc (by rw [bp] at hk; exact hk)
 seekGE {w S p k kv key} h _ hkv hin hk:=by
  obtain ⟨u,pos,vk,vb,vs,lk,xb,sc,_⟩:=h
  obtain ⟨a,c,rfl⟩:=av hkv
  rw [Tryz.iv224_SeekGE]
  exact wm m sc hkv hin hk
 seekLT {w S p k kv key} h _ hkv hin hk:=by
  obtain ⟨u,pos,vk,vb,vs,lk,xb,sc,_⟩:=h
  obtain ⟨a,c,rfl⟩:=av hkv
  rw [Tryz.iv224_SeekLT]
  exact wo m sc hkv hin hk
 error h hk:=by
  rw [Tryz.iv224_Error]
  exact uu m h hk
end
end Go.Proofs
end
section
namespace Go.E
open Go Go.Sort Go.Proofs
def aB (G:List Sp):Option Bytes→Nat
 | none=>0
 | some l=>cV G l
def eB (G:List Sp):Option Bytes→Nat
 | none=>G.length
 | some h=>oZ (fun j=>decide (G[j]!.s < h)) G.length
def GB (G:List Sp) (lo hi:Option Bytes):List Sp:=(G.take (eB G hi)).drop (aB G lo)
def uv (lo hi:Option Bytes):Prop:=∀ l h,lo=some l→hi=some h→¬ h < l
def uw (lo hi:Option Bytes) (key:Bytes):Prop:=(∀ l,lo=some l→¬ key < l)∧∀ h,hi=some h→¬ h < key
section
variable {G:List Sp} {lo hi:Option Bytes} {key:Bytes}
theorem nH (hw:Wf G) {l:Bytes} {j:Nat} (hj:j < G.length):j < cV G l↔¬ l < G[j]!.e:=by
 unfold cV
 rw [mG (fun a b h1 h2 h3 => ?_) hj,decide_eq_true_eq]
 rw [decide_eq_true_eq] at h3 ⊢
 intro h4
 exact h3 (bw h4 (List.not_lt.2 (hw.ends h1 h2)))
theorem yC (hw:Wf G) {h:Bytes} {j:Nat} (hj:j < G.length):j < oZ (fun j=>decide (G[j]!.s < h)) G.length↔G[j]!.s < h:=by
 rw [mG (fun a b h1 h2 h3 => ?_) hj,decide_eq_true_eq]
 rw [decide_eq_true_eq] at h3 ⊢
 exact cT (List.not_lt.2 (hw.starts h1 h2)) h3
theorem A6:aB G lo≤G.length:=by
 cases lo with
 | none=>exact aM _
 | some l=>exact jS _ _
theorem iS:eB G hi≤G.length:=by
 cases hi with
 | none=>exact aD _
 | some l=>exact jS _ _
theorem oq (hw:Wf G) {j:Nat} (hj:j < G.length):aB G lo≤j↔∀ l,lo=some l→l < G[j]!.e:=by
 cases lo with
 | none=>simp [aB]
 | some l =>
  have:=nH hw (l:=l) hj
  simp only [aB,aJ,forall_eq']
  rw [← Nat.not_lt,this,Classical.not_not]
theorem ou (hw:Wf G) {j:Nat} (hj:j < G.length):j < eB G hi↔∀ h,hi=some h→G[j]!.s < h:=by
 cases hi with
 | none=>simp [eB,hj]
 | some h =>
  have:=yC hw (h:=h) hj
  simp only [eB,aJ,forall_eq']
  exact this
theorem fZ (hw:Wf G) (hb:uv lo hi):aB G lo≤eB G hi:=by
 rcases aH (eB G hi) (aB G lo) with h1 | h1
 ·exfalso
  have hj:eB G hi < G.length:=aG h1 A6
  have a:=(not_congr (oq hw (lo:=lo) hj)).1 (by omega)
  have b:=(not_congr (ou hw (hi:=hi) hj)).1 (by omega)
  cases lo with
  | none=>exact a (fun l h=>by cases h)
  | some l =>
   cases hi with
   | none=>exact b (fun l h=>by cases h)
   | some h =>
    have a':¬ l < G[eB G (some h)]!.e:=fun hh=>a (fun _ e=>by cases e; exact hh)
    have b':¬ G[eB G (some h)]!.s < h:=fun hh=>b (fun _ e=>by cases e; exact hh)
    have c:=hw.1 _ hj
    have d:=hb l h rfl rfl
    have e:h < G[eB G (some h)]!.e:=cT b' c
    exact a' (cT d e)
 ·exact h1
theorem cS:(GB G lo hi).length=eB G hi - aB G lo:=by
 unfold GB
 rw [List.length_drop,bH,Nat.min_eq_left iS]
theorem nJ {j:Nat} (hj:j < (GB G lo hi).length):(GB G lo hi)[j]! = G[aB G lo+j]! := by
 have hl:=hj
 rw [cS] at hl
 have:=iS (G:=G) (hi:=hi)
 have e:(GB G lo hi)[j]? = G[aB G lo+j]? := by
  unfold GB
  rw [List.getElem?_drop,List.getElem?_take_of_lt (by omega)]
 rw [getElem!_def,getElem!_def,e]
theorem DO (hw:Wf G):Wf (GB G lo hi):=by
 have e:=iS (G:=G) (hi:=hi)
 refine ⟨fun i hi' => ?_,fun i j hij hj => ?_⟩
 ·rw [nJ hi']
  rw [cS] at hi'
  exact hw.1 _ (by omega)
 ·rw [nJ (by omega),nJ hj]
  rw [cS] at hj
  exact hw.2 _ _ (by omega) (by omega)
theorem Cb (hw:Wf G) (hb:uv lo hi) (hk:uw lo hi key):aB G lo≤cV G key∧cV G key≤eB G hi∧cV (GB G lo hi) key=cV G key - aB G lo:=by
 have hab:=fZ hw hb
 have hel:=iS (G:=G) (hi:=hi)
 have hs:cV G key≤G.length:=jS _ _
 have h1:aB G lo≤cV G key:=by
  rcases aH (cV G key) (aB G lo) with h | h
  ·exfalso
   have hj:cV G key < G.length:=by have:=A6 (G:=G) (lo:=lo); omega
   have a:=(not_congr (oq hw (lo:=lo) hj)).1 (by omega)
   have b:=Classical.not_not.1 ((not_congr (nH hw (l:=key) hj)).1 (cx _))
   refine a fun l e => ?_
   exact cT (hk.1 l e) b
  ·exact h
 have h2:cV G key≤eB G hi:=by
  rcases aH (eB G hi) (cV G key) with h | h
  ·exfalso
   have hj:eB G hi < G.length:=by omega
   have a:=(not_congr (ou hw (hi:=hi) hj)).1 (cx _)
   have b:=(nH hw (l:=key) hj).1 h
   refine a fun h' e => ?_
   have c:=hw.1 _ hj
   have d:=hk.2 h' e
   exact bw (bw c b) d
  ·exact h
 refine ⟨h1,h2,my (by rw [cS]; omega) (fun i hi' => ?_) (fun h => ?_)⟩
 ·rw [nJ (by rw [cS]; omega)]
  exact (nH hw (by omega)).1 (by omega)
 ·rw [nJ h,show aB G lo+(cV G key - aB G lo)=cV G key by omega]
  rw [cS] at h
  exact Classical.not_not.1 ((not_congr (nH hw (l:=key) (by omega))).1 (cx _))
theorem Cc (hw:Wf G) (hb:uv lo hi) (hk:uw lo hi key):(aB G lo:Int)≤dQ G key+1∧dQ G key+1≤eB G hi∧dQ (GB G lo hi) key=dQ G key - aB G lo:=by
 have hab:=fZ hw hb
 have hel:=iS (G:=G) (hi:=hi)
 obtain ⟨n,hn⟩:∃ n,n=oZ (fun j=>decide (G[j]!.s < key)) G.length:=⟨_,rfl⟩
 have hs:n≤G.length:=by rw [hn]; exact jS _ _
 have e:dQ G key=(n:Int) - 1:=by unfold dQ; rw [hn]
 have hlt:∀ j,j < G.length→(j < n↔G[j]!.s < key):=fun j hj=>by rw [hn]; exact yC hw hj
 have h1:aB G lo≤n:=by
  rcases aH n (aB G lo) with h | h
  ·exfalso
   have hj:n < G.length:=by have:=A6 (G:=G) (lo:=lo); omega
   have a:=(not_congr (oq hw (lo:=lo) hj)).1 (by omega)
   have b:=(not_congr (hlt n hj)).1 (cx _)
   refine a fun l e => ?_
   have c:=hw.1 _ hj
   have d:=hk.1 l e
   exact cT d (cT b c)
  ·exact h
 have h2:n≤eB G hi:=by
  rcases aH (eB G hi) n with h | h
  ·exfalso
   have hj:eB G hi < G.length:=by omega
   have a:=(not_congr (ou hw (hi:=hi) hj)).1 (cx _)
   have b:=(hlt _ hj).1 h
   refine a fun h' e => ?_
   exact bw b (hk.2 h' e)
  ·exact h
 refine ⟨by omega,by omega,?_⟩
 rw [mz (j:=n - aB G lo) (by rw [cS]; omega) (fun i hi' => ?_) (fun h => ?_),e]
 ·omega
 ·rw [nJ (by rw [cS]; omega)]
  exact (hlt _ (by omega)).1 (by omega)
 ·rw [nJ h,show aB G lo+(n - aB G lo)=n by omega]
  rw [cS] at h
  exact (not_congr (hlt n (by omega))).1 (cx _)
end
end Go.E
end
section
namespace Go.E
open Go Go.Sort Go.Proofs Go.Proofs.Tryz
def OB (d:World) (v:Value) (b:Option Bytes):Prop:=(b=none∧v = .slice none 0 0)∨∃ l a n c,b=some l∧v = .slice (some a) n c∧eO d v l
structure BS (d w:World) (U:Nat) (rt:TypeId) (rv lov hiv:Value) (lo hi:Option Bytes) (is:Option Addr) (ps:Int):Prop where
 c0:w.cell? ⟨U,72,none⟩=some (.iface rt rv)
 c1:w.cell? ⟨U,73,none⟩=some (.pointer is)
 c2:w.cell? ⟨U,74,none⟩=some (.func (.func 102) #[] #[])
 c4:w.cell? ⟨U,76,none⟩=some lov
 c5:w.cell? ⟨U,77,none⟩=some hiv
 c6:w.cell? ⟨U,78,none⟩=some (.pointer none)
 c8:w.cell? ⟨U,80,none⟩=some (.int .i8 ps)
 fU:∀ x,w.frozen? ⟨U,x,none⟩=false
 lo:OB d lov lo
 hi:OB d hiv hi
def bM (U:Nat):Nat→Nat→Prop:=fun b x=>b=U∧72≤x∧x≤80
section
variable {d w w2:World} {U:Nat} {rt:TypeId} {rv lov hiv:Value} {lo hi:Option Bytes} {is:Option Addr} {ps:Int}
theorem BS.keep {M:Nat→Nat→Prop} (h:BS d w U rt rv lov hiv lo hi is ps) (hk:Keep M w w2) (hm:∀ x,72≤x→x≤80→U < w.heap.size→¬ M U x):BS d w2 U rt rv lov hiv lo hi is ps:=by
 have hU:=aE h.c0
 exact ⟨hk.some h.c0 (hm _ (by omega) (by omega) hU),hk.some h.c1 (hm _ (by omega) (by omega) hU),hk.some h.c2 (hm _ (by omega) (by omega) hU),hk.some h.c4 (hm _ (by omega) (by omega) hU),hk.some h.c5 (hm _ (by omega) (by omega) hU),hk.some h.c6 (hm _ (by omega) (by omega) hU),hk.some h.c8 (hm _ (by omega) (by omega) hU),fun x=>by rw [hk.frozen U x hU]; exact h.fU x,h.lo,h.hi⟩
theorem BS.drew (h:BS d w U rt rv lov hiv lo hi is ps):BS d w.drew U rt rv lov hiv lo hi is ps:=⟨h.c0,h.c1,h.c2,h.c4,h.c5,h.c6,h.c8,h.fU,h.lo,h.hi⟩
end
end Go.E
namespace Go.Proofs
open Go Go.E Go.Sort Go.Proofs.Tryz
section
variable {k:ae} {d w:World} {U pb po:Nat} {rt:TypeId} {rv lov hiv:Value} {lo hi:Option Bytes} {is:Option Addr} {ps:Int} {G:List Sp} {pF pL:Prop} {pK:Bytes→Prop} {T:Nat→Nat→Prop} {R:World→(Nat→Prop)→Int→Prop} {S:Nat→Prop} {q:Int} {ord:Int}
theorem fQ {a:Option Addr} (b:BS d w U rt rv lov hiv lo hi is ps) (hk:k (.pointer a) w):aU prog 236 #[.pointer (some ⟨U,72,none⟩),.pointer a] k w:=by
 have c6:=b.c6
 refine aW [.tmp 4] func236 ?_
 cases a with
 | none =>
  simp (disch:=first | exact dZ | fail) only [go_sem,Option.isSome_none]
  exact hk
 | some a =>
  simp (disch:=first | exact dZ | fail) only [go_sem,c6,Option.isSome_some,Option.isSome_none]
  exact hk
theorem gp {a:Option Addr} (b:BS d w U rt rv lov hiv lo hi is ps) (hk:k (.pointer a) w.drew):aU prog 238 #[.pointer (some ⟨U,72,none⟩),.pointer a] k w:=by
 have c6:=b.c6
 refine aW [.tmp 4] func238 ?_
 cases a with
 | none =>
  refine aY ?_
  refine ao (sq [0,1,2,3,4,5] (.read 6 (sq [7,8,9,10,11,12] (.read 13 (sq [14] (.read 15 (sq [16,17,18,19,20] (.read 21 (sq [22,23,24] (.read 25 (sq [26,27,28] (.read 29 (sq [30] (.read 31 (.eff 32 [] (sq [33,34] .done)))))))))))))))) ?_
  simp (disch:=first | exact dZ | fail) only [go_sem,Option.isSome_none]
  exact hk
 | some a =>
  refine aY ?_
  refine ao (sq [0,1,2,3,4,5] (.read 6 (sq [7,8,9,10,11,12] (.read 13 (sq [14] (.read 15 (sq [16,17,18,19,20] (.read 21 (sq [22,23,24] (.read 25 (sq [26,27,28] (.read 29 (sq [30] (.read 31 (.eff 32 [] (sq [33,34] .done)))))))))))))))) ?_
  simp (disch:=first | exact dZ | fail) only [go_sem,c6,Option.isSome_some,Option.isSome_none]
  exact hk
structure BC (d:World) (U pb po:Nat) (rt:TypeId) (rv:Value) (lo hi:Option Bytes) (G:List Sp) (pF pL:Prop) (pK:Bytes→Prop) (T:Nat→Nat→Prop) (R:World→(Nat→Prop)→Int→Prop) (ord:Int):Prop where
 f:FJ prog (.iface rt rv) d pb po ord G pF pL pK T R
 t:∀ x,72≤x→x≤80→¬ T U x
 s:∀ {w S p},R w S p→¬ S U
 o:dA d U
 b:uv lo hi
theorem BC.keep {w w2:World} {p:Int} (bc:BC d U pb po rt rv lo hi G pF pL pK T R ord) (h:R w S p) (hk:Keep (bM U) w w2):R w2 S p :=
 bc.f.keep h hk fun b x _ hm=>by
  obtain ⟨rfl,h1,h2⟩:=hm
  exact ⟨bc.t x h1 h2,bc.s h,bc.o x⟩
theorem nL (bc:BC d U pb po rt rv lo hi G pF pL pK T R ord) (h:R w S q) (b:BS d w U rt rv lov hiv lo hi is ps)
    (hk:∀ w' r,R w' S q→BS d w' U rt rv lov hiv lo hi r 0→Keep (bM U) w w'→r=(if 0≤q∧q < eB G hi then some ⟨pb,po,none⟩ else none)→k (.pointer r) w') :
    aU prog 237 #[.pointer (some ⟨U,72,none⟩),fN pb po G q] k w:=by
 have c1:=b.c1
 have c2:=b.c2
 have cb:=b.c5
 have c8:=b.c8
 have fU:=b.fU
 have hU:=aE c1
 have fin:∀ (r:Option Addr) (w':World),(w'=((w.setCell ⟨U,73,none⟩ (.pointer r)).setCell ⟨U,80,none⟩ (.int .i8 0)).drew∨(ps=0∧w'=(w.setCell ⟨U,73,none⟩ (.pointer r)).drew))→r=(if 0≤q∧q < eB G hi then some ⟨pb,po,none⟩ else none)→k (.pointer r) w':=by
  intro r w' hw' hr
  have kk:Keep (bM U) w w':=by
   rcases hw' with rfl | ⟨_,rfl⟩
   ·exact (((Keep.refl _ w).set (fun _=>⟨rfl,by omega,by omega⟩)).set (fun _=>⟨rfl,by omega,by omega⟩)).drew
   ·exact ((Keep.refl _ w).set (fun _=>⟨rfl,by omega,by omega⟩)).drew
  refine hk w' r (bc.keep h kk) ?_ kk hr
  have o:∀ {y v},y≠73→y≠80→w.cell? ⟨U,y,none⟩=some v→w'.cell? ⟨U,y,none⟩=some v:=by
   intro y v h1 h2 hv
   rcases hw' with rfl | ⟨_,rfl⟩
   ·exact bU @hv
   ·exact bU @hv
  refine ⟨o (by omega) (by omega) b.c0,?_,o (by omega) (by omega) b.c2,o (by omega) (by omega) b.c4,o (by omega) (by omega) b.c5,o (by omega) (by omega) b.c6,?_,fun x=>by rw [kk.frozen U x hU]; exact b.fU x,b.lo,b.hi⟩
  ·rcases hw' with rfl | ⟨_,rfl⟩
   ·exact bU @c1
   ·exact bU @c1
  ·rcases hw' with rfl | ⟨h0,rfl⟩
   ·exact bU @c8
   ·rw [h0] at c8
    exact bU @c8
 refine aW [.tmp 4] func237 ?_
 by_cases hq:0≤q∧q < G.length
 ·rw [dm hq.1 hq.2]
  obtain ⟨j,rfl⟩:∃ j:Nat,q=j:=⟨q.toNat,by omega⟩
  have hj:j < G.length:=by omega
  obtain ⟨⟨sv,s1,s2⟩,⟨ev,e1,e2⟩,_,_⟩:=(bc.f.cur h rfl hj).o (bc.f.inc h)
  obtain ⟨sa,sc,rfl⟩:=av s2
  obtain ⟨ea,ec,rfl⟩:=av e2
  have hinc:=bc.f.inc h
  rcases b.hi with ⟨hn,hv⟩ | ⟨l,la,ln,lc,hn,hv,hl⟩
  ·rw [hv] at cb
   have hr:(some ⟨pb,po,none⟩:Option Addr)=(if (0:Int)≤j∧(j:Int) < eB G hi then some ⟨pb,po,none⟩ else none):=by rw [if_pos]; exact ⟨by have:=hj; omega,by have:=(ou bc.f.wf (hi:=hi) hj).2 (fun h' e=>by rw [hn] at e; cases e); omega⟩
   refine aY ?_
   refine ao (sq [0,1,2,3,4,5] (.read 6 (sq [7,8,9,10,11,12] (.read 13 (sq [14,15,16] (.read 17 (sq [18,19,20] (.read 21 (.eff 22 [] (sq [23,24] .done)))))))))) ?_
   by_cases h0:ps=0
   ·have h0':(ps != 0)=false:=by rw [h0]; rfl
    simp (disch:=first | exact dZ | fail) only [go_sem,cb,c1,c8,fU,h0',Option.isSome_some,Option.isSome_none]
    exact fin _ _ (.inr ⟨h0,rfl⟩) hr
   ·have h0':(ps != 0)=true:=by rw [bne_iff_ne]; exact h0
    simp (disch:=first | exact dZ | fail) only [go_sem,cb,c1,c8,fU,h0',Option.isSome_some,Option.isSome_none]
    exact fin _ _ (.inl rfl) hr
  ·rw [hv] at cb hl
   refine aY ?_
   refine ao (sq [0,1,2,3,4,5] (.read 6 (sq [7,8,9,10,11,12] (.read 13 (sq [14,15,16] (.read 17 (sq [18,19,20] (.read 21 (.eff 22 [] (sq [23,24] .done)))))))))) ?_
   simp (disch:=first | exact dZ | fail) only [go_sem,cb,c1,c2,s1,e1,Option.isSome_some]
   refine dJ (l1:=G[j]!.s) (by exact s2) (by exact hl.inc hinc) ?_
   by_cases hle:l≤G[j]!.s
   ·have hle':(0:Int)≤cz G[j]!.s l:=dw.2 hle
    have hr:(none:Option Addr)=(if (0:Int)≤j∧(j:Int) < eB G hi then some ⟨pb,po,none⟩ else none):=by rw [if_neg]; intro hh; exact absurd ((ou bc.f.wf (hi:=hi) hj).1 (by omega) l hn) (List.not_lt.2 hle)
    by_cases h0:ps=0
    ·have h0':(ps != 0)=false:=by rw [h0]; rfl
     refine yk @cb @c1 @c2 @s1 @e1 @c8 @fU @hle' @h0' ?_
     exact fin _ _ (.inr ⟨h0,rfl⟩) hr
    ·have h0':(ps != 0)=true:=by rw [bne_iff_ne]; exact h0
     refine yk @cb @c1 @c2 @s1 @e1 @c8 @fU @hle' @h0' ?_
     exact fin _ _ (.inl rfl) hr
   ·have hle':¬ (0:Int)≤cz G[j]!.s l:=fun h=>hle (dw.1 h)
    have hr:(some ⟨pb,po,none⟩:Option Addr)=(if (0:Int)≤j∧(j:Int) < eB G hi then some ⟨pb,po,none⟩ else none):=by rw [if_pos]; exact ⟨by omega,by have:=(ou bc.f.wf (hi:=hi) hj).2 (fun h' e=>by rw [hn] at e; cases e; exact List.not_le.1 hle); omega⟩
    by_cases h0:ps=0
    ·have h0':(ps != 0)=false:=by rw [h0]; rfl
     refine yk @cb @c1 @c2 @s1 @e1 @c8 @fU @hle' @h0' ?_
     exact fin _ _ (.inr ⟨h0,rfl⟩) hr
    ·have h0':(ps != 0)=true:=by rw [bne_iff_ne]; exact h0
     refine yk @cb @c1 @c2 @s1 @e1 @c8 @fU @hle' @h0' ?_
     exact fin _ _ (.inl rfl) hr
 ·rw [dp hq]
  have hr:(none:Option Addr)=(if 0≤q∧q < eB G hi then some ⟨pb,po,none⟩ else none):=by rw [if_neg]; intro hh; exact hq (⟨hh.1,by have:=iS (G:=G) (hi:=hi); omega⟩)
  refine aY ?_
  refine ao (sq [0,1,2,3,4,5] (.read 6 (sq [7,8,9,10,11,12] (.read 13 (sq [14,15,16] (.read 17 (sq [18,19,20] (.read 21 (.eff 22 [] (sq [23,24] .done)))))))))) ?_
  by_cases h0:ps=0
  ·have h0':(ps != 0)=false:=by rw [h0]; rfl
   simp (disch:=first | exact dZ | fail) only [go_sem,c1,c8,fU,h0',Option.isSome_some,Option.isSome_none]
   exact fin _ _ (.inr ⟨h0,rfl⟩) hr
  ·have h0':(ps != 0)=true:=by rw [bne_iff_ne]; exact h0
   simp (disch:=first | exact dZ | fail) only [go_sem,c1,c8,fU,h0',Option.isSome_some,Option.isSome_none]
   exact fin _ _ (.inl rfl) hr
theorem nN (bc:BC d U pb po rt rv lo hi G pF pL pK T R ord) (h:R w S q) (b:BS d w U rt rv lov hiv lo hi is ps)
    (hk:∀ w' r,R w' S q→BS d w' U rt rv lov hiv lo hi r 0→Keep (bM U) w w'→r=(if (aB G lo:Int)≤q∧q < G.length then some ⟨pb,po,none⟩ else none)→k (.pointer r) w') :
    aU prog 239 #[.pointer (some ⟨U,72,none⟩),fN pb po G q] k w:=by
 have c1:=b.c1
 have c2:=b.c2
 have cb:=b.c4
 have c8:=b.c8
 have fU:=b.fU
 have hU:=aE c1
 have fin:∀ (r:Option Addr) (w':World),(w'=((w.setCell ⟨U,73,none⟩ (.pointer r)).setCell ⟨U,80,none⟩ (.int .i8 0)).drew∨(ps=0∧w'=(w.setCell ⟨U,73,none⟩ (.pointer r)).drew))→r=(if (aB G lo:Int)≤q∧q < G.length then some ⟨pb,po,none⟩ else none)→k (.pointer r) w':=by
  intro r w' hw' hr
  have kk:Keep (bM U) w w':=by
   rcases hw' with rfl | ⟨_,rfl⟩
   ·exact (((Keep.refl _ w).set (fun _=>⟨rfl,by omega,by omega⟩)).set (fun _=>⟨rfl,by omega,by omega⟩)).drew
   ·exact ((Keep.refl _ w).set (fun _=>⟨rfl,by omega,by omega⟩)).drew
  refine hk w' r (bc.keep h kk) ?_ kk hr
  have o:∀ {y v},y≠73→y≠80→w.cell? ⟨U,y,none⟩=some v→w'.cell? ⟨U,y,none⟩=some v:=by
   intro y v h1 h2 hv
   rcases hw' with rfl | ⟨_,rfl⟩
   ·exact bU @hv
   ·exact bU @hv
  refine ⟨o (by omega) (by omega) b.c0,?_,o (by omega) (by omega) b.c2,o (by omega) (by omega) b.c4,o (by omega) (by omega) b.c5,o (by omega) (by omega) b.c6,?_,fun x=>by rw [kk.frozen U x hU]; exact b.fU x,b.lo,b.hi⟩
  ·rcases hw' with rfl | ⟨_,rfl⟩
   ·exact bU @c1
   ·exact bU @c1
  ·rcases hw' with rfl | ⟨h0,rfl⟩
   ·exact bU @c8
   ·rw [h0] at c8
    exact bU @c8
 refine aW [.tmp 4] func239 ?_
 by_cases hq:0≤q∧q < G.length
 ·rw [dm hq.1 hq.2]
  obtain ⟨j,rfl⟩:∃ j:Nat,q=j:=⟨q.toNat,by omega⟩
  have hj:j < G.length:=by omega
  obtain ⟨⟨sv,s1,s2⟩,⟨ev,e1,e2⟩,_,_⟩:=(bc.f.cur h rfl hj).o (bc.f.inc h)
  obtain ⟨sa,sc,rfl⟩:=av s2
  obtain ⟨ea,ec,rfl⟩:=av e2
  have hinc:=bc.f.inc h
  rcases b.lo with ⟨hn,hv⟩ | ⟨l,la,ln,lc,hn,hv,hl⟩
  ·rw [hv] at cb
   have hr:(some ⟨pb,po,none⟩:Option Addr)=(if (aB G lo:Int)≤j∧(j:Int) < G.length then some ⟨pb,po,none⟩ else none):=by rw [if_pos]; exact ⟨by have:=(oq bc.f.wf (lo:=lo) hj).2 (fun h' e=>by rw [hn] at e; cases e); omega,hq.2⟩
   refine aY ?_
   refine ao (sq [0,1,2,3,4,5] (.read 6 (sq [7,8,9,10,11,12] (.read 13 (sq [14,15,16] (.read 17 (sq [18,19,20] (.read 21 (.eff 22 [] (sq [23,24] .done)))))))))) ?_
   by_cases h0:ps=0
   ·have h0':(ps != 0)=false:=by rw [h0]; rfl
    simp (disch:=first | exact dZ | fail) only [go_sem,cb,c1,c8,fU,h0',Option.isSome_some,Option.isSome_none]
    exact fin _ _ (.inr ⟨h0,rfl⟩) hr
   ·have h0':(ps != 0)=true:=by rw [bne_iff_ne]; exact h0
    simp (disch:=first | exact dZ | fail) only [go_sem,cb,c1,c8,fU,h0',Option.isSome_some,Option.isSome_none]
    exact fin _ _ (.inl rfl) hr
  ·rw [hv] at cb hl
   refine aY ?_
   refine ao (sq [0,1,2,3,4,5] (.read 6 (sq [7,8,9,10,11,12] (.read 13 (sq [14,15,16] (.read 17 (sq [18,19,20] (.read 21 (.eff 22 [] (sq [23,24] .done)))))))))) ?_
   simp (disch:=first | exact dZ | fail) only [go_sem,cb,c1,c2,s1,e1,Option.isSome_some]
   refine dJ (l1:=G[j]!.e) (by exact e2) (by exact hl.inc hinc) ?_
   by_cases hle:G[j]!.e≤l
   ·have hle':cz G[j]!.e l≤0:=fM.2 hle
    have hr:(none:Option Addr)=(if (aB G lo:Int)≤j∧(j:Int) < G.length then some ⟨pb,po,none⟩ else none):=by rw [if_neg]; intro hh; exact absurd ((oq bc.f.wf (lo:=lo) hj).1 (by omega) l hn) (List.not_lt.2 hle)
    by_cases h0:ps=0
    ·have h0':(ps != 0)=false:=by rw [h0]; rfl
     refine yk @cb @c1 @c2 @s1 @e1 @c8 @fU @hle' @h0' ?_
     exact fin _ _ (.inr ⟨h0,rfl⟩) hr
    ·have h0':(ps != 0)=true:=by rw [bne_iff_ne]; exact h0
     refine yk @cb @c1 @c2 @s1 @e1 @c8 @fU @hle' @h0' ?_
     exact fin _ _ (.inl rfl) hr
   ·have hle':¬ cz G[j]!.e l≤0:=fun h=>hle (fM.1 h)
    have hr:(some ⟨pb,po,none⟩:Option Addr)=(if (aB G lo:Int)≤j∧(j:Int) < G.length then some ⟨pb,po,none⟩ else none):=by rw [if_pos]; exact ⟨by have:=(oq bc.f.wf (lo:=lo) hj).2 (fun h' e=>by rw [hn] at e; cases e; exact List.not_le.1 hle); omega,hq.2⟩
    by_cases h0:ps=0
    ·have h0':(ps != 0)=false:=by rw [h0]; rfl
     refine yk @cb @c1 @c2 @s1 @e1 @c8 @fU @hle' @h0' ?_
     exact fin _ _ (.inr ⟨h0,rfl⟩) hr
    ·have h0':(ps != 0)=true:=by rw [bne_iff_ne]; exact h0
     refine yk @cb @c1 @c2 @s1 @e1 @c8 @fU @hle' @h0' ?_
     exact fin _ _ (.inl rfl) hr
 ·rw [dp hq]
  have hr:(none:Option Addr)=(if (aB G lo:Int)≤q∧q < G.length then some ⟨pb,po,none⟩ else none):=by rw [if_neg]; intro hh; exact hq (⟨by omega,hh.2⟩)
  refine aY ?_
  refine ao (sq [0,1,2,3,4,5] (.read 6 (sq [7,8,9,10,11,12] (.read 13 (sq [14,15,16] (.read 17 (sq [18,19,20] (.read 21 (.eff 22 [] (sq [23,24] .done)))))))))) ?_
  by_cases h0:ps=0
  ·have h0':(ps != 0)=false:=by rw [h0]; rfl
   simp (disch:=first | exact dZ | fail) only [go_sem,c1,c8,fU,h0',Option.isSome_some,Option.isSome_none]
   exact fin _ _ (.inr ⟨h0,rfl⟩) hr
  ·have h0':(ps != 0)=true:=by rw [bne_iff_ne]; exact h0
   simp (disch:=first | exact dZ | fail) only [go_sem,c1,c8,fU,h0',Option.isSome_some,Option.isSome_none]
   exact fin _ _ (.inl rfl) hr
end
end Go.Proofs
end
