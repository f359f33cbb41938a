/- Parts of the proof: Dm, Pa, Wa. -/
import Derived.Test.YtjcbeinpkafjiaaGreatW17
set_option linter.all false
set_option maxRecDepth 10000
section
namespace Go.E
open Go Go.Sort Go.Proofs Go.Proofs.Tryz
theorem we (P:Nat→Bool) (N:Nat):qN P N≤N∧(∀ i,i < qN P N→P i=true)∧(qN P N < N→P (qN P N)=false):=by
 induction N generalizing P with
 | zero=>exact ⟨aE _,fun i h=>by simp [qN] at h,fun h=>by simp [qN] at h⟩
 | succ N ih =>
  unfold qN
  split
  ·rename_i h
   obtain ⟨a,b,c⟩:=ih fun i=>P (i+1)
   refine ⟨by omega,fun i hi => ?_,fun hl=>c (by omega)⟩
   cases i with
   | zero=>exact h
   | succ i=>exact b i (by omega)
  ·rename_i h
   exact ⟨aP _,fun i hi=>by omega,fun _=>by simpa using h⟩
section
variable {G:List Sp} {key:Bytes}
theorem kP (G:List Sp) (key:Bytes):cv G key≤G.length∧(∀ i,i < cv G key→¬ key < G[i]!.e)∧(cv G key < G.length→key < G[cv G key]!.e):=by
 obtain ⟨a,b,c⟩:=we (fun j=>decide (¬ key < G[j]!.e)) G.length
 exact ⟨a,fun i hi=>of_decide_eq_true (b i hi),fun h=>Classical.not_not.1 (of_decide_eq_false (c h))⟩
theorem kQ (G:List Sp) (key:Bytes) : -1≤dt G key∧dt G key < G.length∧(∀ i:Nat,i≤dt G key→G[i]!.s < key)∧(∀ j:Nat,dt G key+1=j→j < G.length→¬ G[j]!.s < key):=by
 obtain ⟨a,b,c⟩:=we (fun j=>decide (G[j]!.s < key)) G.length
 unfold dt
 refine ⟨by omega,by omega,fun i hi=>by simpa using b i (by omega),fun j e h => ?_⟩
 obtain rfl:qN (fun j=>decide (G[j]!.s < key)) G.length=j:=by omega
 simpa using c h
theorem C6 (h:cv G key=G.length):cv (Vw G) key=(cY G).length:=by
 obtain ⟨_,b,_⟩:=kP G key
 refine oY (by rw [dE]; omega) (fun i hi => ?_) (fun h=>by rw [dE] at h; omega)
 rw [gx hi]
 have:=dK hi
 exact b _ (by omega)
theorem yu {i p:Nat} (h:i < p) (hp:p < (cY G).length):fk G i≤(cY G)[p]! := by
 rw [gT (by omega)]
 rcases bt (show i+1≤p from h) with h1 | h1
 ·exact gM ((kJ iV (jt (by omega)) (jt hp)).2 h1)
 ·rw [h1]; exact aE _
theorem C7 (wf:Wf G) {p:Nat} (hp:p < (cY G).length) (h1:(cY G)[p]! ≤ cv G key) (h2:cv G key < fk G p):cv (Vw G) key=p:=by
 obtain ⟨_,b,c⟩:=kP G key
 have he:=dK hp
 refine oY (by rw [dE]; omega) (fun i hi => ?_) (fun _ => ?_)
 ·rw [gx (by omega)]
  have:=yu hi hp
  have:=dK (G:=G) (p:=i) (by omega)
  exact b _ (by omega)
 ·rw [gx hp]
  have a:=c (by omega)
  have:=wf.ends (i:=cv G key) (j:=fk G p - 1) (by omega) (by omega)
  show key < G[fk G p - 1]!.e
  grind
theorem yw {p:Nat} (hp:p < (cY G).length) (h1:(cY G)[p]! ≤ cv G key) (h2:cv G key < fk G p) (hs:key < G[cv G key]!.s):cv G key=(cY G)[p]! := by
 obtain ⟨_,b,c⟩:=kP G key
 rcases bt h1 with h | h
 ·have:=qO hp (j:=cv G key - 1) (by omega) (by omega)
  have e:=this.2.1
  rw [show cv G key - 1+1=cv G key by omega] at e
  rw [← e] at hs
  exact absurd hs (b _ (by omega))
 ·exact h.symm
theorem C8 (h:dt G key = -1):dt (Vw G) key = -1:=by
 obtain ⟨_,_,b,c⟩:=kQ G key
 refine oZ (j:=0) (aP _) (fun i hi=>by omega) (fun h0 => ?_)
 rw [dE] at h0
 rw [gx h0]
 have hz:=(fi h0).1
 rw [(iI (by omega)).2]
 exact c 0 (by omega) (by omega)
theorem C9 (wf:Wf G) {p j:Nat} (hj:dt G key=j) (hp:p < (cY G).length) (h1:(cY G)[p]! ≤ j) (h2:j < fk G p):dt (Vw G) key=p:=by
 obtain ⟨_,_,b,c⟩:=kQ G key
 have he:=dK hp
 have:=oZ (G:=Vw G) (key:=key) (j:=p+1) (by rw [dE]; omega) (fun i hi => ?_) (fun h => ?_)
 ·rw [this]; omega
 ·rw [gx (by omega)]
  rcases bt (show i≤p by omega) with h | h
  ·have:=yu h hp
   have:=dK (G:=G) (p:=i) (by omega)
   exact b _ (by omega)
  ·subst h
   exact b _ (by omega)
 ·rw [dE] at h
  rw [gx h]
  rw [gT h] at h2
  have hl:=(fi h).1
  have a:=c (j+1) (by omega) (by omega)
  have:=wf.starts (i:=j+1) (j:=(cY G)[p+1]!) (by omega) hl
  show ¬ G[(cY G)[p+1]!]!.s < key
  grind
theorem BD {p j:Nat} (hj:dt G key=j) (hp:p < (cY G).length) (h1:(cY G)[p]! ≤ j) (h2:j < fk G p) (hs:G[j]!.e < key):j=fk G p - 1:=by
 obtain ⟨_,_,b,c⟩:=kQ G key
 have he:=dK hp
 rcases aG (j+1) (fk G p) with h | h
 ·have e:=(qO hp (j:=j) h1 h).2.1
  rw [e] at hs
  exact absurd hs (c (j+1) (by omega) (by omega))
 ·omega
end
end Go.E
namespace Go.Proofs
open Go Go.E Go.Sort Go.Proofs.Tryz
section
variable {k:au} {d w w0:World} {U Bf C pb po:Nat} {rt:TypeId} {rv:Value} {G:List Sp} {pF pL:Prop} {pK:Bytes→Prop} {T:Nat→Nat→Prop} {R:World→(Nat→Prop)→Int→Prop} {D S D0 S0:Nat→Prop} {Q:Nat→Nat→Prop} {vc vk vb:Value} {xs xb:List Value} {cc:Nat} {lk:List KR} {is:Option Addr} {ps q:Int} {l:Bytes}
theorem BE {p:Int} (dc:DC d U Bf C pb po rt rv G pF pL pK T R) (h:De d U Bf C pb po rt rv G T R w D S p) (hp : -1 < p) (hk:EE d U Bf C pb po rt rv G T R w D S (p - 1) k):aX prog 246 #[.pointer (some ⟨U,81,none⟩)] k w:=by
 obtain ⟨Q,vc,vk,vb,xs,xb,cc,lk,is,ps,q,st,hd⟩:=h
 have q84:=st.p.d84
 have q85:=st.p.d85
 have q86:=st.p.d86
 have fU:=st.p.fU
 refine ae [.tmp 2] func246 ?_
 rcases hd with h2 | ⟨his,⟨i,rfl,hi,hd⟩ | ⟨h3,hps,hq⟩ | ⟨h3,_,_⟩⟩
 ·omega
 ·have hE:=dK hi
  rcases hd with ⟨h0,hps,hq⟩ | ⟨h0,hps,hq⟩ | ⟨h0,hps,hq⟩
  ·subst hps hq
   simp (disch:=first | exact dZ | fail) only [go_sem,A9,xr,n10,q86,q85,Option.isNone_some,q84]
   refine dc.f.prev st.R (by omega) fun w2 S2 hR2 hS2 k2 => ?_
   obtain ⟨q85',q86',_,fU2,f2⟩:=kO dc st hR2 hS2 k2
   rw [show gH pb po G (((cY G)[i]! : Nat) - 1) = .pointer (gK pb po G (((cY G)[i]! : Nat) - 1)) from cW ..]
   by_cases hl:0 < i
   ·have e:=gT (G:=G) (p:=i - 1) (by omega)
    rw [show i - 1+1=i by omega] at e
    have hl2:=dK (G:=G) (p:=i - 1) (by omega)
    have his:gK pb po G (((cY G)[i]! : Nat) - 1)=some ⟨pb,po,none⟩:=fE ⟨by omega,by omega⟩
    obtain ⟨st2,l2⟩:=f2 _ his
    rw [his]
    simp (disch:=first | exact dZ | fail) only [go_sem,q85',fU2,Option.isNone_some]
    refine jk (p:=i - 1) dc l2 st2 (by omega) (by omega) fun w3 D3 S3 v r1 r2 r3 => ?_
    refine an ?_
    rw [show ((i - 1:Nat):Int)=i - 1 by omega] at r1 r3
    exact hk w3 D3 S3 v r1 r2 r3
   ·obtain rfl:i=0:=by omega
    have e:=(iI (G:=G) (by omega)).2
    have his:gK pb po G (((cY G)[0]! : Nat) - 1)=none:=eR (by omega)
    obtain ⟨st2,l2⟩:=f2 _ his
    rw [his]
    simp (disch:=first | exact dZ | fail) only [go_sem,q85',fU2,Option.isNone_none]
    exact ru l2 st2 his.symm (.inr ⟨by omega,by omega⟩) hk
  ·subst hps hq
   refine gq @A9 @xr @n10 @q86 @q84 ?_
   refine dc.f.prev st.R (by omega) fun w2 S2 hR2 hS2 k2 => ?_
   obtain ⟨q85',q86',_,fU2,f2⟩:=kO dc st hR2 hS2 k2
   rw [show gH pb po G ((fk G i:Nat) - 1) = .pointer (gK pb po G ((fk G i:Nat) - 1)) from cW ..]
   have his2:gK pb po G ((fk G i:Nat) - 1)=some ⟨pb,po,none⟩:=fE ⟨by omega,by omega⟩
   obtain ⟨st2,l2⟩:=f2 _ his2
   rw [his2]
   simp (disch:=first | exact dZ | fail) only [go_sem,q85',fU2,Option.isNone_some]
   have hsame:=mE hi (j:=fk G i - 1) (by omega) (by omega)
   refine wZ (p:=i) (j:=fk G i - 1) dc st2 hi (by omega) (by omega) (by omega) (fun h=>h0 (by rw [h] at hsame; simpa using hsame.symm)) fun w3 D3 S3 Q3 vc3 vk3 vb3 xs3 xb3 cc3 lk3 v st3 l3 => ?_
   have r85:=st3.p.d85
   have r86:=st3.p.d86
   have rU:=st3.p.fU
   by_cases hl:0 < i
   ·have e:=gT (G:=G) (p:=i - 1) (by omega)
    rw [show i - 1+1=i by omega] at e
    have hl2:=dK (G:=G) (p:=i - 1) (by omega)
    rw [fE ⟨by omega,by omega⟩] at st3 r85
    simp (disch:=first | exact dZ | fail) only [go_sem,r85,Option.isNone_some]
    refine jk (p:=i - 1) dc (l2.trans l3) st3 (by omega) (by omega) fun w3 D3 S3 v r1 r2 r3 => ?_
    refine an ?_
    rw [show ((i - 1:Nat):Int)=i - 1 by omega] at r1 r3
    exact hk w3 D3 S3 v r1 r2 r3
   ·obtain rfl:i=0:=by omega
    have e:=(iI (G:=G) (by omega)).2
    rw [eR (by omega)] at st3 r85
    simp (disch:=first | exact dZ | fail) only [go_sem,r86,r85,Option.isNone_none,rU]
    obtain ⟨st4,l4⟩:=tD dc st3 0
    exact ru (l2.trans (l3.trans l4)) st4 (eR (by omega)).symm (.inr ⟨by omega,by omega⟩) hk
  ·subst hps hq
   by_cases hl:0 < i
   ·have e:=gT (G:=G) (p:=i - 1) (by omega)
    rw [show i - 1+1=i by omega] at e
    have hl2:=dK (G:=G) (p:=i - 1) (by omega)
    rw [fE ⟨by omega,by omega⟩] at his
    subst his
    simp (disch:=first | exact dZ | fail) only [go_sem,A9,xr,n10,q86,q85,Option.isNone_some]
    refine jk (p:=i - 1) dc (DLt.refl ..) st (by omega) (by omega) fun w3 D3 S3 v r1 r2 r3 => ?_
    refine an ?_
    rw [show ((i - 1:Nat):Int)=i - 1 by omega] at r1 r3
    exact hk w3 D3 S3 v r1 r2 r3
   ·obtain rfl:i=0:=by omega
    have e:=(iI (G:=G) (by omega)).2
    rw [eR (by omega)] at his
    subst his
    simp (disch:=first | exact dZ | fail) only [go_sem,A9,xr,n10,q86,q85,Option.isNone_none,fU]
    obtain ⟨st3,l3⟩:=tD dc st 0
    exact ru l3 st3 (eR (by omega)).symm (.inr ⟨by omega,by omega⟩) hk
 ·subst hps hq
  refine pI @A9 @xr @n10 @q86 @q85 @q84 ?_
  refine dc.f.prev st.R (by omega) fun w2 S2 hR2 hS2 k2 => ?_
  obtain ⟨q85',q86',_,fU2,f2⟩:=kO dc st hR2 hS2 k2
  rw [show gH pb po G ((G.length:Nat) - 1) = .pointer (gK pb po G ((G.length:Nat) - 1)) from cW ..]
  by_cases h0:0 < G.length
  ·obtain ⟨e1,e2⟩:=iI h0
   have e3:fk G ((cY G).length - 1)=G.length:=kK (by omega)
   have his:gK pb po G ((G.length:Nat) - 1)=some ⟨pb,po,none⟩:=fE ⟨by omega,by omega⟩
   obtain ⟨st2,l2⟩:=f2 _ his
   rw [his]
   simp (disch:=first | exact dZ | fail) only [go_sem,q85',fU2,Option.isNone_some]
   refine jk (p:=(cY G).length - 1) dc l2 st2 (by omega) (by omega) fun w3 D3 S3 v r1 r2 r3 => ?_
   refine an ?_
   rw [show (((cY G).length - 1:Nat):Int)=p - 1 by omega] at r1 r3
   exact hk w3 D3 S3 v r1 r2 r3
  ·have his:gK pb po G ((G.length:Nat) - 1)=none:=eR (by omega)
   have hz:(cY G).length=0:=oX (by omega)
   obtain ⟨st2,l2⟩:=f2 _ his
   rw [his]
   simp (disch:=first | exact dZ | fail) only [go_sem,q85',fU2,Option.isNone_none]
   exact ru l2 st2 his.symm (.inr ⟨by omega,by omega⟩) hk
 ·omega
theorem wg {p:Int} {kv:Value} {key:Bytes} (dc:DC d U Bf C pb po rt rv G pF pL pK T R) (h:De d U Bf C pb po rt rv G T R w D S p) (hK:pK key) (hkv:eN w kv key) (hvi:B5 kv fun b=>b≠U∧∀ x,¬ T b x∧¬ S b)
    (hk:EE d U Bf C pb po rt rv G T R w D S (cv (Vw G) key) k):aX prog 247 #[.pointer (some ⟨U,81,none⟩),kv] k w:=by
 obtain ⟨Q,vc,vk,vb,xs,xb,cc,lk,is,ps,q,st,_⟩:=h
 obtain ⟨sG1,sG2,sG3⟩:=kP G key
 have q84:=st.p.d84
 obtain ⟨kva,kvc,rfl⟩:=ak hkv
 refine ae [.tmp 4] func247 ?_
 refine bf @q84 ?_
 refine dc.f.seekGE st.R hK hkv (fun a n c e=>(hvi a n c e).2) fun w2 S2 hR2 hS2 k2 => ?_
 have hkv2:=hkv.keep k2 fun a n c e _ o h=>h.elim ((hvi a n c e).2 o).1 ((hvi a n c e).2 o).2
 obtain ⟨q85,q86,_,fU2,f2⟩:=kO dc st hR2 hS2 k2
 rw [show gH pb po G (cv G key:Nat) = .pointer (gK pb po G (cv G key:Nat)) from cW ..]
 by_cases h0:cv G key < G.length
 ·have his:gK pb po G (cv G key:Nat)=some ⟨pb,po,none⟩:=fE ⟨by omega,by omega⟩
  obtain ⟨st2,l2⟩:=f2 _ his
  rw [his]
  obtain ⟨p,hp,h1,h2⟩:=yY h0
  have hE:=dK hp
  rw [C7 dc.f.wf hp h1 h2] at hk
  have kk:Keep (fun b y=>b=U∧y=85) w2 (w2.setCell ⟨U,85,none⟩ (.pointer (some ⟨pb,po,none⟩))):=bW ⟨rfl,rfl⟩
  have hkv3:=hkv2.keep kk fun a n c e _ o h=>(hvi a n c e).1 h.1
  obtain ⟨⟨sv,s1,s2⟩,⟨ev,e1,e2⟩,⟨kv,k1,k2⟩,_⟩:=(dc.f.cur st2.R rfl h0).o (dc.f.inc st2.R)
  obtain ⟨ka,kc,rfl⟩:=k2.form
  obtain ⟨sa,sc,rfl⟩:=ak s2
  have q86':=st2.p.d86
  have q82:=st2.p.d82
  have q85':=st2.p.d85
  have fU3:=st2.p.fU
  simp (disch:=first | exact dZ | fail) only [go_sem,q85,fU2,Option.isNone_some]
  refine jR k1 ?_
  by_cases hem:G[cv G key]!.ks=[]
  ·obtain ⟨e1,e2⟩:=nZ hp h1 h2 hem
   rw [hem]
   simp (disch:=first | exact dZ | fail) only [go_sem,List.length_nil,q86',q85',fU3]
   obtain ⟨st3,l3⟩:=tD dc st2 0
   refine hk _ D S2 _ ⟨Q,vc,vk,vb,xs,xb,cc,lk,_,0,_,st3,.inr ⟨his.symm,.inl ⟨p,rfl,hp,.inl ⟨by rw [e1]; exact hem,rfl,by rw [e1]⟩⟩⟩⟩ (l2.trans l3) ⟨fun i hi hi2 => ?_,fun h=>absurd ⟨by omega,by omega⟩ h⟩
   obtain rfl:i=p:=by omega
   refine ⟨pb,po,G[cv G key]!,rfl,(dc.f.cur st3.R rfl h0).o (dc.f.inc st3.R),?_⟩
   rw [gx hp,e1,e2]
   exact ⟨rfl,rfl,rfl,_,h0,rfl⟩
  ·have hem':decide (G[cv G key]!.ks.length=0)=false:=by
     rw [decide_eq_false_iff_not]; intro h; exact hem (aZ.1 h)
   rw [hem']
   have hcmp:=dc.f.inc st2.R _ _ _ dc.cmp0
   refine an ?_
   refine ay (sq [0,1,2] (.read 3 (sq [4,5] (.read 6 (sq [7,8,9] (.read 10 (sq [11,12] (.read 13 (sq [14] (.eff 15 [] (sq [16] .done))))))))))) ?_
   refine fI @q82 @hcmp @q85' @s1 ?_
   refine cQ (by exact s2) (by exact hkv3) ?_
   by_cases hlt:key < G[cv G key]!.s
   ·have hlt':0 < ct G[cv G key]!.s key:=gG.2 hlt
    have e:=yw hp h1 h2 hlt
    refine bf @hlt' ?_
    obtain ⟨hR3,p3,r3⟩:=st2
    refine jj (p:=p) dc (by exact l2.trans ⟨fun _ h => .inl h,fun _ h => .inl h,(Keep.refl _ _).drew⟩) ⟨dc.f.keep hR3 (M:=fun _ _=>False) (bj.refl _).drew' fun _ _ _ h=>h.elim,p3.drew,r3.drew⟩ hp (by omega) fun w3 D3 S3 v r1 r2 r3 => ?_
    refine an ?_
    exact hk w3 D3 S3 v r1 r2 r3
   ·have hlt':¬ 0 < ct G[cv G key]!.s key:=fun h=>hlt (gG.1 h)
    refine bf @hlt' ?_
    obtain ⟨hR3,p3,r3⟩:=st2
    refine wZ (p:=p) (j:=cv G key) dc (by exact ⟨dc.f.keep hR3 (M:=fun _ _=>False) (bj.refl _).drew' fun _ _ _ h=>h.elim,p3.drew,r3.drew⟩) hp h1 h2 rfl hem fun w4 D4 S4 Q4 vc4 vk4 vb4 xs4 xb4 cc4 lk4 v st4 l4 => ?_
    have l4:=(l2.trans ⟨fun _ h => .inl h,fun _ h => .inl h,(Keep.refl _ _).drew⟩).trans l4
    have r85:=st4.p.d85
    have r86:=st4.p.d86
    have r84:=st4.p.d84
    have r82:=st4.p.fU
    by_cases hz:(cY G)[p]! = 0
    ·rw [eR (by omega)] at st4 r85
     simp (disch:=first | exact dZ | fail) only [go_sem,r85,Option.isNone_none,r84]
     refine dc.f.error st4.R fun w5 hR5 x5 => ?_
     obtain ⟨p5,t5,_⟩:=dc.below st4.R st4.p st4.r x5.keep (S2:=S4) fun _ h => .inl h
     have st5:DSt d w5 U Bf C rt rv T R D4 S4 Q4 vc4 vk4 vb4 xs4 xb4 cc4 lk4 none (-1) (((cY G)[p]! : Int) - 1):=⟨hR5,p5,t5⟩
     have l5:=l4.trans ⟨fun _ h => .inl h,fun _ h => .inl h,x5.keep⟩
     have u86:=p5.d86
     have u84:=p5.d84
     refine dU @u86 @u84 ?_
     refine dc.f.next st5.R (by omega) (by omega) fun w6 S6 hR6 hS6 k6 => ?_
     obtain ⟨v85,v86,_,vU,f6⟩:=kO dc st5 hR6 hS6 k6
     rw [show gH pb po G (((cY G)[p]! : Int) - 1+1) = .pointer (gK pb po G (((cY G)[p]! : Int) - 1+1)) from cW ..]
     have his6:gK pb po G (((cY G)[p]! : Int) - 1+1)=some ⟨pb,po,none⟩:=fE ⟨by omega,by omega⟩
     obtain ⟨st6,l6⟩:=f6 _ his6
     rw [his6]
     refine dU @v85 @vU ?_
     refine jj (p:=p) dc (l5.trans l6) st6 hp (by omega) fun w7 D7 S7 v r1 r2 r3 => ?_
     refine an ?_
     exact hk w7 D7 S7 v r1 r2 r3
    ·rw [fE ⟨by omega,by omega⟩] at st4 r85
     simp (disch:=first | exact dZ | fail) only [go_sem,r85,Option.isNone_some]
     refine dU @r86 @r84 ?_
     refine dc.f.next st4.R (by omega) (by omega) fun w6 S6 hR6 hS6 k6 => ?_
     obtain ⟨v85,v86,_,vU,f6⟩:=kO dc st4 hR6 hS6 k6
     rw [show gH pb po G (((cY G)[p]! : Int) - 1+1) = .pointer (gK pb po G (((cY G)[p]! : Int) - 1+1)) from cW ..]
     have his6:gK pb po G (((cY G)[p]! : Int) - 1+1)=some ⟨pb,po,none⟩:=fE ⟨by omega,by omega⟩
     obtain ⟨st6,l6⟩:=f6 _ his6
     rw [his6]
     refine dU @v85 @vU ?_
     refine jj (p:=p) dc (l4.trans l6) st6 hp (by omega) fun w7 D7 S7 v r1 r2 r3 => ?_
     refine an ?_
     exact hk w7 D7 S7 v r1 r2 r3
 ·have e:=Nat.le_antisymm sG1 (Nat.not_lt.1 h0)
  rw [C6 e] at hk
  have his:gK pb po G (cv G key:Nat)=none:=eR (by omega)
  obtain ⟨st2,l2⟩:=f2 _ his
  rw [his]
  simp (disch:=first | exact dZ | fail) only [go_sem,q85,fU2,Option.isNone_none,q86]
  obtain ⟨st3,l3⟩:=tD dc st2 0
  exact ru (l2.trans l3) st3 his.symm (.inl ⟨rfl,by omega⟩) hk
theorem wh {p:Int} {kv:Value} {key:Bytes} (dc:DC d U Bf C pb po rt rv G pF pL pK T R) (h:De d U Bf C pb po rt rv G T R w D S p) (hK:pK key) (hkv:eN w kv key) (hvi:B5 kv fun b=>b≠U∧∀ x,¬ T b x∧¬ S b)
    (hk:EE d U Bf C pb po rt rv G T R w D S (dt (Vw G) key) k):aX prog 248 #[.pointer (some ⟨U,81,none⟩),kv] k w:=by
 obtain ⟨Q,vc,vk,vb,xs,xb,cc,lk,is,ps,q,st,_⟩:=h
 obtain ⟨sG0,sG1,sG2,sG3⟩:=kQ G key
 have q84:=st.p.d84
 obtain ⟨kva,kvc,rfl⟩:=ak hkv
 refine ae [.tmp 4] func248 ?_
 refine bf @q84 ?_
 refine dc.f.seekLT st.R hK hkv (fun a n c e=>(hvi a n c e).2) fun w2 S2 hR2 hS2 k2 => ?_
 have hkv2:=hkv.keep k2 fun a n c e _ o h=>h.elim ((hvi a n c e).2 o).1 ((hvi a n c e).2 o).2
 obtain ⟨q85,q86,_,fU2,f2⟩:=kO dc st hR2 hS2 k2
 rw [show gH pb po G (dt G key) = .pointer (gK pb po G (dt G key)) from cW ..]
 by_cases h00:0≤dt G key
 ·obtain ⟨j,hj⟩:∃ j:Nat,dt G key=j:=⟨(dt G key).toNat,by omega⟩
  have h0:j < G.length:=by omega
  rw [hj] at hR2 f2 ⊢
  have his:gK pb po G (j:Int)=some ⟨pb,po,none⟩:=fE ⟨by omega,by omega⟩
  obtain ⟨st2,l2⟩:=f2 _ his
  rw [his]
  obtain ⟨p,hp,h1,h2⟩:=yY h0
  have hE:=dK hp
  rw [C9 dc.f.wf hj hp h1 h2] at hk
  have kk:Keep (fun b y=>b=U∧y=85) w2 (w2.setCell ⟨U,85,none⟩ (.pointer (some ⟨pb,po,none⟩))):=bW ⟨rfl,rfl⟩
  have hkv3:=hkv2.keep kk fun a n c e _ o h=>(hvi a n c e).1 h.1
  obtain ⟨⟨sv,s1,s2⟩,⟨ev,e1,e2⟩,⟨kv,k1,k2⟩,_⟩:=(dc.f.cur st2.R rfl h0).o (dc.f.inc st2.R)
  obtain ⟨ka,kc,rfl⟩:=k2.form
  obtain ⟨sa,sc,rfl⟩:=ak e2
  have q86':=st2.p.d86
  have q82:=st2.p.d82
  have q85':=st2.p.d85
  have fU3:=st2.p.fU
  simp (disch:=first | exact dZ | fail) only [go_sem,q85,fU2,Option.isNone_some]
  refine jR k1 ?_
  by_cases hem:G[j]!.ks=[]
  ·obtain ⟨e1,e2⟩:=nZ hp h1 h2 hem
   rw [hem]
   simp (disch:=first | exact dZ | fail) only [go_sem,List.length_nil,q86',q85',fU3]
   obtain ⟨st3,l3⟩:=tD dc st2 0
   refine hk _ D S2 _ ⟨Q,vc,vk,vb,xs,xb,cc,lk,_,0,_,st3,.inr ⟨his.symm,.inl ⟨p,rfl,hp,.inl ⟨by rw [e1]; exact hem,rfl,by rw [e1]⟩⟩⟩⟩ (l2.trans l3) ⟨fun i hi hi2 => ?_,fun h=>absurd ⟨by omega,by omega⟩ h⟩
   obtain rfl:i=p:=by omega
   refine ⟨pb,po,G[j]!,rfl,(dc.f.cur st3.R rfl h0).o (dc.f.inc st3.R),?_⟩
   rw [gx hp,e1,e2]
   exact ⟨rfl,rfl,rfl,_,h0,rfl⟩
  ·have hem':decide (G[j]!.ks.length=0)=false:=by
     rw [decide_eq_false_iff_not]; intro h; exact hem (aZ.1 h)
   rw [hem']
   have hcmp:=dc.f.inc st2.R _ _ _ dc.cmp0
   refine an ?_
   refine ay (sq [0,1,2] (.read 3 (sq [4,5] (.read 6 (sq [7,8,9] (.read 10 (sq [11,12] (.read 13 (sq [14] (.eff 15 [] (sq [16] .done))))))))))) ?_
   refine fI @q82 @hcmp @q85' @e1 ?_
   refine cQ (by exact e2) (by exact hkv3) ?_
   by_cases hlt:G[j]!.e < key
   ·have hlt':ct G[j]!.e key < 0:=db.2 hlt
    have e:=BD hj hp h1 h2 hlt
    refine bf @hlt' ?_
    obtain ⟨hR3,p3,r3⟩:=st2
    refine jk (p:=p) dc (by exact l2.trans ⟨fun _ h => .inl h,fun _ h => .inl h,(Keep.refl _ _).drew⟩) ⟨dc.f.keep hR3 (M:=fun _ _=>False) (bj.refl _).drew' fun _ _ _ h=>h.elim,p3.drew,r3.drew⟩ hp (by omega) fun w3 D3 S3 v r1 r2 r3 => ?_
    refine an ?_
    exact hk w3 D3 S3 v r1 r2 r3
   ·have hlt':¬ ct G[j]!.e key < 0:=fun h=>hlt (db.1 h)
    refine bf @hlt' ?_
    obtain ⟨hR3,p3,r3⟩:=st2
    refine wY (p:=p) (j:=j) dc (by exact ⟨dc.f.keep hR3 (M:=fun _ _=>False) (bj.refl _).drew' fun _ _ _ h=>h.elim,p3.drew,r3.drew⟩) hp h1 h2 rfl hem fun w4 D4 S4 Q4 vc4 vk4 vb4 xs4 xb4 cc4 lk4 v st4 l4 => ?_
    have l4:=(l2.trans ⟨fun _ h => .inl h,fun _ h => .inl h,(Keep.refl _ _).drew⟩).trans l4
    have r85:=st4.p.d85
    have r86:=st4.p.d86
    have r84:=st4.p.d84
    have r82:=st4.p.fU
    by_cases hz:fk G p=G.length
    ·rw [eR (by omega)] at st4 r85
     simp (disch:=first | exact dZ | fail) only [go_sem,r85,Option.isNone_none,r84]
     refine dc.f.error st4.R fun w5 hR5 x5 => ?_
     obtain ⟨p5,t5,_⟩:=dc.below st4.R st4.p st4.r x5.keep (S2:=S4) fun _ h => .inl h
     have st5:DSt d w5 U Bf C rt rv T R D4 S4 Q4 vc4 vk4 vb4 xs4 xb4 cc4 lk4 none 1 (fk G p):=⟨hR5,p5,t5⟩
     have l5:=l4.trans ⟨fun _ h => .inl h,fun _ h => .inl h,x5.keep⟩
     have u86:=p5.d86
     have u84:=p5.d84
     refine dU @u86 @u84 ?_
     refine dc.f.prev st5.R (by omega) fun w6 S6 hR6 hS6 k6 => ?_
     obtain ⟨v85,v86,_,vU,f6⟩:=kO dc st5 hR6 hS6 k6
     rw [show gH pb po G ((fk G p:Int) - 1) = .pointer (gK pb po G ((fk G p:Int) - 1)) from cW ..]
     have his6:gK pb po G ((fk G p:Int) - 1)=some ⟨pb,po,none⟩:=fE ⟨by omega,by omega⟩
     obtain ⟨st6,l6⟩:=f6 _ his6
     rw [his6]
     refine dU @v85 @vU ?_
     refine jk (p:=p) dc (l5.trans l6) st6 hp (by omega) fun w7 D7 S7 v r1 r2 r3 => ?_
     refine an ?_
     exact hk w7 D7 S7 v r1 r2 r3
    ·rw [fE ⟨by omega,by omega⟩] at st4 r85
     simp (disch:=first | exact dZ | fail) only [go_sem,r85,Option.isNone_some]
     refine dU @r86 @r84 ?_
     refine dc.f.prev st4.R (by omega) fun w6 S6 hR6 hS6 k6 => ?_
     obtain ⟨v85,v86,_,vU,f6⟩:=kO dc st4 hR6 hS6 k6
     rw [show gH pb po G ((fk G p:Int) - 1) = .pointer (gK pb po G ((fk G p:Int) - 1)) from cW ..]
     have his6:gK pb po G ((fk G p:Int) - 1)=some ⟨pb,po,none⟩:=fE ⟨by omega,by omega⟩
     obtain ⟨st6,l6⟩:=f6 _ his6
     rw [his6]
     refine dU @v85 @vU ?_
     refine jk (p:=p) dc (l4.trans l6) st6 hp (by omega) fun w7 D7 S7 v r1 r2 r3 => ?_
     refine an ?_
     exact hk w7 D7 S7 v r1 r2 r3
 ·have e:dt G key = -1:=by omega
  rw [C8 e] at hk
  have his:gK pb po G (dt G key)=none:=eR (by omega)
  obtain ⟨st2,l2⟩:=f2 _ his
  rw [his]
  simp (disch:=first | exact dZ | fail) only [go_sem,q85,fU2,Option.isNone_none,q86]
  obtain ⟨st3,l3⟩:=tD dc st2 0
  exact ru (l2.trans l3) st3 his.symm (.inr ⟨rfl,by omega⟩) hk
end
end Go.Proofs
end
section
namespace Go.E
open Go Go.Sort Go.Proofs
def str (l:Bytes):Value := .string ⟨l.toArray⟩
abbrev iK (α:Type):=World→List Value→α→Prop
def iP {α:Type} (R:iK α):Prop:=∀ w w2 cs x,cN w w2→R w cs x→R w2 cs x
def Ej {α:Type} (R:iK α) (sz:Nat) (w:World) (b o:Nat) (x:α):Prop:=∃ cs:List Value,cs.length=sz∧(∀ i u,cs[i]? = some u→w.cell? ⟨b,o+i,none⟩=some u)∧R w cs x
theorem Ej.mono {α:Type} {R:iK α} {sz:Nat} (h:iP R):Ck (Ej R sz):=fun _ _ _ _ _ hi ⟨cs,h1,h2,h3⟩=>⟨cs,h1,fun i u hu=>hi _ _ _ (h2 i u hu),h _ _ _ _ hi h3⟩
abbrev Sl {α:Type} (R:iK α) (sz:Nat) (w:World) (v:Value) (l:List α):Prop:=fC (Ej R sz) sz w v l
theorem Sl.inc {α:Type} {R:iK α} {sz:Nat} {w w2:World} {v:Value} {l:List α} (hm:iP R) (h:Sl R sz w v l) (hi:cN w w2):Sl R sz w2 v l:=fC.inc (Ej.mono hm) h hi
theorem Sl.nil {α:Type} {R:iK α} {sz:Nat} {w:World} {c:Nat}:Sl R sz w (.slice none 0 c) []:=⟨rfl,rfl⟩
structure OwnL {α:Type} (R:iK α) (sz:Nat) (el:TypeId) (d w:World) (v:Value) (l:List α) (css:List (List Value)):Prop where
 len:css.length=l.length
 own:w.ownsRow 0 el sz v l.length css.flatten
 sz:∀ cs ∈ css,cs.length=sz
 R:∀ (i:Nat) (x:α) (cs:List Value),l[i]? = some x→css[i]? = some cs→R d cs x
 out:∀ g,v.ownBlock=some g→cx d g
section
variable {α:Type} {R:iK α} {sz:Nat} {el:TypeId} {d d2 w w2:World} {v:Value} {l:List α} {css:List (List Value)}
theorem OwnL.nil (h:w.ownsRow 0 el sz (.slice none 0 0) 0 []):OwnL R sz el d w (.slice none 0 0) [] []:=⟨rfl,h,by simp,by simp,by simp [Value.ownBlock]⟩
theorem OwnL.drew (h:OwnL R sz el d w v l css):OwnL R sz el d w.drew v l css:=⟨h.len,h.own.drew,h.sz,h.R,h.out⟩
theorem OwnL.keep {M:Nat→Nat→Prop} (h:OwnL R sz el d w v l css) (hk:Keep M w w2) (hm:∀ g,v.ownBlock=some g→∀ o,¬ M g o):OwnL R sz el d w2 v l css:=⟨h.len,aT h.own hk hm,h.sz,h.R,h.out⟩
theorem OwnL.ext (h:OwnL R sz el d w v l css) (hk:bj w w2):OwnL R sz el d w2 v l css:=h.keep hk fun _ _ _ h=>h
theorem OwnL.ghost (h:OwnL R sz el d w v l css) (hm:iP R) (hi:cN d d2) (ho:∀ g,v.ownBlock=some g→cx d2 g):OwnL R sz el d2 w v l css:=⟨h.len,h.own,h.sz,fun i x cs h1 h2=>hm _ _ _ _ hi (h.R i x cs h1 h2),ho⟩
theorem OwnL.form (h:OwnL R sz el d w v l css):∃ a c,v = .slice a l.length c∧l.length≤c∧c≤9223372036854775807:=by
 obtain ⟨a,c,h1,h2,h3⟩:=ao h.own
 exact ⟨a,c,h1,h2,h3⟩
theorem wj {css:List (List Value)} (h:∀ cs ∈ css,cs.length=sz):css.flatten.length=css.length * sz:=by
 induction css with
 | nil=>simp
 | cons c css ih =>
  have h1:=h c aO
  have h2:=ih fun cs hcs=>h cs (aj _ hcs)
  rw [List.flatten_cons,aJ,h1,h2,aY,Nat.add_mul]
  omega
theorem ry {css:List (List Value)} (h:∀ cs ∈ css,cs.length=sz) {i j:Nat} {cs:List Value} {u:Value} (hi:css[i]? = some cs) (hj:cs[j]? = some u):css.flatten[i * sz+j]? = some u:=by
 induction css generalizing i with
 | nil=>simp at hi
 | cons c css ih =>
  have h1:=h c aO
  rw [List.flatten_cons]
  cases i with
  | zero =>
   simp only [List.getElem?_cons_zero,aL] at hi
   subst hi
   rw [Nat.zero_mul,Nat.zero_add,bV (aR.1 hj).1]
   exact hj
  | succ i =>
   rw [List.getElem?_cons_succ] at hi
   have:=ih (fun cs hcs=>h cs (aj _ hcs)) hi
   rw [bC (by rw [h1,Nat.add_mul]; omega),h1,show (i+1) * sz+j - sz=i * sz+j by rw [Nat.add_mul]; omega]
   exact this
theorem OwnL.sl (h:OwnL R sz el d w v l css) (hm:iP R) (hi:cN d d2) (hb:∀ g,v.ownBlock=some g→∀ o u,w.cell? ⟨g,o,none⟩=some u→d2.cell? ⟨g,o,none⟩=some u):Sl R sz d2 v l:=by
 have ho:=h.own
 rcases cR ho with ⟨rfl,h0,_⟩ | ⟨g,cap,rfl,hc,hg⟩
 ·exact ⟨rfl,aZ.1 h0⟩
 ·refine ⟨fun _=>rfl,rfl,hc,fun i x hx => ?_⟩
  have hlt:=(aR.1 hx).1
  obtain ⟨cs,hcs⟩:∃ cs,css[i]? = some cs:=⟨_,aC (by rw [h.len]; exact hlt)⟩
  refine ⟨cs,h.sz cs (aK hcs),fun j u hu => ?_,hm _ _ _ _ hi (h.R i x cs hx hcs)⟩
  have:=bL ho (ry h.sz hcs hu)
  rw [show 0+i * sz+j=i * sz+j by omega]
  exact hb g rfl _ _ this
theorem OwnL.cell {g cap:Nat} (h:OwnL R sz el d w (.slice (some ⟨g,0,none⟩) l.length cap) l css) {i j:Nat} {cs:List Value} {u:Value} (hi:css[i]? = some cs) (hj:cs[j]? = some u):w.cell? ⟨g,i * sz+j,none⟩=some u:=bL h.own (ry h.sz hi hj)
end
structure Gr (d w d2 w2:World):Prop where
 x:bj w w2
 i:cN d d2
 j:cN d2 w2
 o:∀ b,b < w.heap.size→cx d b→cx d2 b
theorem Gr.refl {d w:World} (h:cN d w):Gr d w d w:=⟨bj.refl w,cN.refl d,h,fun _ _ h=>h⟩
theorem Gr.ext {d w w2:World} (h:cN d w) (x:bj w w2):Gr d w d w2:=⟨x,cN.refl d,h.trans x.inc,fun _ _ h=>h⟩
theorem Gr.trans {d w d2 w2 d3 w3:World} (h:Gr d w d2 w2) (h2:Gr d2 w2 d3 w3):Gr d w d3 w3:=⟨h.x.trans h2.x,h.i.trans h2.i,h2.j,fun b hb ho=>h2.o b (aI hb h.x.size) (h.o b hb ho)⟩
theorem Gr.drew {d w d2 w2:World} (h:Gr d w d2 w2):Gr d w d2 w2.drew:=⟨Keep.drew h.x,h.i,h.j,h.o⟩
open Classical in
theorem OwnL.grown {α:Type} {R:iK α} {sz:Nat} {el:TypeId} {d d1 w w1:World} {v:Value} {l:List α} {css:List (List Value)} (h:OwnL R sz el d1 w1 v l css) (hm:iP R) (g:Gr d w d1 w1) (hn:∀ b,v.ownBlock=some b→w.heap.size≤b) :
    ∃ d2,Gr d w d2 w1∧cN d1 d2∧(∀ b,cx d1 b→v.ownBlock≠some b→cx d2 b)∧Sl R sz d2 v l:=by
 let D:Nat→Bool:=fun b=>decide (¬ cx d1 b∨v.ownBlock=some b)
 have hD:∀ b o u,d1.cell? ⟨b,o,none⟩=some u→D b=true:=fun b o u hu=>aU (.inl fun ho=>by rw [ho o] at hu; simp at hu)
 have i2:cN d1 (only w1 D):=rZ g.j D hD
 have oo:∀ b,cx d1 b→v.ownBlock≠some b→cx (only w1 D) b:=fun b h1 h2=>rY w1 D (aF fun h=>h.elim (fun h=>h h1) h2)
 refine ⟨only w1 D,⟨g.x,g.i.trans i2,rX w1 D,fun b hb ho=>oo b (g.o b hb ho) fun hv => ?_⟩,i2,oo,h.sl hm i2 fun b hb o u hu => ?_⟩
 ·have:=hn b hv; omega
 ·rw [jQ,show D b=true from aU (.inr hb),if_pos rfl]
  exact hu
theorem ju {P:Program} {α:Type} {R:iK α} {sz by_ n:Nat} {t ty el:TypeId} {d w W:World} {v:Value} {l:List α} {css:List (List Value)} {C:Array Value} {q:au} (x:α) (cs:List Value) (row:iA P t=some (el,sz,by_)) (h:OwnL R sz el d w v l css)
    (hx:R d cs x) (hC:C=cs.toArray) (hW:W=w.alloc (.cells C el)∨W=(w.alloc (.cells C el)).drew) (hn:n=w.heap.size) (hs:cs.length=sz) (h1:∀ u ∈ cs,u.oneCell'=true) (hb:(l.length+1) * (by_+1)≤140737488355328) (hinc:cN d w)
    (hk:∀ v2 w2,OwnL R sz el d w2 v2 (l++[x]) (css++[cs])→Keep (fun b _=>v.ownBlock=some b) w w2→cP w v v2→cN d w2→(∃ a c,v2 = .slice a (l.length+1) c)→q v2 w2) :
    lY P #[t,t] ty #[v,.slice (some ⟨n,0,none⟩) 1 1] q W:=by
 subst hC hn
 have k4:bj w W:=by
  rcases hW with rfl | rfl
  ·exact aM _
  ·exact Keep.drew (aM _)
 have c4:∀ o,W.cell? ⟨w.heap.size,o,none⟩=cs.toArray[o]? := fun o=>by
  rcases hW with rfl | rfl
  ·exact aA (aE _) (Nat.lt_succ_self _)
  ·rw [show (w.alloc (Obj.cells cs.toArray el)).drew.cell? ⟨w.heap.size,o,none⟩=(w.alloc (Obj.cells cs.toArray el)).cell? ⟨w.heap.size,o,none⟩ from rfl]
   exact aA (aE _) (Nat.lt_succ_self _)
 simp only [lY]
 refine lW (m:=1) (news:=cs) row (aT h.own k4 (fun _ _ _ h=>h)) (by rw [Nat.one_mul]; exact hs) ⟨rfl,?_⟩ h1 hb fun v5 w5 o5 k5 n5 _ => ?_
 ·intro j u hj
  rw [df rfl,Nat.zero_add,c4]
  simpa using hj
 ·have kk5:Keep (fun b _=>v.ownBlock=some b) w w5:=k4.keep.trans (k5 _ fun b o hb _=>hb)
  have nw:cP w v v5:=fun g hg=>by
   rcases n5 with h | ⟨g2,h,h',_⟩
   ·exact .inl (by rw [← h]; exact hg)
   ·rw [h] at hg
    simp only [aL] at hg
    subst hg
    have:=k4.size
    exact .inr (by omega)
  have i5:cN d w5:=hinc.keep kk5 fun b o hb=>h.out b hb o
  obtain ⟨a5,c5,e5,_⟩:=ao o5
  refine hk v5 w5 ⟨by simp [h.len],?_,?_,?_,?_⟩ kk5 nw i5 ⟨a5,c5,e5⟩
  ·rw [List.flatten_append,aJ]
   simpa using o5
  ·intro c hc
   rcases aV.1 hc with hc | hc
   ·exact h.sz c hc
   ·rw [aQ.1 hc]; exact hs
  ·intro i y c hy hc
   rcases dB i l.length with hi | hi | hi
   ·rw [bV hi] at hy
    rw [bV (by rw [h.len]; exact hi)] at hc
    exact h.R i y c hy hc
   ·subst hi
    rw [bC (aE _),Nat.sub_self] at hy
    rw [bC (by rw [h.len]; exact aE _),h.len,Nat.sub_self] at hc
    simp only [List.getElem?_cons_zero,aL] at hy hc
    subst hy hc
    exact hx
   ·have:=(aR.1 hy).1
    rw [aJ,ar] at this
    omega
  ·intro g hg
   rcases nw g hg with h' | h'
   ·exact h.out g h'
   ·exact hinc.out h'
theorem bw {α:Type} {l:List α} {i:Nat} {x:α} (h:l[i]? = some x):l.take (i+1)=l.take i++[x]:=by
 rw [List.take_add_one,h]; rfl
theorem dS {α:Type} {l:List α} {i:Nat} (h:i≤l.length):(l.take i).length=i:=by rw [bB]; omega
theorem dq {w:World} {el:TypeId} {sz:Nat}:w.ownsRow 0 el sz (.slice none 0 0) 0 []:=⟨by simp,.inl ⟨rfl,rfl⟩⟩
structure LoopL {α:Type} (R:iK α) (sz:Nat) (el:TypeId) (d w d1 w1:World) (v:Value) (l:List α):Prop where
 g:Gr d w d1 w1
 o:∃ css,OwnL R sz el d1 w1 v l css
 n:∀ b,v.ownBlock=some b→w.heap.size≤b
section
variable {α:Type} {R:iK α} {sz:Nat} {el:TypeId} {d w d1 w1 d2 w2:World} {v v2:Value} {l:List α}
theorem LoopL.nil (h:cN d w):LoopL R sz el d w d w (.slice none 0 0) []:=⟨Gr.refl h,⟨[],OwnL.nil dq⟩,by simp [Value.ownBlock]⟩
theorem LoopL.form (h:LoopL R sz el d w d1 w1 v l):∃ a c,v = .slice a l.length c∧l.length≤c∧c≤9223372036854775807:=by
 obtain ⟨css,o⟩:=h.o
 exact o.form
theorem LoopL.call (h:LoopL R sz el d w d1 w1 v l) (hm:iP R) (g:Gr d1 w1 d2 w2):LoopL R sz el d w d2 w2 v l:=by
 obtain ⟨css,o⟩:=h.o
 exact ⟨h.g.trans g,⟨css,(o.ext g.x).ghost hm g.i fun b hb=>g.o b (o.own.lt _ hb).2 (o.out b hb)⟩,h.n⟩
theorem LoopL.ext (h:LoopL R sz el d w d1 w1 v l) (hm:iP R) (x:bj w1 w2):LoopL R sz el d w d1 w2 v l:=h.call hm (Gr.ext h.g.j x)
theorem LoopL.more (h:LoopL R sz el d w d1 w1 v l) {l2:List α} {css:List (List Value)} (o:OwnL R sz el d1 w2 v2 l2 css) (k:Keep (fun b _=>v.ownBlock=some b) w1 w2) (n:cP w1 v v2) (j:cN d1 w2):LoopL R sz el d w d1 w2 v2 l2:=by
 have hx:bj w w2:=h.g.x.tr k fun b o hb hm=>by have:=h.n b hm; omega
 refine ⟨⟨hx,h.g.i,j,h.g.o⟩,⟨css,o⟩,fun b hb => ?_⟩
 rcases n b hb with h' | h'
 ·exact h.n b h'
 ·exact ai h.g.x.size h'
theorem LoopL.done (h:LoopL R sz el d w d1 w1 v l) (hm:iP R):∃ d2,Gr d w d2 w1∧cN d1 d2∧(∀ b,cx d1 b→v.ownBlock≠some b→cx d2 b)∧Sl R sz d2 v l:=by
 obtain ⟨css,o⟩:=h.o
 exact o.grown hm h.g h.n
end
theorem zq (l:Bytes):(str l).oneCell'=true:=rfl
end Go.E
end
section
namespace Go.E
open Go Go.Sort Go.Proofs Go.Proofs.Tryz
def KE:iK K:=fun _ cs x=>cs=[.int .u64 x.tr,str x.suf,str x.val]∧x.tr < 18446744073709551616
theorem KE.mono:iP KE:=fun _ _ _ _ _ h=>h
def eJ:iK Sp:=fun w cs x=>∃ v,cs=[str x.s,str x.e,v]∧Sl KE 3 w v x.ks
theorem eJ.mono:iP eJ:=fun _ _ _ _ hi ⟨v,h1,h2⟩=>⟨v,h1,h2.inc KE.mono hi⟩
theorem cC {w w2:World} {b o:Nat} {v:Value} (h:bj w w2) (hb:w.heap.size≤b):bj w (w2.setCell ⟨b,o,none⟩ v):=Keep.set h fun hb2=>by omega
end Go.E
namespace Go.Proofs
open Go Go.E Go.Sort Go.Proofs.Tryz
section
variable {k:au} {d w:World}
theorem m8 {v:Value} {ks:List K} (hv:fC ku 3 w v ks) (hl:ks.length < 1000000) (hinc:cN d w) (hk:∀ d' w' v',Gr d w d' w'→Sl KE 3 d' v' ks→k v' w'):aX prog 92 #[v] k w:=by
 obtain ⟨ka,kc,rfl⟩:=hv.form
 refine ae [.tmp 2] func92 ?_
 refine an ?_
 refine bR (fun b:Nat × Value=>[(3,b.2),(6,.slice ka ks.length kc),(7,.int .i64 ks.length),(8,.int .i64 b.1)])
  (fun b w'=>b.1≤ks.length∧LoopL KE 3 62 d w d w' b.2 (ks.take b.1)) (fun b _=>ks.length - b.1) (0,.slice none 0 0) (by kernel_rfl) ?_ ⟨aP _,LoopL.nil hinc⟩ ?_
 ·exact bO
 rintro K2 e ⟨i,v⟩ w1 ⟨i2,i3⟩ hK2
 simp only at i2 i3
 by_cases hi:i < ks.length
 ·have hi':(i:Int) < ks.length:=by omega
  obtain ⟨g,f,c,hv',hc,hat⟩:=(hv.inc ku.mono i3.g.x.inc).at (by omega)
  obtain ⟨rfl,rfl⟩:=sEq hv'
  obtain ⟨x,hx⟩:=gEl hi
  obtain ⟨h1,h2,⟨sv,h3,h4⟩,vv,h5,h6⟩:=hat i x hx
  obtain ⟨sa,sc,rfl⟩:=ak h4
  obtain ⟨va,vc,rfl⟩:=ak h6
  simp (disch:=first | exact dZ | fail) only [go_sem,hi',h1,h3,h5,im (h4.inc (bj.inc (aM _))),im (h6.inc (bj.inc (aM _)))]
  obtain ⟨w3,hw3⟩:∃ w3,w3=w1.alloc (.cells #[.int .u64 x.tr,.slice sa x.suf.length sc,.slice va x.val.length vc] 256):=⟨_,rfl⟩
  rw [← hw3]
  have i4:=i3.ext KE.mono (w2:=w3) (by rw [hw3]; exact aM _)
  obtain ⟨css,o4⟩:=i4.o
  refine ju x [.int .u64 x.tr,str x.suf,str x.val] rw54 o4 ⟨rfl,h2⟩ rfl (.inl rfl) (by rw [hw3,World.size_alloc]) rfl (by simp [Value.oneCell',str]) (by rw [dS i2]; omega) i4.g.j fun v2 w2 o2 k2 n2 j2 _ => ?_
  refine an ?_
  refine hK2 _ _ (i+1,v2) ?_ ⟨hi,?_⟩ (by simp only; omega)
  ·exact bO
  ·rw [bw hx]
   exact i4.more o2 k2 n2 j2
 ·have hi':¬ (i:Int) < ks.length:=by omega
  refine bf @hi' ?_
  obtain rfl:i=ks.length:=by omega
  rw [ah] at i3
  obtain ⟨d2,g2,_,_,s2⟩:=i3.done KE.mono
  exact hk d2 w1 v g2 s2
theorem jv {sv ev kv tv:Value} {x:Sp} (hs:eN w sv x.s) (he:eN w ev x.e) (hv:fC ku 3 w kv x.ks) (ht:∃ n,tv = .int .i8 n) (hl:x.ks.length < 1000000) (hinc:cN d w)
    (hk:∀ d' w' v',Gr d w d' w'→Sl KE 3 d' v' x.ks→k (.agg #[str x.s,str x.e,v']) w'):aX prog 88 #[.agg #[sv,ev,kv,tv]] k w:=by
 obtain ⟨sa,sc,rfl⟩:=ak hs
 obtain ⟨ea,ec,rfl⟩:=ak he
 obtain ⟨ka,kc,rfl⟩:=hv.form
 obtain ⟨tn,rfl⟩:=ht
 have hx:∀ ob ob2,cN w ((w.alloc ob).alloc ob2).drew:=fun ob ob2=>bj.inc (Keep.drew ((aM ob).trans (aM ob2)))
 refine ae [.cell 2 56] func88 ?_
 refine an ?_
 refine ay (sq [0] (.read 1 (.read 2 (sq [3] (.read 4 (.read 5 (sq [6] (.read 7 (.eff 8 [1,2,4,5] (sq [9] (.eff 10 [] .done))))))))))) ?_
 simp (disch:=first | exact dZ | fail) only [go_sem,im (hs.inc (hx _ _)),im (he.inc (hx _ _))]
 obtain ⟨w1,hw1⟩:∃ w1,w1=((w.alloc (.cells #[.slice sa x.s.length sc,.slice ea x.e.length ec,.slice ka x.ks.length kc,.int .i8 tn] 114)).alloc (.cells #[.string .empty,.string .empty,.slice none 0 0] 56)).drew:=⟨_,rfl⟩
 rw [← hw1]
 have k1:bj w w1:=by rw [hw1]; exact Keep.drew ((aM _).trans (aM _))
 have z1:w1.heap.size=w.heap.size+2:=by rw [hw1,World.size_drew,World.size_alloc,World.size_alloc]
 obtain ⟨b,hb⟩:∃ b,b=w.heap.size:=⟨_,rfl⟩
 have a0:w1.cell? ⟨b,0,none⟩=some (.slice sa x.s.length sc):=by rw [hw1,hb]; exact bk @aA
 have a1:w1.cell? ⟨b,1,none⟩=some (.slice ea x.e.length ec):=by rw [hw1,hb]; exact bk @aA
 have a2:w1.cell? ⟨b,2,none⟩=some (.slice ka x.ks.length kc):=by rw [hw1,hb]; exact bk @aA
 have b0:w1.cell? ⟨b+1,0,none⟩=some (.string .empty):=by rw [hw1,hb]; exact bk @aA
 have b1:w1.cell? ⟨b+1,1,none⟩=some (.string .empty):=by rw [hw1,hb]; exact bk @aA
 have b2:w1.cell? ⟨b+1,2,none⟩=some (.slice none 0 0):=by rw [hw1,hb]; exact bk @aA
 have f1:∀ o,w1.frozen? ⟨b+1,o,none⟩=false:=fun o=>by rw [hw1,hb]; simp (disch:=first | exact dZ | fail) only [go_sem]
 rw [← hb]
 refine m8 (d:=d) (hv.inc ku.mono k1.inc) hl (hinc.trans k1.inc) fun d2 w2 v2 g2 s2 => ?_
 obtain ⟨va,vc,rfl⟩:=s2.form
 have a0:=g2.x.cell a0
 have a1:=g2.x.cell a1
 have a2:=g2.x.cell a2
 have b0:=g2.x.cell b0
 have b1:=g2.x.cell b1
 have b2:=g2.x.cell b2
 have f2:∀ o,w2.frozen? ⟨b+1,o,none⟩=false:=fun o=>by rw [g2.x.frozen _ o (by omega)]; exact f1 o
 have k2:=k1.trans g2.x
 simp (disch:=first | exact dZ | fail) only [go_sem,im (hs.inc k2.inc),im (he.inc k2.inc),a0,a1,a2,b0,b1,b2,f2]
 refine hk d2 _ _ ⟨cC (cC (cC k2 (by omega)) (by omega)) (by omega),g2.i,?_,fun c hc ho=>g2.o c (aI hc k1.size) ho⟩ s2
 have ho:cx d2 (b+1):=g2.o _ (by omega) (hinc.out (by omega))
 exact ((g2.j.set ho).set ho).set ho
end
end Go.Proofs
end
