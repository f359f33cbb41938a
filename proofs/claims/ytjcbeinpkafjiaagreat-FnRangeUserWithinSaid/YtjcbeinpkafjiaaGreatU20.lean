/- Parts of the proof: Dm, Pa, Wa. -/
import Derived.Test.YtjcbeinpkafjiaaGreatU19
set_option linter.all false
section
set_option maxRecDepth 10000
namespace Go.E
open Go Go.Sort Go.Proofs Go.Proofs.Tryz
theorem thr_spec (P:Nat→Bool) (N:Nat):thr P N≤N∧(∀ i,i < thr P N→P i=true)∧(thr P N < N→P (thr P N)=false):=by
 induction N generalizing P with
 | zero=>exact ⟨Nat.le_refl _,fun i h=>by simp [thr] at h,fun h=>by simp [thr] at h⟩
 | succ N ih =>
  unfold thr
  split
  ·rename_i h
   obtain ⟨a,b,c⟩:=ih fun i=>P (i+1)
   refine ⟨by omega,fun i hi => ?_,fun hl=>c (by omega)⟩
   cases i with
   | zero=>exact h
   | succ i=>exact b i (by omega)
  ·rename_i h
   exact ⟨Nat.zero_le _,fun i hi=>by omega,fun _=>by simpa using h⟩
section
variable {G:List Sp} {key:Bytes}
theorem skGE_spec (G:List Sp) (key:Bytes):skGE G key≤G.length∧(∀ i,i < skGE G key→¬ key < G[i]!.e)∧(skGE G key < G.length→key < G[skGE G key]!.e):=by
 obtain ⟨a,b,c⟩:=thr_spec (fun j=>decide (¬ key < G[j]!.e)) G.length
 exact ⟨a,fun i hi=>of_decide_eq_true (b i hi),fun h=>Classical.not_not.1 (of_decide_eq_false (c h))⟩
theorem skLT_spec (G:List Sp) (key:Bytes) : -1≤skLT G key∧skLT G key < G.length∧(∀ i:Nat,i≤skLT G key→G[i]!.s < key)∧(∀ j:Nat,skLT G key+1=j→j < G.length→¬ G[j]!.s < key):=by
 obtain ⟨a,b,c⟩:=thr_spec (fun j=>decide (G[j]!.s < key)) G.length
 unfold skLT
 refine ⟨by omega,by omega,fun i hi=>by simpa using b i (by omega),fun j e h => ?_⟩
 obtain rfl:thr (fun j=>decide (G[j]!.s < key)) G.length=j:=by omega
 simpa using c h
theorem skGE_end (h:skGE G key=G.length):skGE (Vw G) key=(sts G).length:=by
 obtain ⟨_,b,_⟩:=skGE_spec G key
 refine skGE_eq (by rw [Vw_length]; omega) (fun i hi => ?_) (fun h=>by rw [Vw_length] at h; omega)
 rw [Vw_at hi]
 have:=stE_gt hi
 exact b _ (by omega)
theorem stE_le {i p:Nat} (h:i < p) (hp:p < (sts G).length):stE G i≤(sts G)[p]! := by
 rw [stE_succ (by omega)]
 rcases Nat.lt_or_eq_of_le (show i+1≤p from h) with h1 | h1
 ·exact Nat.le_of_lt ((sIdx sts_sorted (sts_at (by omega)) (sts_at hp)).2 h1)
 ·rw [h1]; exact Nat.le_refl _
theorem skGE_run (wf:Wf G) {p:Nat} (hp:p < (sts G).length) (h1:(sts G)[p]! ≤ skGE G key) (h2:skGE G key < stE G p):skGE (Vw G) key=p:=by
 obtain ⟨_,b,c⟩:=skGE_spec G key
 have he:=stE_gt hp
 refine skGE_eq (by rw [Vw_length]; omega) (fun i hi => ?_) (fun _ => ?_)
 ·rw [Vw_at (by omega)]
  have:=stE_le hi hp
  have:=stE_gt (G:=G) (p:=i) (by omega)
  exact b _ (by omega)
 ·rw [Vw_at hp]
  have a:=c (by omega)
  have:=wf.ends (i:=skGE G key) (j:=stE G p - 1) (by omega) (by omega)
  show key < G[stE G p - 1]!.e
  grind
theorem skGE_start {p:Nat} (hp:p < (sts G).length) (h1:(sts G)[p]! ≤ skGE G key) (h2:skGE G key < stE G p) (hs:key < G[skGE G key]!.s):skGE G key=(sts G)[p]! := by
 obtain ⟨_,b,c⟩:=skGE_spec G key
 rcases Nat.lt_or_eq_of_le h1 with h | h
 ·have:=runIn hp (j:=skGE G key - 1) (by omega) (by omega)
  have e:=this.2.1
  rw [show skGE G key - 1+1=skGE G key by omega] at e
  rw [← e] at hs
  exact absurd hs (b _ (by omega))
 ·exact h.symm
theorem skLT_end (h:skLT G key = -1):skLT (Vw G) key = -1:=by
 obtain ⟨_,_,b,c⟩:=skLT_spec G key
 refine skLT_eq (j:=0) (Nat.zero_le _) (fun i hi=>by omega) (fun h0 => ?_)
 rw [Vw_length] at h0
 rw [Vw_at h0]
 have hz:=(sts_mem h0).1
 rw [(sts_zero (by omega)).2]
 exact c 0 (by omega) (by omega)
theorem skLT_run (wf:Wf G) {p j:Nat} (hj:skLT G key=j) (hp:p < (sts G).length) (h1:(sts G)[p]! ≤ j) (h2:j < stE G p):skLT (Vw G) key=p:=by
 obtain ⟨_,_,b,c⟩:=skLT_spec G key
 have he:=stE_gt hp
 have:=skLT_eq (G:=Vw G) (key:=key) (j:=p+1) (by rw [Vw_length]; omega) (fun i hi => ?_) (fun h => ?_)
 ·rw [this]; omega
 ·rw [Vw_at (by omega)]
  rcases Nat.lt_or_eq_of_le (show i≤p by omega) with h | h
  ·have:=stE_le h hp
   have:=stE_gt (G:=G) (p:=i) (by omega)
   exact b _ (by omega)
  ·subst h
   exact b _ (by omega)
 ·rw [Vw_length] at h
  rw [Vw_at h]
  rw [stE_succ h] at h2
  have hl:=(sts_mem h).1
  have a:=c (j+1) (by omega) (by omega)
  have:=wf.starts (i:=j+1) (j:=(sts G)[p+1]!) (by omega) hl
  show ¬ G[(sts G)[p+1]!]!.s < key
  grind
theorem skLT_stop {p j:Nat} (hj:skLT G key=j) (hp:p < (sts G).length) (h1:(sts G)[p]! ≤ j) (h2:j < stE G p) (hs:G[j]!.e < key):j=stE G p - 1:=by
 obtain ⟨_,_,b,c⟩:=skLT_spec G key
 have he:=stE_gt hp
 rcases Nat.lt_or_ge (j+1) (stE G p) with h | h
 ·have e:=(runIn hp (j:=j) h1 h).2.1
  rw [e] at hs
  exact absurd hs (c (j+1) (by omega) (by omega))
 ·omega
end
end Go.E
namespace Go.Proofs
open Go Go.E Go.Sort Go.Proofs.Tryz
section
variable {k:Kont} {d w w0:World} {U Bf C pb po:Nat} {rt:TypeId} {rv:Value} {G:List Sp} {pF pL:Prop} {pK:Bytes→Prop} {T:Nat→Nat→Prop} {R:World→(Nat→Prop)→Int→Prop} {D S D0 S0:Nat→Prop} {Q:Nat→Nat→Prop} {vc vk vb:Value} {xs xb:List Value} {cc:Nat} {lk:List KR} {is:Option Addr} {ps q:Int} {l:Bytes}
theorem DPrev_run {p:Int} (dc:DC d U Bf C pb po rt rv G pF pL pK T R) (h:De d U Bf C pb po rt rv G T R w D S p) (hp : -1 < p) (hk:DKn d U Bf C pb po rt rv G T R w D S (p - 1) k):callK prog 246 #[.pointer (some ⟨U,81,none⟩)] k w:=by
 obtain ⟨Q,vc,vk,vb,xs,xb,cc,lk,is,ps,q,st,hd⟩:=h
 have q84:=st.p.d84
 have q85:=st.p.d85
 have q86:=st.p.d86
 have fU:=st.p.fU
 refine callZ [.tmp 2] func246 ?_
 rcases hd with h2 | ⟨his,⟨i,rfl,hi,hd⟩ | ⟨h3,hps,hq⟩ | ⟨h3,_,_⟩⟩
 ·omega
 ·have hE:=stE_gt hi
  rcases hd with ⟨h0,hps,hq⟩ | ⟨h0,hps,hq⟩ | ⟨h0,hps,hq⟩
  ·subst hps hq
   simp (disch:=first | exact dZ | fail) only [go_sem,↓reduceIte,Nat.reduceEqDiff,Nat.reduceAdd,n01,n11,n10,q86,q85,Option.isNone_some,q84]
   refine dc.f.prev st.R (by omega) fun w2 S2 hR2 hS2 k2 => ?_
   obtain ⟨q85',q86',_,fU2,f2⟩:=kept2 dc st hR2 hS2 k2
   rw [show fRet pb po G (((sts G)[i]! : Nat) - 1) = .pointer (isP pb po G (((sts G)[i]! : Nat) - 1)) from fRet_ptr ..]
   by_cases hl:0 < i
   ·have e:=stE_succ (G:=G) (p:=i - 1) (by omega)
    rw [show i - 1+1=i by omega] at e
    have hl2:=stE_gt (G:=G) (p:=i - 1) (by omega)
    have his:isP pb po G (((sts G)[i]! : Nat) - 1)=some ⟨pb,po,none⟩:=isP_in ⟨by omega,by omega⟩
    obtain ⟨st2,l2⟩:=f2 _ his
    rw [his]
    simp (disch:=first | exact dZ | fail) only [go_sem,↓reduceIte,Nat.reduceEqDiff,Nat.reduceAdd,q85',fU2,Option.isNone_some]
    refine goB_run (p:=i - 1) dc l2 st2 (by omega) (by omega) fun w3 D3 S3 v r1 r2 r3 => ?_
    refine goZ ?_
    rw [show ((i - 1:Nat):Int)=i - 1 by omega] at r1 r3
    exact hk w3 D3 S3 v r1 r2 r3
   ·obtain rfl:i=0:=by omega
    have e:=(sts_zero (G:=G) (by omega)).2
    have his:isP pb po G (((sts G)[0]! : Nat) - 1)=none:=isP_out (by omega)
    obtain ⟨st2,l2⟩:=f2 _ his
    rw [his]
    simp (disch:=first | exact dZ | fail) only [go_sem,↓reduceIte,Nat.reduceEqDiff,Nat.reduceAdd,q85',fU2,Option.isNone_none]
    exact endD l2 st2 his.symm (.inr ⟨by omega,by omega⟩) hk
  ·subst hps hq
   refine gY5 @n01 @n11 @n10 @q86 @q84 ?_
   refine dc.f.prev st.R (by omega) fun w2 S2 hR2 hS2 k2 => ?_
   obtain ⟨q85',q86',_,fU2,f2⟩:=kept2 dc st hR2 hS2 k2
   rw [show fRet pb po G ((stE G i:Nat) - 1) = .pointer (isP pb po G ((stE G i:Nat) - 1)) from fRet_ptr ..]
   have his2:isP pb po G ((stE G i:Nat) - 1)=some ⟨pb,po,none⟩:=isP_in ⟨by omega,by omega⟩
   obtain ⟨st2,l2⟩:=f2 _ his2
   rw [his2]
   simp (disch:=first | exact dZ | fail) only [go_sem,↓reduceIte,Nat.reduceEqDiff,Nat.reduceAdd,q85',fU2,Option.isNone_some]
   have hsame:=run_same hi (j:=stE G i - 1) (by omega) (by omega)
   refine midB_run (p:=i) (j:=stE G i - 1) dc st2 hi (by omega) (by omega) (by omega) (fun h=>h0 (by rw [h] at hsame; simpa using hsame.symm)) fun w3 D3 S3 Q3 vc3 vk3 vb3 xs3 xb3 cc3 lk3 v st3 l3 => ?_
   have r85:=st3.p.d85
   have r86:=st3.p.d86
   have rU:=st3.p.fU
   by_cases hl:0 < i
   ·have e:=stE_succ (G:=G) (p:=i - 1) (by omega)
    rw [show i - 1+1=i by omega] at e
    have hl2:=stE_gt (G:=G) (p:=i - 1) (by omega)
    rw [isP_in ⟨by omega,by omega⟩] at st3 r85
    simp (disch:=first | exact dZ | fail) only [go_sem,↓reduceIte,Nat.reduceEqDiff,Nat.reduceAdd,r85,Option.isNone_some]
    refine goB_run (p:=i - 1) dc (l2.trans l3) st3 (by omega) (by omega) fun w3 D3 S3 v r1 r2 r3 => ?_
    refine goZ ?_
    rw [show ((i - 1:Nat):Int)=i - 1 by omega] at r1 r3
    exact hk w3 D3 S3 v r1 r2 r3
   ·obtain rfl:i=0:=by omega
    have e:=(sts_zero (G:=G) (by omega)).2
    rw [isP_out (by omega)] at st3 r85
    simp (disch:=first | exact dZ | fail) only [go_sem,↓reduceIte,Nat.reduceEqDiff,Nat.reduceAdd,r86,r85,Option.isNone_none,rU]
    obtain ⟨st4,l4⟩:=posn dc st3 0
    exact endD (l2.trans (l3.trans l4)) st4 (isP_out (by omega)).symm (.inr ⟨by omega,by omega⟩) hk
  ·subst hps hq
   by_cases hl:0 < i
   ·have e:=stE_succ (G:=G) (p:=i - 1) (by omega)
    rw [show i - 1+1=i by omega] at e
    have hl2:=stE_gt (G:=G) (p:=i - 1) (by omega)
    rw [isP_in ⟨by omega,by omega⟩] at his
    subst his
    simp (disch:=first | exact dZ | fail) only [go_sem,↓reduceIte,Nat.reduceEqDiff,Nat.reduceAdd,n01,n11,n10,q86,q85,Option.isNone_some]
    refine goB_run (p:=i - 1) dc (DLt.refl ..) st (by omega) (by omega) fun w3 D3 S3 v r1 r2 r3 => ?_
    refine goZ ?_
    rw [show ((i - 1:Nat):Int)=i - 1 by omega] at r1 r3
    exact hk w3 D3 S3 v r1 r2 r3
   ·obtain rfl:i=0:=by omega
    have e:=(sts_zero (G:=G) (by omega)).2
    rw [isP_out (by omega)] at his
    subst his
    simp (disch:=first | exact dZ | fail) only [go_sem,↓reduceIte,Nat.reduceEqDiff,Nat.reduceAdd,n01,n11,n10,q86,q85,Option.isNone_none,fU]
    obtain ⟨st3,l3⟩:=posn dc st 0
    exact endD l3 st3 (isP_out (by omega)).symm (.inr ⟨by omega,by omega⟩) hk
 ·subst hps hq
  refine gY6 @n01 @n11 @n10 @q86 @q85 @q84 ?_
  refine dc.f.prev st.R (by omega) fun w2 S2 hR2 hS2 k2 => ?_
  obtain ⟨q85',q86',_,fU2,f2⟩:=kept2 dc st hR2 hS2 k2
  rw [show fRet pb po G ((G.length:Nat) - 1) = .pointer (isP pb po G ((G.length:Nat) - 1)) from fRet_ptr ..]
  by_cases h0:0 < G.length
  ·obtain ⟨e1,e2⟩:=sts_zero h0
   have e3:stE G ((sts G).length - 1)=G.length:=stE_last (by omega)
   have his:isP pb po G ((G.length:Nat) - 1)=some ⟨pb,po,none⟩:=isP_in ⟨by omega,by omega⟩
   obtain ⟨st2,l2⟩:=f2 _ his
   rw [his]
   simp (disch:=first | exact dZ | fail) only [go_sem,↓reduceIte,Nat.reduceEqDiff,Nat.reduceAdd,q85',fU2,Option.isNone_some]
   refine goB_run (p:=(sts G).length - 1) dc l2 st2 (by omega) (by omega) fun w3 D3 S3 v r1 r2 r3 => ?_
   refine goZ ?_
   rw [show (((sts G).length - 1:Nat):Int)=p - 1 by omega] at r1 r3
   exact hk w3 D3 S3 v r1 r2 r3
  ·have his:isP pb po G ((G.length:Nat) - 1)=none:=isP_out (by omega)
   have hz:(sts G).length=0:=sts_none (by omega)
   obtain ⟨st2,l2⟩:=f2 _ his
   rw [his]
   simp (disch:=first | exact dZ | fail) only [go_sem,↓reduceIte,Nat.reduceEqDiff,Nat.reduceAdd,q85',fU2,Option.isNone_none]
   exact endD l2 st2 his.symm (.inr ⟨by omega,by omega⟩) hk
 ·omega
theorem DSeekGE_run {p:Int} {kv:Value} {key:Bytes} (dc:DC d U Bf C pb po rt rv G pF pL pK T R) (h:De d U Bf C pb po rt rv G T R w D S p) (hK:pK key) (hkv:Bts w kv key) (hvi:VIn kv fun b=>b≠U∧∀ x,¬ T b x∧¬ S b)
    (hk:DKn d U Bf C pb po rt rv G T R w D S (skGE (Vw G) key) k):callK prog 247 #[.pointer (some ⟨U,81,none⟩),kv] k w:=by
 obtain ⟨Q,vc,vk,vb,xs,xb,cc,lk,is,ps,q,st,_⟩:=h
 obtain ⟨sG1,sG2,sG3⟩:=skGE_spec G key
 have q84:=st.p.d84
 obtain ⟨kva,kvc,rfl⟩:=bts_slice hkv
 refine callZ [.tmp 4] func247 ?_
 refine gY1 @q84 ?_
 refine dc.f.seekGE st.R hK hkv (fun a n c e=>(hvi a n c e).2) fun w2 S2 hR2 hS2 k2 => ?_
 have hkv2:=hkv.keep k2 fun a n c e _ o h=>h.elim ((hvi a n c e).2 o).1 ((hvi a n c e).2 o).2
 obtain ⟨q85,q86,_,fU2,f2⟩:=kept2 dc st hR2 hS2 k2
 rw [show fRet pb po G (skGE G key:Nat) = .pointer (isP pb po G (skGE G key:Nat)) from fRet_ptr ..]
 by_cases h0:skGE G key < G.length
 ·have his:isP pb po G (skGE G key:Nat)=some ⟨pb,po,none⟩:=isP_in ⟨by omega,by omega⟩
  obtain ⟨st2,l2⟩:=f2 _ his
  rw [his]
  obtain ⟨p,hp,h1,h2⟩:=run_of h0
  have hE:=stE_gt hp
  rw [skGE_run dc.f.wf hp h1 h2] at hk
  have kk:Keep (fun b y=>b=U∧y=85) w2 (w2.setCell ⟨U,85,none⟩ (.pointer (some ⟨pb,po,none⟩))):=keep_set ⟨rfl,rfl⟩
  have hkv3:=hkv2.keep kk fun a n c e _ o h=>(hvi a n c e).1 h.1
  obtain ⟨⟨sv,s1,s2⟩,⟨ev,e1,e2⟩,⟨kv,k1,k2⟩,_⟩:=(dc.f.cur st2.R rfl h0).o (dc.f.inc st2.R)
  obtain ⟨ka,kc,rfl⟩:=k2.form
  obtain ⟨sa,sc,rfl⟩:=bts_slice s2
  have q86':=st2.p.d86
  have q82:=st2.p.d82
  have q85':=st2.p.d85
  have fU3:=st2.p.fU
  simp (disch:=first | exact dZ | fail) only [go_sem,↓reduceIte,Nat.reduceEqDiff,Nat.reduceAdd,q85,fU2,Option.isNone_some]
  refine Empty_run k1 ?_
  by_cases hem:G[skGE G key]!.ks=[]
  ·obtain ⟨e1,e2⟩:=run_empty' hp h1 h2 hem
   rw [hem]
   simp (disch:=first | exact dZ | fail) only [go_sem,↓reduceIte,Nat.reduceEqDiff,Nat.reduceAdd,List.length_nil,q86',q85',fU3]
   obtain ⟨st3,l3⟩:=posn dc st2 0
   refine hk _ D S2 _ ⟨Q,vc,vk,vb,xs,xb,cc,lk,_,0,_,st3,.inr ⟨his.symm,.inl ⟨p,rfl,hp,.inl ⟨by rw [e1]; exact hem,rfl,by rw [e1]⟩⟩⟩⟩ (l2.trans l3) ⟨fun i hi hi2 => ?_,fun h=>absurd ⟨by omega,by omega⟩ h⟩
   obtain rfl:i=p:=by omega
   refine ⟨pb,po,G[skGE G key]!,rfl,(dc.f.cur st3.R rfl h0).o (dc.f.inc st3.R),?_⟩
   rw [Vw_at hp,e1,e2]
   exact ⟨rfl,rfl,rfl,_,h0,rfl⟩
  ·have hem':decide (G[skGE G key]!.ks.length=0)=false:=by
     rw [decide_eq_false_iff_not]; intro h; exact hem (List.length_eq_zero_iff.1 h)
   rw [hem']
   have hcmp:=dc.f.inc st2.R _ _ _ dc.cmp0
   refine goZ ?_
   refine drawZ (sq [0,1,2] (.read 3 (sq [4,5] (.read 6 (sq [7,8,9] (.read 10 (sq [11,12] (.read 13 (sq [14] (.eff 15 [] (sq [16] .done))))))))))) ?_
   refine gY4 @q82 @hcmp @q85' @s1 ?_
   refine Compare_run (by exact s2) (by exact hkv3) ?_
   by_cases hlt:key < G[skGE G key]!.s
   ·have hlt':0 < cmpB G[skGE G key]!.s key:=cmpB_gt_zero.2 hlt
    have e:=skGE_start hp h1 h2 hlt
    refine gY1 @hlt' ?_
    obtain ⟨hR3,p3,r3⟩:=st2
    refine goF_run (p:=p) dc (by exact l2.trans ⟨fun _ h => .inl h,fun _ h => .inl h,(Keep.refl _ _).drew⟩) ⟨dc.f.keep hR3 (M:=fun _ _=>False) (Ext.refl _).drew' fun _ _ _ h=>h.elim,p3.drew,r3.drew⟩ hp (by omega) fun w3 D3 S3 v r1 r2 r3 => ?_
    refine goZ ?_
    exact hk w3 D3 S3 v r1 r2 r3
   ·have hlt':¬ 0 < cmpB G[skGE G key]!.s key:=fun h=>hlt (cmpB_gt_zero.1 h)
    refine gY1 @hlt' ?_
    obtain ⟨hR3,p3,r3⟩:=st2
    refine midB_run (p:=p) (j:=skGE G key) dc (by exact ⟨dc.f.keep hR3 (M:=fun _ _=>False) (Ext.refl _).drew' fun _ _ _ h=>h.elim,p3.drew,r3.drew⟩) hp h1 h2 rfl hem fun w4 D4 S4 Q4 vc4 vk4 vb4 xs4 xb4 cc4 lk4 v st4 l4 => ?_
    have l4:=(l2.trans ⟨fun _ h => .inl h,fun _ h => .inl h,(Keep.refl _ _).drew⟩).trans l4
    have r85:=st4.p.d85
    have r86:=st4.p.d86
    have r84:=st4.p.d84
    have r82:=st4.p.fU
    by_cases hz:(sts G)[p]! = 0
    ·rw [isP_out (by omega)] at st4 r85
     simp (disch:=first | exact dZ | fail) only [go_sem,↓reduceIte,Nat.reduceEqDiff,Nat.reduceAdd,r85,Option.isNone_none,r84]
     refine dc.f.error st4.R fun w5 hR5 x5 => ?_
     obtain ⟨p5,t5,_⟩:=dc.below st4.R st4.p st4.r x5.keep (S2:=S4) fun _ h => .inl h
     have st5:DSt d w5 U Bf C rt rv T R D4 S4 Q4 vc4 vk4 vb4 xs4 xb4 cc4 lk4 none (-1) (((sts G)[p]! : Int) - 1):=⟨hR5,p5,t5⟩
     have l5:=l4.trans ⟨fun _ h => .inl h,fun _ h => .inl h,x5.keep⟩
     have u86:=p5.d86
     have u84:=p5.d84
     refine gY2 @u86 @u84 ?_
     refine dc.f.next st5.R (by omega) (by omega) fun w6 S6 hR6 hS6 k6 => ?_
     obtain ⟨v85,v86,_,vU,f6⟩:=kept2 dc st5 hR6 hS6 k6
     rw [show fRet pb po G (((sts G)[p]! : Int) - 1+1) = .pointer (isP pb po G (((sts G)[p]! : Int) - 1+1)) from fRet_ptr ..]
     have his6:isP pb po G (((sts G)[p]! : Int) - 1+1)=some ⟨pb,po,none⟩:=isP_in ⟨by omega,by omega⟩
     obtain ⟨st6,l6⟩:=f6 _ his6
     rw [his6]
     refine gY2 @v85 @vU ?_
     refine goF_run (p:=p) dc (l5.trans l6) st6 hp (by omega) fun w7 D7 S7 v r1 r2 r3 => ?_
     refine goZ ?_
     exact hk w7 D7 S7 v r1 r2 r3
    ·rw [isP_in ⟨by omega,by omega⟩] at st4 r85
     simp (disch:=first | exact dZ | fail) only [go_sem,↓reduceIte,Nat.reduceEqDiff,Nat.reduceAdd,r85,Option.isNone_some]
     refine gY2 @r86 @r84 ?_
     refine dc.f.next st4.R (by omega) (by omega) fun w6 S6 hR6 hS6 k6 => ?_
     obtain ⟨v85,v86,_,vU,f6⟩:=kept2 dc st4 hR6 hS6 k6
     rw [show fRet pb po G (((sts G)[p]! : Int) - 1+1) = .pointer (isP pb po G (((sts G)[p]! : Int) - 1+1)) from fRet_ptr ..]
     have his6:isP pb po G (((sts G)[p]! : Int) - 1+1)=some ⟨pb,po,none⟩:=isP_in ⟨by omega,by omega⟩
     obtain ⟨st6,l6⟩:=f6 _ his6
     rw [his6]
     refine gY2 @v85 @vU ?_
     refine goF_run (p:=p) dc (l4.trans l6) st6 hp (by omega) fun w7 D7 S7 v r1 r2 r3 => ?_
     refine goZ ?_
     exact hk w7 D7 S7 v r1 r2 r3
 ·have e:=Nat.le_antisymm sG1 (Nat.not_lt.1 h0)
  rw [skGE_end e] at hk
  have his:isP pb po G (skGE G key:Nat)=none:=isP_out (by omega)
  obtain ⟨st2,l2⟩:=f2 _ his
  rw [his]
  simp (disch:=first | exact dZ | fail) only [go_sem,↓reduceIte,Nat.reduceEqDiff,Nat.reduceAdd,q85,fU2,Option.isNone_none,q86]
  obtain ⟨st3,l3⟩:=posn dc st2 0
  exact endD (l2.trans l3) st3 his.symm (.inl ⟨rfl,by omega⟩) hk
theorem DSeekLT_run {p:Int} {kv:Value} {key:Bytes} (dc:DC d U Bf C pb po rt rv G pF pL pK T R) (h:De d U Bf C pb po rt rv G T R w D S p) (hK:pK key) (hkv:Bts w kv key) (hvi:VIn kv fun b=>b≠U∧∀ x,¬ T b x∧¬ S b)
    (hk:DKn d U Bf C pb po rt rv G T R w D S (skLT (Vw G) key) k):callK prog 248 #[.pointer (some ⟨U,81,none⟩),kv] k w:=by
 obtain ⟨Q,vc,vk,vb,xs,xb,cc,lk,is,ps,q,st,_⟩:=h
 obtain ⟨sG0,sG1,sG2,sG3⟩:=skLT_spec G key
 have q84:=st.p.d84
 obtain ⟨kva,kvc,rfl⟩:=bts_slice hkv
 refine callZ [.tmp 4] func248 ?_
 refine gY1 @q84 ?_
 refine dc.f.seekLT st.R hK hkv (fun a n c e=>(hvi a n c e).2) fun w2 S2 hR2 hS2 k2 => ?_
 have hkv2:=hkv.keep k2 fun a n c e _ o h=>h.elim ((hvi a n c e).2 o).1 ((hvi a n c e).2 o).2
 obtain ⟨q85,q86,_,fU2,f2⟩:=kept2 dc st hR2 hS2 k2
 rw [show fRet pb po G (skLT G key) = .pointer (isP pb po G (skLT G key)) from fRet_ptr ..]
 by_cases h00:0≤skLT G key
 ·obtain ⟨j,hj⟩:∃ j:Nat,skLT G key=j:=⟨(skLT G key).toNat,by omega⟩
  have h0:j < G.length:=by omega
  rw [hj] at hR2 f2 ⊢
  have his:isP pb po G (j:Int)=some ⟨pb,po,none⟩:=isP_in ⟨by omega,by omega⟩
  obtain ⟨st2,l2⟩:=f2 _ his
  rw [his]
  obtain ⟨p,hp,h1,h2⟩:=run_of h0
  have hE:=stE_gt hp
  rw [skLT_run dc.f.wf hj hp h1 h2] at hk
  have kk:Keep (fun b y=>b=U∧y=85) w2 (w2.setCell ⟨U,85,none⟩ (.pointer (some ⟨pb,po,none⟩))):=keep_set ⟨rfl,rfl⟩
  have hkv3:=hkv2.keep kk fun a n c e _ o h=>(hvi a n c e).1 h.1
  obtain ⟨⟨sv,s1,s2⟩,⟨ev,e1,e2⟩,⟨kv,k1,k2⟩,_⟩:=(dc.f.cur st2.R rfl h0).o (dc.f.inc st2.R)
  obtain ⟨ka,kc,rfl⟩:=k2.form
  obtain ⟨sa,sc,rfl⟩:=bts_slice e2
  have q86':=st2.p.d86
  have q82:=st2.p.d82
  have q85':=st2.p.d85
  have fU3:=st2.p.fU
  simp (disch:=first | exact dZ | fail) only [go_sem,↓reduceIte,Nat.reduceEqDiff,Nat.reduceAdd,q85,fU2,Option.isNone_some]
  refine Empty_run k1 ?_
  by_cases hem:G[j]!.ks=[]
  ·obtain ⟨e1,e2⟩:=run_empty' hp h1 h2 hem
   rw [hem]
   simp (disch:=first | exact dZ | fail) only [go_sem,↓reduceIte,Nat.reduceEqDiff,Nat.reduceAdd,List.length_nil,q86',q85',fU3]
   obtain ⟨st3,l3⟩:=posn dc st2 0
   refine hk _ D S2 _ ⟨Q,vc,vk,vb,xs,xb,cc,lk,_,0,_,st3,.inr ⟨his.symm,.inl ⟨p,rfl,hp,.inl ⟨by rw [e1]; exact hem,rfl,by rw [e1]⟩⟩⟩⟩ (l2.trans l3) ⟨fun i hi hi2 => ?_,fun h=>absurd ⟨by omega,by omega⟩ h⟩
   obtain rfl:i=p:=by omega
   refine ⟨pb,po,G[j]!,rfl,(dc.f.cur st3.R rfl h0).o (dc.f.inc st3.R),?_⟩
   rw [Vw_at hp,e1,e2]
   exact ⟨rfl,rfl,rfl,_,h0,rfl⟩
  ·have hem':decide (G[j]!.ks.length=0)=false:=by
     rw [decide_eq_false_iff_not]; intro h; exact hem (List.length_eq_zero_iff.1 h)
   rw [hem']
   have hcmp:=dc.f.inc st2.R _ _ _ dc.cmp0
   refine goZ ?_
   refine drawZ (sq [0,1,2] (.read 3 (sq [4,5] (.read 6 (sq [7,8,9] (.read 10 (sq [11,12] (.read 13 (sq [14] (.eff 15 [] (sq [16] .done))))))))))) ?_
   refine gY4 @q82 @hcmp @q85' @e1 ?_
   refine Compare_run (by exact e2) (by exact hkv3) ?_
   by_cases hlt:G[j]!.e < key
   ·have hlt':cmpB G[j]!.e key < 0:=cmpB_lt_zero.2 hlt
    have e:=skLT_stop hj hp h1 h2 hlt
    refine gY1 @hlt' ?_
    obtain ⟨hR3,p3,r3⟩:=st2
    refine goB_run (p:=p) dc (by exact l2.trans ⟨fun _ h => .inl h,fun _ h => .inl h,(Keep.refl _ _).drew⟩) ⟨dc.f.keep hR3 (M:=fun _ _=>False) (Ext.refl _).drew' fun _ _ _ h=>h.elim,p3.drew,r3.drew⟩ hp (by omega) fun w3 D3 S3 v r1 r2 r3 => ?_
    refine goZ ?_
    exact hk w3 D3 S3 v r1 r2 r3
   ·have hlt':¬ cmpB G[j]!.e key < 0:=fun h=>hlt (cmpB_lt_zero.1 h)
    refine gY1 @hlt' ?_
    obtain ⟨hR3,p3,r3⟩:=st2
    refine midF_run (p:=p) (j:=j) dc (by exact ⟨dc.f.keep hR3 (M:=fun _ _=>False) (Ext.refl _).drew' fun _ _ _ h=>h.elim,p3.drew,r3.drew⟩) hp h1 h2 rfl hem fun w4 D4 S4 Q4 vc4 vk4 vb4 xs4 xb4 cc4 lk4 v st4 l4 => ?_
    have l4:=(l2.trans ⟨fun _ h => .inl h,fun _ h => .inl h,(Keep.refl _ _).drew⟩).trans l4
    have r85:=st4.p.d85
    have r86:=st4.p.d86
    have r84:=st4.p.d84
    have r82:=st4.p.fU
    by_cases hz:stE G p=G.length
    ·rw [isP_out (by omega)] at st4 r85
     simp (disch:=first | exact dZ | fail) only [go_sem,↓reduceIte,Nat.reduceEqDiff,Nat.reduceAdd,r85,Option.isNone_none,r84]
     refine dc.f.error st4.R fun w5 hR5 x5 => ?_
     obtain ⟨p5,t5,_⟩:=dc.below st4.R st4.p st4.r x5.keep (S2:=S4) fun _ h => .inl h
     have st5:DSt d w5 U Bf C rt rv T R D4 S4 Q4 vc4 vk4 vb4 xs4 xb4 cc4 lk4 none 1 (stE G p):=⟨hR5,p5,t5⟩
     have l5:=l4.trans ⟨fun _ h => .inl h,fun _ h => .inl h,x5.keep⟩
     have u86:=p5.d86
     have u84:=p5.d84
     refine gY2 @u86 @u84 ?_
     refine dc.f.prev st5.R (by omega) fun w6 S6 hR6 hS6 k6 => ?_
     obtain ⟨v85,v86,_,vU,f6⟩:=kept2 dc st5 hR6 hS6 k6
     rw [show fRet pb po G ((stE G p:Int) - 1) = .pointer (isP pb po G ((stE G p:Int) - 1)) from fRet_ptr ..]
     have his6:isP pb po G ((stE G p:Int) - 1)=some ⟨pb,po,none⟩:=isP_in ⟨by omega,by omega⟩
     obtain ⟨st6,l6⟩:=f6 _ his6
     rw [his6]
     refine gY2 @v85 @vU ?_
     refine goB_run (p:=p) dc (l5.trans l6) st6 hp (by omega) fun w7 D7 S7 v r1 r2 r3 => ?_
     refine goZ ?_
     exact hk w7 D7 S7 v r1 r2 r3
    ·rw [isP_in ⟨by omega,by omega⟩] at st4 r85
     simp (disch:=first | exact dZ | fail) only [go_sem,↓reduceIte,Nat.reduceEqDiff,Nat.reduceAdd,r85,Option.isNone_some]
     refine gY2 @r86 @r84 ?_
     refine dc.f.prev st4.R (by omega) fun w6 S6 hR6 hS6 k6 => ?_
     obtain ⟨v85,v86,_,vU,f6⟩:=kept2 dc st4 hR6 hS6 k6
     rw [show fRet pb po G ((stE G p:Int) - 1) = .pointer (isP pb po G ((stE G p:Int) - 1)) from fRet_ptr ..]
     have his6:isP pb po G ((stE G p:Int) - 1)=some ⟨pb,po,none⟩:=isP_in ⟨by omega,by omega⟩
     obtain ⟨st6,l6⟩:=f6 _ his6
     rw [his6]
     refine gY2 @v85 @vU ?_
     refine goB_run (p:=p) dc (l4.trans l6) st6 hp (by omega) fun w7 D7 S7 v r1 r2 r3 => ?_
     refine goZ ?_
     exact hk w7 D7 S7 v r1 r2 r3
 ·have e:skLT G key = -1:=by omega
  rw [skLT_end e] at hk
  have his:isP pb po G (skLT G key)=none:=isP_out (by omega)
  obtain ⟨st2,l2⟩:=f2 _ his
  rw [his]
  simp (disch:=first | exact dZ | fail) only [go_sem,↓reduceIte,Nat.reduceEqDiff,Nat.reduceAdd,q85,fU2,Option.isNone_none,q86]
  obtain ⟨st3,l3⟩:=posn dc st2 0
  exact endD (l2.trans l3) st3 his.symm (.inr ⟨rfl,by omega⟩) hk
end
end Go.Proofs
end
section
namespace Go.E
open Go Go.Sort Go.Proofs
def str (l:Bytes):Value := .string ⟨l.toArray⟩
theorem str_of (s:ByteArray):Value.string s=str s.data.toList:=rfl
abbrev Elem (α:Type):=World→List Value→α→Prop
def MonoE {α:Type} (R:Elem α):Prop:=∀ w w2 cs x,Inc w w2→R w cs x→R w2 cs x
def AtC {α:Type} (R:Elem α) (sz:Nat) (w:World) (b o:Nat) (x:α):Prop:=∃ cs:List Value,cs.length=sz∧(∀ i u,cs[i]? = some u→w.cell? ⟨b,o+i,none⟩=some u)∧R w cs x
theorem AtC.mono {α:Type} {R:Elem α} {sz:Nat} (h:MonoE R):Mono (AtC R sz):=fun _ _ _ _ _ hi ⟨cs,h1,h2,h3⟩=>⟨cs,h1,fun i u hu=>hi _ _ _ (h2 i u hu),h _ _ _ _ hi h3⟩
abbrev Sl {α:Type} (R:Elem α) (sz:Nat) (w:World) (v:Value) (l:List α):Prop:=SlcOf (AtC R sz) sz w v l
theorem Sl.inc {α:Type} {R:Elem α} {sz:Nat} {w w2:World} {v:Value} {l:List α} (hm:MonoE R) (h:Sl R sz w v l) (hi:Inc w w2):Sl R sz w2 v l:=SlcOf.inc (AtC.mono hm) h hi
theorem Sl.nil {α:Type} {R:Elem α} {sz:Nat} {w:World} {c:Nat}:Sl R sz w (.slice none 0 c) []:=⟨rfl,rfl⟩
structure OwnL {α:Type} (R:Elem α) (sz:Nat) (el:TypeId) (d w:World) (v:Value) (l:List α) (css:List (List Value)):Prop where
 len:css.length=l.length
 own:w.ownsRow 0 el sz v l.length css.flatten
 sz:∀ cs ∈ css,cs.length=sz
 R:∀ (i:Nat) (x:α) (cs:List Value),l[i]? = some x→css[i]? = some cs→R d cs x
 out:∀ g,v.ownBlock=some g→Out d g
section
variable {α:Type} {R:Elem α} {sz:Nat} {el:TypeId} {d d2 w w2:World} {v:Value} {l:List α} {css:List (List Value)}
theorem OwnL.nil (h:w.ownsRow 0 el sz (.slice none 0 0) 0 []):OwnL R sz el d w (.slice none 0 0) [] []:=⟨rfl,h,by simp,by simp,by simp [Value.ownBlock]⟩
theorem OwnL.drew (h:OwnL R sz el d w v l css):OwnL R sz el d w.drew v l css:=⟨h.len,h.own.drew,h.sz,h.R,h.out⟩
theorem OwnL.keep {M:Nat→Nat→Prop} (h:OwnL R sz el d w v l css) (hk:Keep M w w2) (hm:∀ g,v.ownBlock=some g→∀ o,¬ M g o):OwnL R sz el d w2 v l css:=⟨h.len,own_keep h.own hk hm,h.sz,h.R,h.out⟩
theorem OwnL.ext (h:OwnL R sz el d w v l css) (hk:Ext w w2):OwnL R sz el d w2 v l css:=h.keep hk fun _ _ _ h=>h
theorem OwnL.ghost (h:OwnL R sz el d w v l css) (hm:MonoE R) (hi:Inc d d2) (ho:∀ g,v.ownBlock=some g→Out d2 g):OwnL R sz el d2 w v l css:=⟨h.len,h.own,h.sz,fun i x cs h1 h2=>hm _ _ _ _ hi (h.R i x cs h1 h2),ho⟩
theorem OwnL.form (h:OwnL R sz el d w v l css):∃ a c,v = .slice a l.length c∧l.length≤c∧c≤9223372036854775807:=by
 obtain ⟨a,c,h1,h2,h3⟩:=own_slice h.own
 exact ⟨a,c,h1,h2,h3⟩
theorem flat_len {css:List (List Value)} (h:∀ cs ∈ css,cs.length=sz):css.flatten.length=css.length * sz:=by
 induction css with
 | nil=>simp
 | cons c css ih =>
  have h1:=h c List.mem_cons_self
  have h2:=ih fun cs hcs=>h cs (List.mem_cons_of_mem _ hcs)
  rw [List.flatten_cons,List.length_append,h1,h2,List.length_cons,Nat.add_mul]
  omega
theorem flat_get {css:List (List Value)} (h:∀ cs ∈ css,cs.length=sz) {i j:Nat} {cs:List Value} {u:Value} (hi:css[i]? = some cs) (hj:cs[j]? = some u):css.flatten[i * sz+j]? = some u:=by
 induction css generalizing i with
 | nil=>simp at hi
 | cons c css ih =>
  have h1:=h c List.mem_cons_self
  rw [List.flatten_cons]
  cases i with
  | zero =>
   simp only [List.getElem?_cons_zero,Option.some.injEq] at hi
   subst hi
   rw [Nat.zero_mul,Nat.zero_add,List.getElem?_append_left (List.getElem?_eq_some_iff.1 hj).1]
   exact hj
  | succ i =>
   rw [List.getElem?_cons_succ] at hi
   have:=ih (fun cs hcs=>h cs (List.mem_cons_of_mem _ hcs)) hi
   rw [List.getElem?_append_right (by rw [h1,Nat.add_mul]; omega),h1,show (i+1) * sz+j - sz=i * sz+j by rw [Nat.add_mul]; omega]
   exact this
theorem OwnL.sl (h:OwnL R sz el d w v l css) (hm:MonoE R) (hi:Inc d d2) (hb:∀ g,v.ownBlock=some g→∀ o u,w.cell? ⟨g,o,none⟩=some u→d2.cell? ⟨g,o,none⟩=some u):Sl R sz d2 v l:=by
 have ho:=h.own
 rcases own_form ho with ⟨rfl,h0,_⟩ | ⟨g,cap,rfl,hc,hg⟩
 ·exact ⟨rfl,List.length_eq_zero_iff.1 h0⟩
 ·refine ⟨fun _=>rfl,rfl,hc,fun i x hx => ?_⟩
  have hlt:=(List.getElem?_eq_some_iff.1 hx).1
  obtain ⟨cs,hcs⟩:∃ cs,css[i]? = some cs:=⟨_,List.getElem?_eq_getElem (by rw [h.len]; exact hlt)⟩
  refine ⟨cs,h.sz cs (List.mem_of_getElem? hcs),fun j u hu => ?_,hm _ _ _ _ hi (h.R i x cs hx hcs)⟩
  have:=own_cell ho (flat_get h.sz hcs hu)
  rw [show 0+i * sz+j=i * sz+j by omega]
  exact hb g rfl _ _ this
theorem OwnL.cell {g cap:Nat} (h:OwnL R sz el d w (.slice (some ⟨g,0,none⟩) l.length cap) l css) {i j:Nat} {cs:List Value} {u:Value} (hi:css[i]? = some cs) (hj:cs[j]? = some u):w.cell? ⟨g,i * sz+j,none⟩=some u:=own_cell h.own (flat_get h.sz hi hj)
end
structure Gr (d w d2 w2:World):Prop where
 x:Ext w w2
 i:Inc d d2
 j:Inc d2 w2
 o:∀ b,b < w.heap.size→Out d b→Out d2 b
theorem Gr.refl {d w:World} (h:Inc d w):Gr d w d w:=⟨Ext.refl w,Inc.refl d,h,fun _ _ h=>h⟩
theorem Gr.ext {d w w2:World} (h:Inc d w) (x:Ext w w2):Gr d w d w2:=⟨x,Inc.refl d,h.trans x.inc,fun _ _ h=>h⟩
theorem Gr.trans {d w d2 w2 d3 w3:World} (h:Gr d w d2 w2) (h2:Gr d2 w2 d3 w3):Gr d w d3 w3:=⟨h.x.trans h2.x,h.i.trans h2.i,h2.j,fun b hb ho=>h2.o b (Nat.lt_of_lt_of_le hb h.x.size) (h.o b hb ho)⟩
theorem Gr.drew {d w d2 w2:World} (h:Gr d w d2 w2):Gr d w d2 w2.drew:=⟨Keep.drew h.x,h.i,h.j,h.o⟩
open Classical in
theorem OwnL.grown {α:Type} {R:Elem α} {sz:Nat} {el:TypeId} {d d1 w w1:World} {v:Value} {l:List α} {css:List (List Value)} (h:OwnL R sz el d1 w1 v l css) (hm:MonoE R) (g:Gr d w d1 w1) (hn:∀ b,v.ownBlock=some b→w.heap.size≤b) :
    ∃ d2,Gr d w d2 w1∧Inc d1 d2∧(∀ b,Out d1 b→v.ownBlock≠some b→Out d2 b)∧Sl R sz d2 v l:=by
 let D:Nat→Bool:=fun b=>decide (¬ Out d1 b∨v.ownBlock=some b)
 have hD:∀ b o u,d1.cell? ⟨b,o,none⟩=some u→D b=true:=fun b o u hu=>decide_eq_true (.inl fun ho=>by rw [ho o] at hu; simp at hu)
 have i2:Inc d1 (only w1 D):=inc_only g.j D hD
 have oo:∀ b,Out d1 b→v.ownBlock≠some b→Out (only w1 D) b:=fun b h1 h2=>only_out w1 D (decide_eq_false fun h=>h.elim (fun h=>h h1) h2)
 refine ⟨only w1 D,⟨g.x,g.i.trans i2,only_inc w1 D,fun b hb ho=>oo b (g.o b hb ho) fun hv => ?_⟩,i2,oo,h.sl hm i2 fun b hb o u hu => ?_⟩
 ·have:=hn b hv; omega
 ·rw [only_cell,show D b=true from decide_eq_true (.inr hb),if_pos rfl]
  exact hu
theorem appN {P:Program} {α:Type} {R:Elem α} {sz by_ n:Nat} {t ty el:TypeId} {d w W:World} {v:Value} {l:List α} {css:List (List Value)} {C:Array Value} {q:Kont} (x:α) (cs:List Value) (row:rowP P t=some (el,sz,by_)) (h:OwnL R sz el d w v l css)
    (hx:R d cs x) (hC:C=cs.toArray) (hW:W=w.alloc (.cells C el)∨W=(w.alloc (.cells C el)).drew) (hn:n=w.heap.size) (hs:cs.length=sz) (h1:∀ u ∈ cs,u.oneCell'=true) (hb:(l.length+1) * (by_+1)≤140737488355328) (hinc:Inc d w)
    (hk:∀ v2 w2,OwnL R sz el d w2 v2 (l++[x]) (css++[cs])→Keep (fun b _=>v.ownBlock=some b) w w2→Newer w v v2→Inc d w2→(∃ a c,v2 = .slice a (l.length+1) c)→q v2 w2) :
    apX P #[t,t] ty #[v,.slice (some ⟨n,0,none⟩) 1 1] q W:=by
 subst hC hn
 have k4:Ext w W:=by
  rcases hW with rfl | rfl
  ·exact ext_alloc _
  ·exact Keep.drew (ext_alloc _)
 have c4:∀ o,W.cell? ⟨w.heap.size,o,none⟩=cs.toArray[o]? := fun o=>by
  rcases hW with rfl | rfl
  ·exact cell_newN (Nat.le_refl _) (Nat.lt_succ_self _)
  ·rw [show (w.alloc (Obj.cells cs.toArray el)).drew.cell? ⟨w.heap.size,o,none⟩=(w.alloc (Obj.cells cs.toArray el)).cell? ⟨w.heap.size,o,none⟩ from rfl]
   exact cell_newN (Nat.le_refl _) (Nat.lt_succ_self _)
 simp only [apX]
 refine appE (m:=1) (news:=cs) row (own_keep h.own k4 (fun _ _ _ h=>h)) (by rw [Nat.one_mul]; exact hs) ⟨rfl,?_⟩ h1 hb fun v5 w5 o5 k5 n5 _ => ?_
 ·intro j u hj
  rw [addr_add rfl,Nat.zero_add,c4]
  simpa using hj
 ·have kk5:Keep (fun b _=>v.ownBlock=some b) w w5:=k4.keep.trans (k5 _ fun b o hb _=>hb)
  have nw:Newer w v v5:=fun g hg=>by
   rcases n5 with h | ⟨g2,h,h',_⟩
   ·exact .inl (by rw [← h]; exact hg)
   ·rw [h] at hg
    simp only [Option.some.injEq] at hg
    subst hg
    have:=k4.size
    exact .inr (by omega)
  have i5:Inc d w5:=hinc.keep kk5 fun b o hb=>h.out b hb o
  obtain ⟨a5,c5,e5,_⟩:=own_slice o5
  refine hk v5 w5 ⟨by simp [h.len],?_,?_,?_,?_⟩ kk5 nw i5 ⟨a5,c5,e5⟩
  ·rw [List.flatten_append,List.length_append]
   simpa using o5
  ·intro c hc
   rcases List.mem_append.1 hc with hc | hc
   ·exact h.sz c hc
   ·rw [List.mem_singleton.1 hc]; exact hs
  ·intro i y c hy hc
   rcases Nat.lt_trichotomy i l.length with hi | hi | hi
   ·rw [List.getElem?_append_left hi] at hy
    rw [List.getElem?_append_left (by rw [h.len]; exact hi)] at hc
    exact h.R i y c hy hc
   ·subst hi
    rw [List.getElem?_append_right (Nat.le_refl _),Nat.sub_self] at hy
    rw [List.getElem?_append_right (by rw [h.len]; exact Nat.le_refl _),h.len,Nat.sub_self] at hc
    simp only [List.getElem?_cons_zero,Option.some.injEq] at hy hc
    subst hy hc
    exact hx
   ·have:=(List.getElem?_eq_some_iff.1 hy).1
    rw [List.length_append,List.length_singleton] at this
    omega
  ·intro g hg
   rcases nw g hg with h' | h'
   ·exact h.out g h'
   ·exact hinc.out h'
theorem take_more {α:Type} {l:List α} {i:Nat} {x:α} (h:l[i]? = some x):l.take (i+1)=l.take i++[x]:=by
 rw [List.take_add_one,h]; rfl
theorem take_len {α:Type} {l:List α} {i:Nat} (h:i≤l.length):(l.take i).length=i:=by rw [List.length_take]; omega
theorem own_none {w:World} {el:TypeId} {sz:Nat}:w.ownsRow 0 el sz (.slice none 0 0) 0 []:=⟨by simp,.inl ⟨rfl,rfl⟩⟩
structure LoopL {α:Type} (R:Elem α) (sz:Nat) (el:TypeId) (d w d1 w1:World) (v:Value) (l:List α):Prop where
 g:Gr d w d1 w1
 o:∃ css,OwnL R sz el d1 w1 v l css
 n:∀ b,v.ownBlock=some b→w.heap.size≤b
section
variable {α:Type} {R:Elem α} {sz:Nat} {el:TypeId} {d w d1 w1 d2 w2:World} {v v2:Value} {l:List α}
theorem LoopL.nil (h:Inc d w):LoopL R sz el d w d w (.slice none 0 0) []:=⟨Gr.refl h,⟨[],OwnL.nil own_none⟩,by simp [Value.ownBlock]⟩
theorem LoopL.form (h:LoopL R sz el d w d1 w1 v l):∃ a c,v = .slice a l.length c∧l.length≤c∧c≤9223372036854775807:=by
 obtain ⟨css,o⟩:=h.o
 exact o.form
theorem LoopL.call (h:LoopL R sz el d w d1 w1 v l) (hm:MonoE R) (g:Gr d1 w1 d2 w2):LoopL R sz el d w d2 w2 v l:=by
 obtain ⟨css,o⟩:=h.o
 exact ⟨h.g.trans g,⟨css,(o.ext g.x).ghost hm g.i fun b hb=>g.o b (o.own.lt _ hb).2 (o.out b hb)⟩,h.n⟩
theorem LoopL.ext (h:LoopL R sz el d w d1 w1 v l) (hm:MonoE R) (x:Ext w1 w2):LoopL R sz el d w d1 w2 v l:=h.call hm (Gr.ext h.g.j x)
theorem LoopL.more (h:LoopL R sz el d w d1 w1 v l) {l2:List α} {css:List (List Value)} (o:OwnL R sz el d1 w2 v2 l2 css) (k:Keep (fun b _=>v.ownBlock=some b) w1 w2) (n:Newer w1 v v2) (j:Inc d1 w2):LoopL R sz el d w d1 w2 v2 l2:=by
 have hx:Ext w w2:=h.g.x.tr k fun b o hb hm=>by have:=h.n b hm; omega
 refine ⟨⟨hx,h.g.i,j,h.g.o⟩,⟨css,o⟩,fun b hb => ?_⟩
 rcases n b hb with h' | h'
 ·exact h.n b h'
 ·exact Nat.le_trans h.g.x.size h'
theorem LoopL.done (h:LoopL R sz el d w d1 w1 v l) (hm:MonoE R):∃ d2,Gr d w d2 w1∧Inc d1 d2∧(∀ b,Out d1 b→v.ownBlock≠some b→Out d2 b)∧Sl R sz d2 v l:=by
 obtain ⟨css,o⟩:=h.o
 exact o.grown hm h.g h.n
end
theorem str_one (l:Bytes):(str l).oneCell'=true:=rfl
end Go.E
end
section
set_option maxRecDepth 10000
namespace Go.E
open Go Go.Sort Go.Proofs Go.Proofs.Tryz
def KE:Elem K:=fun _ cs x=>cs=[.int .u64 x.tr,str x.suf,str x.val]∧x.tr < 18446744073709551616
theorem KE.mono:MonoE KE:=fun _ _ _ _ _ h=>h
def SpE:Elem Sp:=fun w cs x=>∃ v,cs=[str x.s,str x.e,v]∧Sl KE 3 w v x.ks
theorem SpE.mono:MonoE SpE:=fun _ _ _ _ hi ⟨v,h1,h2⟩=>⟨v,h1,h2.inc KE.mono hi⟩
theorem ext_set {w w2:World} {b o:Nat} {v:Value} (h:Ext w w2) (hb:w.heap.size≤b):Ext w (w2.setCell ⟨b,o,none⟩ v):=Keep.set h fun hb2=>by omega
end Go.E
namespace Go.Proofs
open Go Go.E Go.Sort Go.Proofs.Tryz
section
variable {k:Kont} {d w:World}
theorem plainKeys_run {v:Value} {ks:List K} (hv:SlcOf KeyC 3 w v ks) (hl:ks.length < 1000000) (hinc:Inc d w) (hk:∀ d' w' v',Gr d w d' w'→Sl KE 3 d' v' ks→k v' w'):callK prog 92 #[v] k w:=by
 obtain ⟨ka,kc,rfl⟩:=hv.form
 refine callZ [.tmp 2] func92 ?_
 refine goZ ?_
 refine loopC (fun b:Nat × Value=>[(3,b.2),(6,.slice ka ks.length kc),(7,.int .i64 ks.length),(8,.int .i64 b.1)])
  (fun b w'=>b.1≤ks.length∧LoopL KE 3 62 d w d w' b.2 (ks.take b.1)) (fun b _=>ks.length - b.1) (0,.slice none 0 0) (by kernel_rfl) ?_ ⟨Nat.zero_le _,LoopL.nil hinc⟩ ?_
 ·exact agZ
 rintro K2 e ⟨i,v⟩ w1 ⟨i2,i3⟩ hK2
 simp only at i2 i3
 by_cases hi:i < ks.length
 ·have hi':(i:Int) < ks.length:=by omega
  obtain ⟨g,f,c,hv',hc,hat⟩:=(hv.inc KeyC.mono i3.g.x.inc).at (by omega)
  obtain ⟨rfl,rfl⟩:ka=some ⟨g,f,none⟩∧kc=c:=by simpa using hv'
  obtain ⟨x,hx⟩:∃ x,ks[i]? = some x:=⟨_,List.getElem?_eq_getElem hi⟩
  obtain ⟨h1,h2,⟨sv,h3,h4⟩,vv,h5,h6⟩:=hat i x hx
  obtain ⟨sa,sc,rfl⟩:=bts_slice h4
  obtain ⟨va,vc,rfl⟩:=bts_slice h6
  simp (disch:=first | exact dZ | fail) only [go_sem,↓reduceIte,Nat.reduceEqDiff,Nat.reduceAdd,hi',h1,h3,h5,conv_bts (h4.inc (Ext.inc (ext_alloc _))),conv_bts (h6.inc (Ext.inc (ext_alloc _)))]
  obtain ⟨w3,hw3⟩:∃ w3,w3=w1.alloc (.cells #[.int .u64 x.tr,.slice sa x.suf.length sc,.slice va x.val.length vc] 256):=⟨_,rfl⟩
  rw [← hw3]
  have i4:=i3.ext KE.mono (w2:=w3) (by rw [hw3]; exact ext_alloc _)
  obtain ⟨css,o4⟩:=i4.o
  refine appN x [.int .u64 x.tr,str x.suf,str x.val] rw54 o4 ⟨rfl,h2⟩ rfl (.inl rfl) (by rw [hw3,World.size_alloc]) rfl (by simp [Value.oneCell',str]) (by rw [take_len i2]; omega) i4.g.j fun v2 w2 o2 k2 n2 j2 _ => ?_
  refine goZ ?_
  refine hK2 _ _ (i+1,v2) ?_ ⟨hi,?_⟩ (by simp only; omega)
  ·exact agZ
  ·rw [take_more hx]
   exact i4.more o2 k2 n2 j2
 ·have hi':¬ (i:Int) < ks.length:=by omega
  refine gY1 @hi' ?_
  obtain rfl:i=ks.length:=by omega
  rw [List.take_length] at i3
  obtain ⟨d2,g2,_,_,s2⟩:=i3.done KE.mono
  exact hk d2 w1 v g2 s2
theorem plainSpan_run {sv ev kv tv:Value} {x:Sp} (hs:Bts w sv x.s) (he:Bts w ev x.e) (hv:SlcOf KeyC 3 w kv x.ks) (ht:∃ n,tv = .int .i8 n) (hl:x.ks.length < 1000000) (hinc:Inc d w)
    (hk:∀ d' w' v',Gr d w d' w'→Sl KE 3 d' v' x.ks→k (.agg #[str x.s,str x.e,v']) w'):callK prog 88 #[.agg #[sv,ev,kv,tv]] k w:=by
 obtain ⟨sa,sc,rfl⟩:=bts_slice hs
 obtain ⟨ea,ec,rfl⟩:=bts_slice he
 obtain ⟨ka,kc,rfl⟩:=hv.form
 obtain ⟨tn,rfl⟩:=ht
 have hx:∀ ob ob2,Inc w ((w.alloc ob).alloc ob2).drew:=fun ob ob2=>Ext.inc (Keep.drew ((ext_alloc ob).trans (ext_alloc ob2)))
 refine callZ [.cell 2 56] func88 ?_
 refine goZ ?_
 refine drawZ (sq [0] (.read 1 (.read 2 (sq [3] (.read 4 (.read 5 (sq [6] (.read 7 (.eff 8 [1,2,4,5] (sq [9] (.eff 10 [] .done))))))))))) ?_
 simp (disch:=first | exact dZ | fail) only [go_sem,↓reduceIte,Nat.reduceEqDiff,Nat.reduceAdd,conv_bts (hs.inc (hx _ _)),conv_bts (he.inc (hx _ _))]
 obtain ⟨w1,hw1⟩:∃ w1,w1=((w.alloc (.cells #[.slice sa x.s.length sc,.slice ea x.e.length ec,.slice ka x.ks.length kc,.int .i8 tn] 114)).alloc (.cells #[.string .empty,.string .empty,.slice none 0 0] 56)).drew:=⟨_,rfl⟩
 rw [← hw1]
 have k1:Ext w w1:=by rw [hw1]; exact Keep.drew ((ext_alloc _).trans (ext_alloc _))
 have z1:w1.heap.size=w.heap.size+2:=by rw [hw1,World.size_drew,World.size_alloc,World.size_alloc]
 obtain ⟨b,hb⟩:∃ b,b=w.heap.size:=⟨_,rfl⟩
 have a0:w1.cell? ⟨b,0,none⟩=some (.slice sa x.s.length sc):=by rw [hw1,hb]; exact eY1 @cell_newN
 have a1:w1.cell? ⟨b,1,none⟩=some (.slice ea x.e.length ec):=by rw [hw1,hb]; exact eY1 @cell_newN
 have a2:w1.cell? ⟨b,2,none⟩=some (.slice ka x.ks.length kc):=by rw [hw1,hb]; exact eY1 @cell_newN
 have b0:w1.cell? ⟨b+1,0,none⟩=some (.string .empty):=by rw [hw1,hb]; exact eY1 @cell_newN
 have b1:w1.cell? ⟨b+1,1,none⟩=some (.string .empty):=by rw [hw1,hb]; exact eY1 @cell_newN
 have b2:w1.cell? ⟨b+1,2,none⟩=some (.slice none 0 0):=by rw [hw1,hb]; exact eY1 @cell_newN
 have f1:∀ o,w1.frozen? ⟨b+1,o,none⟩=false:=fun o=>by rw [hw1,hb]; simp (disch:=first | exact dZ | fail) only [go_sem,↓reduceIte,Nat.reduceEqDiff,Nat.reduceAdd]
 rw [← hb]
 refine plainKeys_run (d:=d) (hv.inc KeyC.mono k1.inc) hl (hinc.trans k1.inc) fun d2 w2 v2 g2 s2 => ?_
 obtain ⟨va,vc,rfl⟩:=s2.form
 have a0:=g2.x.cell a0
 have a1:=g2.x.cell a1
 have a2:=g2.x.cell a2
 have b0:=g2.x.cell b0
 have b1:=g2.x.cell b1
 have b2:=g2.x.cell b2
 have f2:∀ o,w2.frozen? ⟨b+1,o,none⟩=false:=fun o=>by rw [g2.x.frozen _ o (by omega)]; exact f1 o
 have k2:=k1.trans g2.x
 simp (disch:=first | exact dZ | fail) only [go_sem,↓reduceIte,Nat.reduceEqDiff,Nat.reduceAdd,conv_bts (hs.inc k2.inc),conv_bts (he.inc k2.inc),a0,a1,a2,b0,b1,b2,f2]
 refine hk d2 _ _ ⟨ext_set (ext_set (ext_set k2 (by omega)) (by omega)) (by omega),g2.i,?_,fun c hc ho=>g2.o c (Nat.lt_of_lt_of_le hc k1.size) ho⟩ s2
 have ho:Out d2 (b+1):=g2.o _ (by omega) (hinc.out (by omega))
 exact ((g2.j.set ho).set ho).set ho
end
end Go.Proofs
end
