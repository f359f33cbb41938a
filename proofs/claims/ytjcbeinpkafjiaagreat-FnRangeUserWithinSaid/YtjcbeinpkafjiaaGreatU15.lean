/- Parts of the proof: Mk, Pm, Ms. -/
import Derived.Test.YtjcbeinpkafjiaaGreatU14
set_option linter.all false
section
set_option maxRecDepth 10000
namespace Go.Proofs
open Go Go.E Go.Sort Go.Proofs.Tryz
section
variable {k:Kont} {d w:World} {U Bf C snap:Nat} {Ls:Array Lvl} {B:List Bytes} {S:Nat→Prop} {p:Int}
theorem isS_none {a:Option Addr} {n c:Nat}:isS (.slice a n c)=a.isSome:=by cases a <;> rfl
set_option maxHeartbeats 1000000 in
theorem Next_run (m:MS d U Bf C Ls snap B) (hm:Mi d U Bf C snap Ls B w S p) (hp:p < (covs Ls.size (Lf Ls) B).length)
    (hk:FK (.pointer none) U 6 (GL snap Ls.size (Lf Ls) B) (mT U Bf Ls) (Mi d U Bf C snap Ls B) w S (p+1) k):callK prog 195 #[.pointer (some ⟨U,2,none⟩)] k w:=by
 obtain ⟨u,pos,vk,vb,vs,lk,ls,xb,sc,hu,hcur,hsp,hd⟩:=hm
 have c:=m.mc
 have er:=sc.g.err
 have hS:=covs_sorted (n:=Ls.size) (L:=Lf Ls) (B:=B)
 have hb:=covs_b m.bds
 have m11:((-1:Int) == 1)=false:=by decide
 have m11':((-1:Int) != 1)=true:=by decide
 have m01:((0:Int) == 1)=false:=by decide
 have m01':((0:Int) != 1)=true:=by decide
 have p11':((1:Int) != 1)=false:=by decide
 have fin:∀ {w1:World} {S1:Nat→Prop} {K:Kont},Bef w w1 U Bf Ls S S1→w1.cell? ⟨U,11,none⟩=some (.int .i8 1)→(∀ w3 S3,Mi d U Bf C snap Ls B w3 S3 (p+1)→(∀ b,S3 b→S b∨w.heap.size≤b)→Keep (fun b x=>mT U Bf Ls b x∨S b) w w3→K (fRet U 6 (GL snap Ls.size (Lf Ls) B) (p+1)) w3)→FndF d w1 U Bf C snap Ls B S1 u K:=by
  intro w1 S1 K hb1 he hK
  refine finF m hb1 he (fun v hv htv hno => ?_) (fun hno => ?_) hK
  ·have h:=hcur.next hS hb hv htv hno
   have:=hcur.rg
   exact ⟨h.1,by omega,h.2⟩
  ·have h:=hcur.next_none hS hb hno
   omega
 rcases hd with ⟨h11,⟨hp',hh⟩,af,hse⟩ | ⟨h11,_,ab,_⟩ | ⟨h11,ab,h0,_⟩
 ·obtain ⟨a3,n3,c3,u3⟩:=sc.u.u3
  obtain ⟨a4,n4,c4,u4⟩:=sc.u.u4
  have ended:u=B.length→k (fRet U 6 (GL snap Ls.size (Lf Ls) B) (p+1)) w:=by
   intro hu2
   have hpN:p+1=(covs Ls.size (Lf Ls) B).length:=by
    rcases hcur with ⟨j,rfl,hj⟩ | ⟨rfl,_⟩ | ⟨rfl,h0⟩
    ·have:=hb _ (List.mem_of_getElem? hj); omega
    ·omega
    ·rcases Nat.eq_zero_or_pos (covs Ls.size (Lf Ls) B).length with h1 | h1
     ·omega
     ·have:=hb _ (List.getElem_mem h1); omega
   exact hk w S ⟨u,pos,vk,vb,vs,lk,ls,xb,sc,hu,.inr (.inl ⟨hpN,hu2⟩),fun _ h=>by omega,.inl ⟨h11,⟨hp',hh⟩,af,.inl hu2⟩⟩ (fun _ h => .inl h) (Keep.refl _ w)
  have endN:u=B.length→fRet U 6 (GL snap Ls.size (Lf Ls) B) (p+1) = .pointer none:=by
   intro hu2
   refine fRet_none ?_
   rw [GL_length]
   rcases hcur with ⟨j,rfl,hj⟩ | ⟨rfl,_⟩ | ⟨rfl,h0⟩
   ·have:=hb _ (List.mem_of_getElem? hj); omega
   ·omega
   ·rcases Nat.eq_zero_or_pos (covs Ls.size (Lf Ls) B).length with h1 | h1
    ·omega
    ·have:=hb _ (List.getElem_mem h1); omega
  have hse4:a4=none∨a3=none→u=B.length:=by
   intro h
   rcases hse with h1 | ⟨⟨v3,q3,s3⟩,⟨v4,q4,s4⟩⟩
   ·exact h1
   ·rw [u3] at q3
    rw [u4] at q4
    cases q3
    cases q4
    rw [isS_none] at s3 s4
    rcases h with rfl | rfl
    ·simp at s4
    ·simp at s3
  refine callZ [.tmp 2] func195 ?_
  cases a4 with
  | none =>
   have he:=ended (hse4 (.inl rfl))
   rw [endN (hse4 (.inl rfl))] at he
   simp (disch:=first | exact dZ | fail) only [go_sem,↓reduceIte,Nat.reduceEqDiff,Nat.reduceAdd,er,h11,u3,u4,p11',Option.isNone_none]
   exact he
  | some a4 =>
   cases a3 with
   | none =>
    have he:=ended (hse4 (.inr rfl))
    rw [endN (hse4 (.inr rfl))] at he
    simp (disch:=first | exact dZ | fail) only [go_sem,↓reduceIte,Nat.reduceEqDiff,Nat.reduceAdd,er,h11,u3,u4,p11',Option.isNone_none,Option.isNone_some]
    exact he
   | some a3 =>
    simp (disch:=first | exact dZ | fail) only [go_sem,↓reduceIte,Nat.reduceEqDiff,Nat.reduceAdd,er,h11,u3,u4,p11',Option.isNone_none,Option.isNone_some]
    refine findNext_run m ⟨sc.g,hh,sc.u,sc.r⟩ (af.near m.bds hu) (fin (Bef.refl _ _ _ _ _) h11 fun w3 S3 r1 r2 r3 => ?_)
    refine goZ ?_
    exact hk w3 S3 r1 r2 r3
 ·refine callZ [.tmp 2] func195 ?_
  refine gY4 @er @h11 @m11 @m11' ?_
  refine switchToMin_run c sc.g sc.hw sc.u.u11 fun w2 hp2 g2 h2 e2 k2 => ?_
  obtain ⟨st2,b2⟩:=sc.turn c g2 h2 e2 k2
  refine goZ ?_
  refine findNext_run m st2 (AtF.near m.bds (t:=u) (fun i hi hl => ?_) hu) (fin b2 e2 fun w3 S3 r1 r2 r3 => ?_)
  ·have a1:=ab i hi hl
   have a2:=cp_le (L:=Lf Ls) (B:=B) u i
   rw [ups_full _ _ hi]
   show nxt Ls[i]!.L (pos i)=_
   have hl2:(Lf Ls i).length=Ls[i]!.L.length:=rfl
   unfold nxt
   rw [if_neg (by omega)]
   exact a1
  ·refine goZ ?_
   exact hk w3 S3 r1 r2 r3
 ·refine callZ [.tmp 2] func195 ?_
  refine gY4 @er @h11 @m01 @m01' ?_
  refine switchToMin_run c sc.g sc.hw sc.u.u11 fun w2 hp2 g2 h2 e2 k2 => ?_
  obtain ⟨st2,b2⟩:=sc.turn c g2 h2 e2 k2
  refine goZ ?_
  refine findNext_run m st2 (AtF.near m.bds (t:=u) (fun i hi hl => ?_) hu) (fin b2 e2 fun w3 S3 r1 r2 r3 => ?_)
  ·have a1:=ab i hi hl
   have a2:=cp_le (L:=Lf Ls) (B:=B) u i
   rw [ups_full _ _ hi]
   show nxt Ls[i]!.L (pos i)=_
   have hl2:(Lf Ls i).length=Ls[i]!.L.length:=rfl
   unfold nxt
   rw [if_neg (by omega)]
   exact a1
  ·refine goZ ?_
   exact hk w3 S3 r1 r2 r3
set_option maxHeartbeats 1000000 in
theorem Prev_run (m:MS d U Bf C Ls snap B) (hm:Mi d U Bf C snap Ls B w S p) (hp : -1 < p)
    (hk:FK (.pointer none) U 6 (GL snap Ls.size (Lf Ls) B) (mT U Bf Ls) (Mi d U Bf C snap Ls B) w S (p - 1) k):callK prog 196 #[.pointer (some ⟨U,2,none⟩)] k w:=by
 obtain ⟨u,pos,vk,vb,vs,lk,ls,xb,sc,hu,hcur,hsp,hd⟩:=hm
 have c:=m.mc
 have er:=sc.g.err
 have hS:=covs_sorted (n:=Ls.size) (L:=Lf Ls) (B:=B)
 have hb:=covs_b m.bds
 have m11:((1:Int) == -1)=false:=by decide
 have m11':((1:Int) != -1)=true:=by decide
 have m01:((0:Int) == -1)=false:=by decide
 have m01':((0:Int) != -1)=true:=by decide
 have p11':((-1:Int) != -1)=false:=by decide
 have p11:((-1:Int) == -1)=true:=by decide
 have fin:∀ {w1:World} {S1:Nat→Prop} {K:Kont},Bef w w1 U Bf Ls S S1→w1.cell? ⟨U,11,none⟩=some (.int .i8 (-1))→(∀ w3 S3,Mi d U Bf C snap Ls B w3 S3 (p - 1)→(∀ b,S3 b→S b∨w.heap.size≤b)→Keep (fun b x=>mT U Bf Ls b x∨S b) w w3→K (fRet U 6 (GL snap Ls.size (Lf Ls) B) (p - 1)) w3)→FndB d w1 U Bf C snap Ls B S1 u K:=by
  intro w1 S1 K hb1 he hK
  refine finB m hb1 he (fun v hv htv hno => ?_) (fun hno => ?_) hK
  ·have h:=hcur.prev hS hb hv htv hno
   have:=hcur.rg
   exact ⟨h.1,h.2,by omega⟩
  ·have h:=hcur.prev_none hS hb hno
   omega
 rcases hd with ⟨h11,_,ab,_⟩ | ⟨h11,⟨hp',hh⟩,af,hse⟩ | ⟨h11,ab,h0,_⟩
 ·refine callZ [.tmp 2] func196 ?_
  refine gY4 @er @h11 @m11 @m11' ?_
  refine switchToMax_run c sc.g sc.hw sc.u.u11 fun w2 hp2 g2 h2 e2 k2 => ?_
  obtain ⟨st2,b2⟩:=sc.turn c g2 h2 e2 k2
  refine goZ ?_
  refine findPrev_run m st2 (AtB.near m.bds (t:=u) (fun i hi hl => ?_) hu) (fin b2 e2 fun w3 S3 r1 r2 r3 => ?_)
  ·have a1:=ab i hi hl
   rw [ups_full _ _ hi]
   show prv (pos i)+1=_
   unfold prv
   rw [if_neg (by omega)]
   omega
  ·refine goZ ?_
   exact hk w3 S3 r1 r2 r3
 ·obtain ⟨a3,n3,c3,u3⟩:=sc.u.u3
  obtain ⟨a4,n4,c4,u4⟩:=sc.u.u4
  have hpN:u=0→p - 1 = -1:=by
   intro hu2
   rcases hcur with ⟨j,rfl,hj⟩ | ⟨rfl,h0⟩ | ⟨rfl,h0⟩
   ·have:=hb _ (List.mem_of_getElem? hj); omega
   ·rcases Nat.eq_zero_or_pos (covs Ls.size (Lf Ls) B).length with h1 | h1
    ·omega
    ·have:=hb _ (List.getElem_mem h1); omega
   ·omega
  have ended:u=0→k (fRet U 6 (GL snap Ls.size (Lf Ls) B) (p - 1)) w:=by
   intro hu2
   exact hk w S ⟨u,pos,vk,vb,vs,lk,ls,xb,sc,hu,.inr (.inr ⟨hpN hu2,hu2⟩),fun h _=>by have:=hpN hu2; omega,.inr (.inl ⟨h11,⟨hp',hh⟩,af,.inl hu2⟩)⟩ (fun _ h => .inl h) (Keep.refl _ w)
  have endN:u=0→fRet U 6 (GL snap Ls.size (Lf Ls) B) (p - 1) = .pointer none:=by
   intro hu2
   have:=hpN hu2
   exact fRet_none (by omega)
  have hse4:a4=none∨a3=none→u=0:=by
   intro h
   rcases hse with h1 | ⟨⟨v3,q3,s3⟩,⟨v4,q4,s4⟩⟩
   ·exact h1
   ·rw [u3] at q3
    rw [u4] at q4
    cases q3
    cases q4
    rw [isS_none] at s3 s4
    rcases h with rfl | rfl
    ·simp at s4
    ·simp at s3
  refine callZ [.tmp 2] func196 ?_
  cases a4 with
  | none =>
   have he:=ended (hse4 (.inl rfl))
   rw [endN (hse4 (.inl rfl))] at he
   simp (disch:=first | exact dZ | fail) only [go_sem,↓reduceIte,Nat.reduceEqDiff,Nat.reduceAdd,er,h11,u3,u4,p11,p11',Option.isNone_none]
   exact he
  | some a4 =>
   cases a3 with
   | none =>
    have he:=ended (hse4 (.inr rfl))
    rw [endN (hse4 (.inr rfl))] at he
    simp (disch:=first | exact dZ | fail) only [go_sem,↓reduceIte,Nat.reduceEqDiff,Nat.reduceAdd,er,h11,u3,u4,p11,p11',Option.isNone_none,Option.isNone_some]
    exact he
   | some a3 =>
    simp (disch:=first | exact dZ | fail) only [go_sem,↓reduceIte,Nat.reduceEqDiff,Nat.reduceAdd,er,h11,u3,u4,p11,p11',Option.isNone_none,Option.isNone_some]
    refine findPrev_run m ⟨sc.g,hh,sc.u,sc.r⟩ (af.near m.bds hu) (fin (Bef.refl _ _ _ _ _) h11 fun w3 S3 r1 r2 r3 => ?_)
    refine goZ ?_
    exact hk w3 S3 r1 r2 r3
 ·refine callZ [.tmp 2] func196 ?_
  refine gY4 @er @h11 @m01 @m01' ?_
  refine switchToMax_run c sc.g sc.hw sc.u.u11 fun w2 hp2 g2 h2 e2 k2 => ?_
  obtain ⟨st2,b2⟩:=sc.turn c g2 h2 e2 k2
  refine goZ ?_
  refine findPrev_run m st2 (AtB.near m.bds (t:=u) (fun i hi hl => ?_) hu) (fin b2 e2 fun w3 S3 r1 r2 r3 => ?_)
  ·have a1:=ab i hi hl
   rw [ups_full _ _ hi]
   show prv (pos i)+1=_
   unfold prv
   have hz:cp (Lf Ls) B u i=0:=by rw [h0]; rfl
   split <;> omega
  ·refine goZ ?_
   exact hk w3 S3 r1 r2 r3
end
end Go.Proofs
end
section
namespace Go.E
open Go Go.Sort Go.Proofs
section
variable {n:Nat} {L:Nat→List Sp} {B:List Bytes} {key:Bytes} {pos:Nat→Int}
theorem cK_ge' (h:Bds n L B) {i p:Nat} (hi:i < n) (hp:p < 2 * (L i).length) (hc:cK (L i) key≤p):¬ bnd (L i) p < key:=by
 have:=(not_congr (lt_cK (h.wf i hi) (key:=key) hp)).1 (by omega)
 split at this
 ·exact this
 ·exact ble_of (Classical.not_not.1 this)
theorem cK_le' (h:Bds n L B) {i p:Nat} (hi:i < n) (hp:p < 2 * (L i).length) (hc:p < cK (L i) key):¬ key < bnd (L i) p:=by
 have:=(lt_cK (h.wf i hi) (key:=key) hp).1 hc
 split at this
 ·exact ble_of this
 ·exact this
theorem B_bnd (h:Bds n L B) {j:Nat} (hj:j < B.length):∃ i,i < n∧∃ p,p < 2 * (L i).length∧bnd (L i) p=B[j]! := (h.mem _).1 (by rw [getElem!_pos B j hj]; exact List.getElem_mem _)
theorem seek_zero (h:Bds n L B) (hz:∀ i,i < n→cK (L i) key=0):uE B key≤1∧uL B key=0:=by
 have hge:∀ j,j < B.length→¬ B[j]! < key:=fun j hj=>by
  obtain ⟨i,hi,p,hp,e⟩:=B_bnd h hj
  rw [← e]
  exact cK_ge' h hi hp (by rw [hz i hi]; omega)
 have h1:=uE_le B key
 have h2:=uL_le B key
 constructor
 ·rcases Nat.lt_or_ge 1 (uE B key) with h3 | h3
  ·exfalso
   have h4:=(lt_uE h (key:=key) (j:=1) (by omega)).1 h3
   have h5:=(h.lt (i:=0) (j:=1) (by omega) (by omega)).2 (by omega)
   have h6:=hge 0 (by omega)
   exact h4 (bytes_lt_of h6 h5)
  ·exact h3
 ·rcases Nat.eq_zero_or_pos (uL B key) with h3 | h3
  ·exact h3
  ·exact absurd ((lt_uL h (key:=key) (j:=0) (by omega)).1 h3) (hge 0 (by omega))
theorem seek_full (h:Bds n L B) (hz:∀ i,i < n→cK (L i) key=2 * (L i).length):uE B key=B.length∧B.length≤uL B key+1:=by
 have hle:∀ j,j < B.length→¬ key < B[j]! := fun j hj=>by
  obtain ⟨i,hi,p,hp,e⟩:=B_bnd h hj
  rw [← e]
  exact cK_le' h hi hp (by rw [hz i hi]; exact hp)
 have h1:=uE_le B key
 have h2:=uL_le B key
 constructor
 ·rcases Nat.lt_or_ge (uE B key) B.length with h3 | h3
  ·have:=(lt_uE h (key:=key) h3).2 (hle _ h3); omega
  ·omega
 ·rcases Nat.lt_or_ge (uL B key+1) B.length with h3 | h3
  ·exfalso
   have h4:=(h.lt (i:=uL B key) (j:=uL B key+1) (by omega) h3).2 (by omega)
   have h5:=hle _ h3
   have:=(lt_uL h (key:=key) (j:=uL B key) (by omega)).2 (bytes_trans h4 h5)
   omega
  ·omega
theorem seek_eqF (h:Bds n L B) (hp:∀ i,i < n→0 < (L i).length→pos i=cK (L i) key) {r:Nat} (hr:r < n) (hv:vld (L r) (pos r)) (he:bnd (L r) (pos r).toNat=key):∃ t,t < B.length∧uE B key=t+1∧NearF n L B t pos:=by
 obtain ⟨q,eq,hq,h0⟩:=vld_pos hv
 rw [eq,Int.toNat_natCast] at he
 obtain ⟨t,ht,et⟩:=h.at hr hq
 rw [he] at et
 have hu:uE B key=t+1:=by
  have a:=(lt_uE h (key:=key) ht).2 (by rw [et]; exact List.lt_irrefl _)
  have b:=uE_le B key
  rcases Nat.lt_or_ge (t+1) (uE B key) with h3 | h3
  ·have:=(lt_uE h (key:=key) (j:=t+1) (by omega)).1 h3
   have h5:=(h.lt (i:=t) (j:=t+1) ht (by omega)).2 (by omega)
   rw [et] at h5
   exact absurd h5 this
  ·omega
 refine ⟨t,ht,hu,by omega,fun i hi hl => ?_,fun _=>⟨r,hr,hv,by rw [eq,Int.toNat_natCast,he,et]⟩⟩
 have a:=cL_le_cK (h.wf i hi) key
 have b:=cK_le_cE (h.wf i hi) key
 have c1:=cp_cL h ht hi
 rw [et] at c1
 have c2:=cp_uE h hi key
 rw [hu] at c2
 rw [hp i hi hl,show min (t+1) B.length=t+1 by omega]
 omega
theorem seek_neF (h:Bds n L B) (hp:∀ i,i < n→0 < (L i).length→pos i=cK (L i) key) (hne:∀ i,i < n→vld (L i) (pos i)→bnd (L i) (pos i).toNat≠key):AtF n L B (uE B key) pos:=by
 intro i hi hl
 rw [hp i hi hl,cp_uE h hi]
 have a:=cK_le_cE (h.wf i hi) key
 rcases Nat.lt_or_ge (cK (L i) key) (cE (L i) key) with h1 | h1
 ·exfalso
  have hq:cK (L i) key < 2 * (L i).length:=by have:=cE_le (L i) key; omega
  have e:=hp i hi hl
  have b:=hne i hi ⟨by omega,by omega⟩
  rw [e,Int.toNat_natCast] at b
  exact b (bytes_eq_of (cK_ge' h hi hq (Nat.le_refl _)) ((lt_cE (h.wf i hi) hq).1 h1))
 ·omega
theorem seek_eqB (h:Bds n L B) (hp:∀ i,i < n→0 < (L i).length→pos i+1=cK (L i) key) {r:Nat} (hr:r < n) (hv:vld (L r) (pos r)) (he:bnd (L r) (pos r).toNat=key):∃ t,0 < t∧t≤B.length∧uL B key+1=t∧NearB n L B t pos:=by
 obtain ⟨q,eq,hq,h0⟩:=vld_pos hv
 rw [eq,Int.toNat_natCast] at he
 obtain ⟨t,ht,et⟩:=h.at hr hq
 rw [he] at et
 have hu:uL B key=t:=by
  have b:=uL_le B key
  have a:=(not_congr (lt_uL h (key:=key) ht)).2 (by rw [et]; exact List.lt_irrefl _)
  rcases Nat.lt_or_ge (uL B key) t with h3 | h3
  ·have h5:=(h.lt (i:=uL B key) (j:=t) (by omega) ht).2 h3
   rw [et] at h5
   have:=(lt_uL h (key:=key) (j:=uL B key) (by omega)).2 h5
   omega
  ·omega
 refine ⟨t+1,by omega,by omega,by omega,by omega,fun i hi hl => ?_,fun _=>⟨r,hr,hv,by rw [eq,Int.toNat_natCast,he,Nat.add_sub_cancel,et]⟩⟩
 have a:=cL_le_cK (h.wf i hi) key
 have b:=cK_le_cE (h.wf i hi) key
 have c2:=cp_uL h hi key
 rw [hu] at c2
 have c3:cp L B (t+1) i=cE (L i) key:=by
  unfold cp
  rw [if_neg (by omega),Nat.add_sub_cancel,et]
 rw [hp i hi hl,Nat.add_sub_cancel]
 omega
theorem seek_neB (h:Bds n L B) (hp:∀ i,i < n→0 < (L i).length→pos i+1=cK (L i) key) (hne:∀ i,i < n→vld (L i) (pos i)→bnd (L i) (pos i).toNat≠key):AtB n L B (uL B key) pos:=by
 intro i hi hl
 rw [hp i hi hl,cp_uL h hi]
 have a:=cL_le_cK (h.wf i hi) key
 rcases Nat.lt_or_ge (cL (L i) key) (cK (L i) key) with h1 | h1
 ·exfalso
  have hcl:=cK_le (L i) key
  have e:=hp i hi hl
  obtain ⟨q,eq⟩:∃ q:Nat,pos i=q:=⟨(pos i).toNat,by omega⟩
  have hq:q < 2 * (L i).length:=by omega
  have b:=hne i hi ⟨by omega,by omega⟩
  rw [eq,Int.toNat_natCast] at b
  refine b (bytes_eq_of (fun hlt => ?_) (cK_le' h hi hq (by omega)))
  have:=(lt_cL (h.wf i hi) hq).2 hlt
  omega
 ·omega
theorem seek_rootF (h:Bds n L B) (hp:∀ i,i < n→0 < (L i).length→pos i=cK (L i) key) {r:Nat} (hr:r < n) (hv:vld (L r) (pos r)) (hmin:∀ x,x < n→vld (L x) (pos x)→¬ bnd (L x) (pos x).toNat < bnd (L r) (pos r).toNat) (hne:bnd (L r) (pos r).toNat≠key):∀ i,i < n→vld (L i) (pos i)→bnd (L i) (pos i).toNat≠key:=by
 intro i hi hvi he
 obtain ⟨q,eq,hq,h0⟩:=vld_pos hv
 have a:=cK_ge' h (key:=key) hr hq (by have:=hp r hr h0; omega)
 have b:=hmin i hi hvi
 rw [he] at b
 rw [eq,Int.toNat_natCast] at b hne
 exact hne (bytes_eq_of a b)
theorem seek_rootB (h:Bds n L B) (hp:∀ i,i < n→0 < (L i).length→pos i+1=cK (L i) key) {r:Nat} (hr:r < n) (hv:vld (L r) (pos r)) (hmax:∀ x,x < n→vld (L x) (pos x)→¬ bnd (L r) (pos r).toNat < bnd (L x) (pos x).toNat) (hne:bnd (L r) (pos r).toNat≠key):∀ i,i < n→vld (L i) (pos i)→bnd (L i) (pos i).toNat≠key:=by
 intro i hi hvi he
 obtain ⟨q,eq,hq,h0⟩:=vld_pos hv
 have a:=cK_le' h (key:=key) hr hq (by have:=hp r hr h0; omega)
 have b:=hmax i hi hvi
 rw [he] at b
 rw [eq,Int.toNat_natCast] at b hne
 exact hne (bytes_eq_of b a)
theorem seek_kindF (h:Bds n L B) (hp:∀ i,i < n→0 < (L i).length→pos i=cK (L i) key) {r:Nat} (hr:r < n) (hv:vld (L r) (pos r)) (hk:pos r % 2≠0):bnd (L r) (pos r).toNat≠key:=by
 obtain ⟨q,eq,hq,h0⟩:=vld_pos hv
 have e:=hp r hr h0
 have a:=(not_congr (lt_cK (h.wf r hr) (key:=key) hq)).1 (by omega)
 rw [if_neg (by omega)] at a
 intro he
 rw [eq,Int.toNat_natCast] at he
 rw [he] at a
 exact List.lt_irrefl _ (Classical.not_not.1 a)
theorem seek_kindB (h:Bds n L B) (hp:∀ i,i < n→0 < (L i).length→pos i+1=cK (L i) key) {r:Nat} (hr:r < n) (hv:vld (L r) (pos r)) (hk:pos r % 2=0):bnd (L r) (pos r).toNat≠key:=by
 obtain ⟨q,eq,hq,h0⟩:=vld_pos hv
 have e:=hp r hr h0
 have a:=(lt_cK (h.wf r hr) (key:=key) hq).1 (by omega)
 rw [if_pos (by omega)] at a
 intro he
 rw [eq,Int.toNat_natCast] at he
 rw [he] at a
 exact List.lt_irrefl _ a
end
end Go.E
end
section
set_option maxRecDepth 10000
namespace Go.Proofs
open Go Go.E Go.Sort Go.Proofs.Tryz
section
variable {k:Kont} {d w:World} {U Bf C snap:Nat} {Ls:Array Lvl} {B:List Bytes} {S:Nat→Prop} {pos:Nat→Int} {vk vb vs:Value} {lk ls:List KR} {xb:List Value} {p:Int}
theorem key_keep {w1:World} {S1:Nat→Prop} {kv:Value} {key:Bytes} (h:Bts w kv key) (hv:VIn kv fun b=>∀ x,¬ mT U Bf Ls b x∧¬ S b) (b1:Bef w w1 U Bf Ls S S1):Bts w1 kv key :=
 h.keep b1.k fun a n c e hlt x hm=>by
  have:=hv a n c e x
  rcases mgM_mT _ _ hm with h1 | h1
  ·exact this.1 h1
  ·exact this.2 h1
set_option maxHeartbeats 4000000 in
theorem SeekGE_run {kva:Option Addr} {kn kc:Nat} {key:Bytes} (m:MS d U Bf C Ls snap B) (sc:Sc d w U Bf C snap Ls S pos vk vb vs lk ls xb) (hkey:Bts w (.slice kva kn kc) key) (hkv:VIn (.slice kva kn kc) fun b=>∀ x,¬ mT U Bf Ls b x∧¬ S b)
    (hk:FK (.pointer none) U 6 (GL snap Ls.size (Lf Ls) B) (mT U Bf Ls) (Mi d U Bf C snap Ls B) w S (skGE (GL snap Ls.size (Lf Ls) B) key) k):callK prog 197 #[.pointer (some ⟨U,2,none⟩),.slice kva kn kc] k w:=by
 have c:=m.mc
 have c1:=sc.g.bufs
 have lvs:=sc.g.lvls
 refine callZ [.tmp 4] func197 ?_
 refine goZ ?_
 refine inval_run sc.g ?_
 refine gY2 @c1 @lvs ?_
 refine loopC (fun i:Nat=>[(0,.pointer (some ⟨U,2,none⟩)),(1,.slice kva kn kc),(19,.int .i64 Ls.size),(20,.int .i64 i)]) (fun i w'=>Sc d w' U Bf C snap Ls S (ups (fun x _=>(cK Ls[x]!.L key:Int) - 1) pos i) vk vb vs lk ls xb∧Bef w w' U Bf Ls S S∧i≤Ls.size) (fun i _=>Ls.size - i) 0 (by kernel_rfl) ?_ ⟨by rw [ups_zero]; exact sc,Bef.refl _ _ _ _ _,Nat.zero_le _⟩ ?_
 ·exact agZ
 rintro K e i w1 ⟨sc1,b1,hi0⟩ hK
 have c1:=sc1.g.bufs
 have lvs:=sc1.g.lvls
 have n10:=c.n10
 by_cases hi:i < Ls.size
 ·have hi':(i:Int) < Ls.size:=by omega
  have l1:=sc1.g.lv i hi
  rw [ups_same] at l1
  have d0:=l1.it
  have d1:=l1.kd
  obtain ⟨v2,d2,_,_⟩:=l1.ky
  obtain ⟨v3,d3,_,_⟩:=l1.sp
  have e2:=ups_step (fun x _=>(cK Ls[x]!.L key:Int) - 1) pos i
  have hsz:=c.sz i hi
  have hk1:=key_keep hkey hkv b1
  have hkb:∀ w',Keep (itM Ls[i]!.I) w1 w'→Bts w' (.slice kva kn kc) key:=fun w' hk'=>hk1.keep hk' fun a n cc e _ x hx=>(hkv a n cc e x).1 (.inr (.inr ⟨i,hi,hx.1⟩))
  refine gY4 @hi' @c1 @lvs @d0 ?_
  refine IterSeekLT_run l1.iter (by omega) sc1.g.inc (c.oI i hi) (c.sp i hi) (c.wf i hi) hkb fun w2 r i2 k2 hr h1 h2 => ?_
  have nU:∀ x,¬ itM Ls[i]!.I U x:=fun x h=>c.iU i hi h.1.symm
  have nB:∀ x,¬ itM Ls[i]!.I Bf x:=fun x h=>c.iB i hi h.1.symm
  have c1:=k2.some c1 (nU _)
  have lvs:=k2.some lvs (nB _)
  have d1:=k2.some d1 (nU _)
  have d2:=k2.some d2 (nU _)
  have d3:=k2.some d3 (nU _)
  have hc0:=k2.some sc1.hw.c0 (nB _)
  have fU:∀ x,w2.frozen? ⟨U,x,none⟩=false:=fun x=>by rw [k2.frozen U x (lt_of_cell sc1.g.bufs)]; exact sc1.g.fU x
  have hck:=cK_lt (c.wf i hi) hr h1 h2
  have hcl:=cK_le Ls[i]!.L key
  by_cases hr0:r=0
  ·rw [if_neg (by omega)]
   rw [if_pos hr0] at hck
   simp (disch:=first | exact dZ | fail) only [go_sem,↓reduceIte,Nat.reduceEqDiff,Nat.reduceAdd,c1,lvs,d1,d2,d3,fU,Option.isNone_none]
   have q1:=l1.mk' (q:=(cK Ls[i]!.L key:Int) - 1) (x:=0) (y := .slice none 0 0) (z := .pointer none) (Ne.symm (c.iU i hi)) (by omega) (by rw [hck]; subst hr0; exact i2) k2 (by rw [kdOf_none (by unfold vld; omega)]) rfl rfl (fun h=>by unfold vld at h; omega) (fun h=>by unfold vld at h; omega)
   obtain ⟨sc2,b2⟩:=sc1.lv c hi q1 (lv_keep k2)
   rw [e2] at sc2
   refine hK _ _ (i+1) ?_ ⟨sc2,b1.trans b2,by omega⟩ (by omega)
   exact agZ
  ·rw [if_pos (by omega)]
   rw [if_neg hr0] at hck
   have hinc2:Inc d w2:=sc1.g.inc.keep k2 fun b x h=>by rw [h.1]; exact c.oI i hi x
   obtain ⟨⟨vv1,s1,s1s,s1b⟩,⟨vv2,s2,s2s,s2b⟩,_,_⟩:=c.sp i hi (r - 1) (by omega)
   have s1:=hinc2 _ _ _ s1
   have s2:=hinc2 _ _ _ s2
   obtain ⟨a1,n1,cc1,rfl⟩:=isS_form s1s
   obtain ⟨a2,n2,cc2,rfl⟩:=isS_form s2s
   simp (disch:=first | exact dZ | fail) only [go_sem,↓reduceIte,Nat.reduceEqDiff,Nat.reduceAdd,spP,Option.isNone_some,s2]
   refine cmp_run (f:=0) c1 hc0 (s2b.inc hinc2) (hkb w2 k2) ?_
   by_cases hle:Ls[i]!.L[r - 1]!.e≤key
   ·have hle':cmpB Ls[i]!.L[r - 1]!.e key≤0:=cmpB_le_zero.2 hle
    rw [if_pos hle] at hck
    have hnn:((cK Ls[i]!.L key:Int) - 1).toNat / 2=r - 1:=by omega
    refine gY6 @hle' @s2 @d1 @d2 @d3 @fU ?_
    have q1:=l1.mk' (q:=(cK Ls[i]!.L key:Int) - 1) (x:=2) (y := .slice (some a2) n2 cc2) (z:=spP Ls[i]!.b Ls[i]!.o (r - 1)) (Ne.symm (c.iU i hi)) (by omega) (by rw [show ((cK Ls[i]!.L key:Int) - 1) / 2=(r:Int) - 1 by omega]; exact i2) k2 ((kdOf_end ⟨by omega,by omega⟩ (by omega)).symm) rfl rfl (fun h=>⟨rfl,by unfold bnd; rw [if_neg (by omega),hnn]; exact s2b⟩) (fun h=>by rw [hnn])
    obtain ⟨sc2,b2⟩:=sc1.lv c hi q1 (lv_keep k2)
    rw [e2] at sc2
    refine hK _ _ (i+1) ?_ ⟨sc2,b1.trans b2,by omega⟩ (by omega)
    exact agZ
   ·have hle':¬ cmpB Ls[i]!.L[r - 1]!.e key≤0:=fun h=>hle (cmpB_le_zero.1 h)
    rw [if_neg hle] at hck
    have hnn:((cK Ls[i]!.L key:Int) - 1).toNat / 2=r - 1:=by omega
    refine gY6 @hle' @s1 @d1 @d2 @d3 @fU ?_
    have q1:=l1.mk' (q:=(cK Ls[i]!.L key:Int) - 1) (x:=1) (y := .slice (some a1) n1 cc1) (z:=spP Ls[i]!.b Ls[i]!.o (r - 1)) (Ne.symm (c.iU i hi)) (by omega) (by rw [show ((cK Ls[i]!.L key:Int) - 1) / 2=(r:Int) - 1 by omega]; exact i2) k2 ((kdOf_start ⟨by omega,by omega⟩ (by omega)).symm) rfl rfl (fun h=>⟨rfl,by unfold bnd; rw [if_pos (by omega),hnn]; exact s1b⟩) (fun h=>by rw [hnn])
    obtain ⟨sc2,b2⟩:=sc1.lv c hi q1 (lv_keep k2)
    rw [e2] at sc2
    refine hK _ _ (i+1) ?_ ⟨sc2,b1.trans b2,by omega⟩ (by omega)
    exact agZ
 ·have hi':¬ (i:Int) < Ls.size:=by omega
  obtain rfl:i=Ls.size:=by omega
  obtain ⟨pos1,hpos1⟩:∃ pos1,pos1=ups (fun x _=>(cK Ls[x]!.L key:Int) - 1) pos Ls.size:=⟨_,rfl⟩
  rw [← hpos1] at sc1
  have hpk':∀ i,i < Ls.size→pos1 i+1=cK (Lf Ls i) key:=fun i hi=>by
   rw [hpos1,ups_full _ _ hi]
   show (cK Ls[i]!.L key:Int) - 1+1=_
   have:(cK Ls[i]!.L key:Int) - 1+1=cK Ls[i]!.L key:=by omega
   exact this
  have hpk:∀ i,i < Ls.size→0 < (Lf Ls i).length→pos1 i+1=cK (Lf Ls i) key:=fun i hi _=>hpk' i hi
  have hcle:∀ i,cK (Lf Ls i) key≤2 * Ls[i]!.L.length:=fun i=>cK_le (Lf Ls i) key
  have hpn:∀ i,i < Ls.size→ups (fun x=>nxt Ls[x]!.L) pos1 Ls.size i=cK (Lf Ls i) key:=fun i hi=>by
   rw [ups_full _ _ hi]
   have a1:=hpk' i hi
   have a2:=hcle i
   show nxt Ls[i]!.L (pos1 i)=_
   unfold nxt
   rw [if_neg (by omega)]
   omega
  have hpn':∀ i,i < Ls.size→0 < (Lf Ls i).length→ups (fun x=>nxt Ls[x]!.L) pos1 Ls.size i=cK (Lf Ls i) key:=fun i hi _=>hpn i hi
  have hcv:=covs_b m.bds
  refine gY1 @hi' ?_
  refine initMaxHeap_run c sc1.g sc1.hw sc1.u.u11 fun w2 hp2 g2 h2 e2 k2 => ?_
  obtain ⟨st2,b2⟩:=sc1.turn c g2 h2 e2 k2
  have c1:=st2.g.bufs
  have c2:=st2.h.at_.c2
  have er:=st2.g.err
  by_cases h0:0 < hp2.size
  ·have h0':((hp2.size:Int) == 0)=false:=by rw [beq_eq_false_iff_ne]; omega
   have hr:=(st2.h.mem _).1 (mem_at h0)
   obtain ⟨r,hre⟩:∃ r,r=hp2[0]! := ⟨_,rfl⟩
   rw [← hre] at hr
   have lr:=st2.g.lv r hr.1
   have dk:=lr.kd
   obtain ⟨kv2,d2,kvc,y2⟩:=lr.ky
   obtain ⟨kvS,kvB⟩:=y2 hr.2
   obtain ⟨X,hX⟩:∃ X,X=bnd Ls[r]!.L (pos1 r).toNat:=⟨_,rfl⟩
   rw [← hX] at kvB
   obtain ⟨kva2,kvn2,kvc2,rfl⟩:=isS_form kvS
   have p0:=st2.h.at_.ptr 0 h0
   rw [← hre] at p0
   obtain ⟨_,_,_,u3⟩:=st2.u.u3
   have fU:=st2.g.fU
   have z0:(0:Int).toNat=0:=rfl
   have z1:(0:Int)≤0:=by decide
   have hz2:(0:Int) < hp2.size:=by omega
   refine gY14 @c1 @c2 @er @h0' @p0 @d2 @dk @z0 @z1 @hz2 @u3 @fU @Nat.zero_mul @Nat.add_zero ?_
   obtain ⟨st3,l3⟩:=st2.setU m.mc (x:=3) (.inl rfl) (.slice (some kva2) kvn2 kvc2) ⟨_,_,_,rfl⟩
   obtain ⟨w3,hw3⟩:∃ w3,w3=w2.setCell ⟨U,3,none⟩ (.slice (some kva2) kvn2 kvc2):=⟨_,rfl⟩
   rw [← hw3] at st3 l3 ⊢
   have w33:w3.cell? ⟨U,3,none⟩=some (.slice (some kva2) kvn2 kvc2):=by rw [hw3]; exact eY1 @u3
   refine cutX (fun _:Unit=>[(0,.pointer (some ⟨U,2,none⟩)),(1,.slice kva kn kc)]) (fun _ w'=>∃ S2 vb2 xb2 v,St d w' U Bf C snap Ls S2 pos1 true hp2 vk vb2 vs lk ls xb2∧Lt w2 w' U Bf Ls S S2∧w'.cell? ⟨U,3,none⟩=some v∧isS v=true∧SB d vb2 xb2 v X) (by kernel_rfl) (by kernel_rfl) (fun K3 hK3 => ?_) ?_
   ·by_cases hkd:kdOf Ls[r]!.L (pos1 r)=2
    ·have e5:(kdOf Ls[r]!.L (pos1 r) == 2)=true:=by rw [hkd]; rfl
     have c1:=st3.g.bufs
     have b5:=st3.r.bh
     have fB:=st3.g.fB
     have fU:=st3.g.fU
     have hUs2:=lt_of_cell c1
     have hBs2:=lt_of_cell b5
     obtain ⟨ba,bcap,hbe,hbc,_⟩:=own_slice st3.r.bo
     subst hbe
     have zb:(0:Int)≤bcap:=by omega
     have kvB2:Bts w3 (.slice (some kva2) kvn2 kvc2) X:=kvB.inc st3.g.inc
     refine gY1 @e5 ?_
     refine drawZ (sq [0,1,2] (.read 3 (sq [4,5,6] (.read 7 (sq [8,9] (.read 10 (sq [11,12,13,14] (.read 15 (.eff 16 [3] (sq [17,18] (.eff 19 [] .done))))))))))) ?_
     simp (disch:=first | exact dZ | fail) only [go_sem,↓reduceIte,Nat.reduceEqDiff,Nat.reduceAdd,c1,b5,w33,slH Tryz.es107,z0,zb]
     have hBm:X ∈ B:=(m.bds.mem X).2 ⟨r,hr.1,(pos1 r).toNat,by have:=hr.2; unfold vld at this; show (pos1 r).toNat < 2 * Ls[r]!.L.length; omega,hX.symm⟩
     have hbl:=m.blen _ hBm
     simp only [apX]
     refine appE (m:=X.length) (news:=u8s X) rw107 (own_clear st3.r.bo).drew (by rw [u8s_length,Nat.mul_one]) (lies_of_bts (by exact kvB2)) (oneCell_u8s _) (by omega) fun v5 w5 o5 k5 n5 s5 => ?_
     obtain ⟨a5,cap5,e5',_,_⟩:=own_slice o5
     subst e5'
     have k5:Keep (fun b _=>(Value.slice ba xb.length bcap).ownBlock=some b) w3 w5:=(Keep.refl _ w3).drew.trans (k5 _ fun b o hb _=>by rw [own_len ba xb.length 0]; exact hb)
     have n25:Newer w3 (.slice ba xb.length bcap) (.slice a5 (0+X.length) cap5):=fun g' hg'=>by
      rcases n5 with h | ⟨g2,h,h',_⟩
      ·exact .inl (by rw [← hg',h]; exact own_len _ _ _ _)
      ·rw [h] at hg'
       simp only [Option.some.injEq] at hg'
       subst hg'
       exact .inr h'
     rw [List.nil_append,Nat.zero_add,← u8s_length] at o5
     rw [Nat.zero_add,← u8s_length] at n25 s5
     have hnb:∀ g',(Value.slice ba xb.length bcap).ownBlock=some g'→g'≠U∧g'≠Bf:=fun g' hg'=>⟨(st3.r.sp _ (st3.r.bS _ hg')).1,(st3.r.sp _ (st3.r.bS _ hg')).2.1⟩
     obtain ⟨st6,l6⟩:=st3.buf m.mc o5 k5 n25
     have c1:=k5.some c1 fun h=>(hnb _ h).1 rfl
     have b5:=k5.some b5 fun h=>(hnb _ h).2 rfl
     have w53:=k5.some w33 fun h=>(hnb _ h).1 rfl
     have fB:∀ x,w5.frozen? ⟨Bf,x,none⟩=false:=fun x=>by rw [k5.frozen Bf x hBs2]; exact fB x
     have fU:∀ x,w5.frozen? ⟨U,x,none⟩=false:=fun x=>by rw [k5.frozen U x hUs2]; exact fU x
     rw [Nat.zero_add,← u8s_length]
     refine gY5 @c1 @b5 @w53 @fB @fU ?_
     obtain ⟨st7,l7⟩:=st6.setU m.mc (x:=3) (.inl rfl) (.slice a5 (u8s X).length cap5) ⟨_,_,_,rfl⟩
     have hne:X≠[]:=by
      intro h0
      have hl:=(m.mc.wf r hr.1).1 ((pos1 r).toNat / 2) (by have:=hr.2; unfold vld at this; omega)
      have:bnd Ls[r]!.L (pos1 r).toNat=[]:=by rw [← h0]; exact hX.symm
      have hodd:¬ (pos1 r).toNat % 2=0:=fun he=>by
       rw [kdOf_start hr.2 (by have:=hr.2; unfold vld at this; omega)] at hkd
       omega
      unfold bnd at this
      rw [if_neg hodd] at this
      rw [this] at hl
      simp at hl
     refine hK3 _ _ () ?_ ⟨_,_,u8s X,_,st7,(l3.trans l6).trans l7,?_,isS_of_own (s5 (by rw [u8s_length]; exact List.length_pos_iff.2 hne)),.inr ⟨rfl,rfl⟩⟩
     ·exact agZ
     ·exact eY1 @w53
    ·have e5:(kdOf Ls[r]!.L (pos1 r) == 2)=false:=by rw [beq_eq_false_iff_ne]; exact hkd
     refine gY1 @e5 ?_
     refine hK3 _ _ () ?_ ⟨S,vb,xb,_,st3,l3,w33,rfl,.inl kvB⟩
     exact agZ
   ·rintro e3 _ w4 ⟨S4,vb4,xb4,v4,st4,l4,q4,hs4,sb4⟩
    obtain ⟨v4a,v4n,v4c,rfl⟩:=isS_form hs4
    have b4:Bef w w4 U Bf Ls S S4:=(b1.trans b2).trans l4.bef
    refine goZ ?_
    refine switchToMin_run c st4.g st4.sc.hw st4.u.u11 fun w5 hp5 g5 h5 e5 k5 => ?_
    obtain ⟨st5,b5⟩:=st4.sc.turn c g5 h5 e5 k5
    have q5:=k5.some q4 (by
     rintro (h | ⟨_,h⟩)
     ·exact mvM_U c (by omega) h
     ·omega)
    have b05:=b4.trans b5
    have c1:=st5.g.bufs
    have c2:=st5.h.at_.c2
    have er:=st5.g.err
    by_cases h6:0 < hp5.size
    ·have h6':((hp5.size:Int) == 0)=false:=by rw [beq_eq_false_iff_ne]; omega
     have hz6:(0:Int) < hp5.size:=by omega
     obtain ⟨pos2,hpos2⟩:∃ pos2,pos2=ups (fun x=>nxt Ls[x]!.L) pos1 Ls.size:=⟨_,rfl⟩
     rw [← hpos2] at st5 hpn hpn'
     have hr5:=(st5.h.mem _).1 (mem_at h6)
     obtain ⟨r5,hre5⟩:∃ r5,r5=hp5[0]! := ⟨_,rfl⟩
     rw [← hre5] at hr5
     have hmin5:∀ x,x < Ls.size→vld (Lf Ls x) (pos2 x)→¬ bnd (Lf Ls x) (pos2 x).toNat < bnd (Lf Ls r5) (pos2 r5).toNat:=fun x hx hv=>by rw [hre5]; exact st5.h.root_min hx hv
     have lr5:=st5.g.lv r5 hr5.1
     have dk5:=lr5.kd
     obtain ⟨kv5,d5,_,y5⟩:=lr5.ky
     obtain ⟨kvS5,kvB5⟩:=y5 hr5.2
     obtain ⟨kva5,kvn5,kvc5,rfl⟩:=isS_form kvS5
     have p5:=st5.h.at_.ptr 0 h6
     rw [← hre5] at p5
     obtain ⟨_,_,_,u4⟩:=st5.u.u4
     have fU:=st5.g.fU
     have hkey5:=key_keep hkey hkv b05
     have tail:bnd (Lf Ls r5) (pos2 r5).toNat≠key →
         AtF Ls.size (Lf Ls) B (uE B key) pos2∧uE B key < B.length∧0 < uE B key∧bnd Ls[r5]!.L (pos2 r5).toNat=B[uE B key]! ∧ X=B[uE B key - 1]! := by
      intro hne
      have hall:=seek_rootF m.bds hpn' hr5.1 hr5.2 hmin5 hne
      have af:=seek_neF m.bds hpn' hall
      obtain ⟨q1,q2⟩:=(af.near m.bds (uE_le _ _)).root m.bds hr5.1 hr5.2 hmin5
      have ab:AtB Ls.size (Lf Ls) B (uE B key) pos1:=fun i hi hl=>by rw [hpk i hi hl,← af i hi hl,hpn i hi]
      obtain ⟨q3,q4⟩:=(ab.near m.bds (uE_le _ _)).root m.bds hr.1 hr.2 fun x hx hv=>by rw [hre]; exact st2.h.root_max hx hv
      exact ⟨af,q1,q3,q2,by rw [hX]; exact q4⟩
     by_cases hkd5:kdOf Ls[r5]!.L (pos2 r5)=1
     ·have e7:(kdOf Ls[r5]!.L (pos2 r5) == 1)=true:=by rw [hkd5]; rfl
      refine gY13 @c1 @c2 @er @h6' @p5 @d5 @dk5 @e7 @z0 @z1 @hz6 @Nat.zero_mul @Nat.add_zero ?_
      refine cmp_run (f:=0) (x:=bnd Ls[r5]!.L (pos2 r5).toNat) (y:=key) c1 st5.h.at_.c0 (kvB5.inc st5.g.inc) hkey5 ?_
      by_cases heq:bnd Ls[r5]!.L (pos2 r5).toNat=key
      ·have e8:(cmpB (bnd Ls[r5]!.L (pos2 r5).toNat) key == 0)=true:=by rw [beq_iff_eq]; exact cmpB_eq_zero.2 heq
       refine gY1 @e8 ?_
       obtain ⟨t,ht,hut,nf⟩:=seek_eqF m.bds hpn' hr5.1 hr5.2 heq
       refine findNext_run m st5 nf (finF (q:=(skGE (GL snap Ls.size (Lf Ls) B) key:Nat)) m b05 e5 (fun u hu htu hno => ?_) (fun hno => ?_) (fun w6 S6 r1 r2 r3 => ?_))
       ·have h:=skGE_found (snap:=snap) m.bds (key:=key) hu (by omega) fun v hv hle=>hno v hv (by omega)
        exact ⟨h.1,by omega,by omega⟩
       ·rw [skGE_none m.bds (key:=key) fun v hv hle=>hno v hv (by omega)]
       ·refine goZ ?_
        exact hk w6 S6 r1 r2 r3
      ·have e8:(cmpB (bnd Ls[r5]!.L (pos2 r5).toNat) key == 0)=false:=by rw [beq_eq_false_iff_ne]; exact fun h=>heq (cmpB_eq_zero.1 h)
       refine gY12 @e8 @c1 @c2 @p5 @d5 @u4 @fU @z0 @z1 @hz6 @Nat.zero_mul @Nat.add_zero ?_
       obtain ⟨af,hum,hu0,hE,hXE⟩:=tail heq
       obtain ⟨st6,l6⟩:=st5.setU m.mc (x:=4) (.inr rfl) (.slice (some kva5) kvn5 kvc5) ⟨_,_,_,rfl⟩
       obtain ⟨w6,hw6⟩:∃ w6,w6=w5.setCell ⟨U,4,none⟩ (.slice (some kva5) kvn5 kvc5):=⟨_,rfl⟩
       rw [← hw6] at st6 l6 ⊢
       have q63:w6.cell? ⟨U,3,none⟩=some (.slice (some v4a) v4n v4c):=by rw [hw6]; exact eY1 @q5
       have q64:w6.cell? ⟨U,4,none⟩=some (.slice (some kva5) kvn5 kvc5):=by rw [hw6]; exact eY1 @u4
       have q6d:w6.cell? ⟨U,11,none⟩=some (.int .i8 1):=by rw [hw6]; exact eY1 @e5
       refine synthF_run (u:=uE B key) m st6.g st6.u st6.h.at_.c0 af st6.r.k st6.r.s (fun g hg=>by obtain ⟨a1,a2,a3,a4,_⟩:=st6.r.sp _ (st6.r.kS g hg); exact ⟨a1,a2,a3,a4⟩) (fun g hg=>by obtain ⟨a1,a2,a3,a4,_⟩:=st6.r.sp _ (st6.r.sS g hg); exact ⟨a1,a2,a3,a4,st6.r.ks g hg⟩) q63 q64 fun w7 ka n cap vs7 lk7 ls7 out p6 p7 p8 p9 ok ol ot oT os b9 nk ns dj k7 => ?_
       subst ol
       obtain ⟨st7,l7⟩:=st6.syn m.mc ok os nk ns dj k7 ⟨_,p6⟩ ⟨_,p7⟩ ⟨_,p8⟩ ⟨_,p9⟩ b9
       have n7:∀ x,x≤5∨x=11→¬ syM U Bf vk vs U x:=by
        rintro x hx (⟨_,h1,h2⟩ | ⟨h,_⟩ | h | h)
        ·omega
        ·exact m.mc.ne h.symm
        ·exact (st6.r.sp _ (st6.r.kS _ h)).1 rfl
        ·exact (st6.r.sp _ (st6.r.sS _ h)).1 rfl
       have q73:=k7.some q63 (n7 _ (by omega))
       have q74:=k7.some q64 (n7 _ (by omega))
       have q7d:=k7.some q6d (n7 _ (by omega))
       have b07:=(b05.trans l6.bef).trans l7.bef
       by_cases hcov:cov Ls.size (Lf Ls) B (uE B key)=true
       ·rw [hcov]
        refine goZ ?_
        have hin:uE B key ∈ covs Ls.size (Lf Ls) B:=mem_covs.2 ⟨by omega,hcov⟩
        have h:=skGE_found (snap:=snap) m.bds (key:=key) hin (Nat.le_refl _) fun v hv hle=>by omega
        have:=b07.ret (C:=C) (snap:=snap) (B:=B) (d:=d) (q:=(skGE (GL snap Ls.size (Lf Ls) B) key:Nat)) hk ⟨uE B key,_,_,_,_,_,_,_,st7.sc,by omega,h.1,fun _ _=>⟨⟨_,p6,by rw [hXE] at sb4; exact st7.r.lb sb4⟩,⟨_,p7,by rw [hE] at kvB5; exact .inl kvB5⟩,⟨ka,_,cap,lk7,out,p8,ok.own,rfl,ot,ok.good,oT,fun g hg => .inr (.inl hg)⟩,p9⟩,.inl ⟨q7d,⟨_,st7.h⟩,af,.inr ⟨⟨_,q73,rfl⟩,⟨_,q74,rfl⟩⟩⟩⟩
        rwa [fRet_some (by omega) (by rw [GL_length]; omega)] at this
       ·have hcov:cov Ls.size (Lf Ls) B (uE B key)=false:=by simpa using hcov
        rw [hcov]
        refine goZ ?_
        have hnot:∀ v ∈ covs Ls.size (Lf Ls) B,uE B key≤v→uE B key < v:=fun v hv hle=>by
         rcases Nat.lt_or_eq_of_le hle with h | h
         ·exact h
         ·subst h
          have:=(mem_covs.1 hv).2
          rw [hcov] at this
          simp at this
        refine findNext_run m st7 (af.near m.bds (uE_le _ _)) (finF (q:=(skGE (GL snap Ls.size (Lf Ls) B) key:Nat)) m b07 q7d (fun u hu htu hno => ?_) (fun hno => ?_) (fun w8 S8 r1 r2 r3 => ?_))
        ·have h:=skGE_found (snap:=snap) m.bds (key:=key) hu (by omega) fun v hv hle=>hno v hv (hnot v hv hle)
         exact ⟨h.1,by omega,by omega⟩
        ·rw [skGE_none m.bds (key:=key) fun v hv hle=>hno v hv (hnot v hv hle)]
        ·refine goZ ?_
         exact hk w8 S8 r1 r2 r3
     ·have e7:(kdOf Ls[r5]!.L (pos2 r5) == 1)=false:=by rw [beq_eq_false_iff_ne]; exact hkd5
      have hne5:bnd (Lf Ls r5) (pos2 r5).toNat≠key:=seek_kindF m.bds hpn' hr5.1 hr5.2 fun he=>hkd5 (kdOf_start hr5.2 he)
      refine gY15 @c1 @c2 @er @h6' @p5 @d5 @dk5 @e7 @z0 @z1 @hz6 @u4 @fU @Nat.zero_mul @Nat.add_zero ?_
      obtain ⟨af,hum,hu0,hE,hXE⟩:=tail hne5
      obtain ⟨st6,l6⟩:=st5.setU m.mc (x:=4) (.inr rfl) (.slice (some kva5) kvn5 kvc5) ⟨_,_,_,rfl⟩
      obtain ⟨w6,hw6⟩:∃ w6,w6=w5.setCell ⟨U,4,none⟩ (.slice (some kva5) kvn5 kvc5):=⟨_,rfl⟩
      rw [← hw6] at st6 l6 ⊢
      have q63:w6.cell? ⟨U,3,none⟩=some (.slice (some v4a) v4n v4c):=by rw [hw6]; exact eY1 @q5
      have q64:w6.cell? ⟨U,4,none⟩=some (.slice (some kva5) kvn5 kvc5):=by rw [hw6]; exact eY1 @u4
      have q6d:w6.cell? ⟨U,11,none⟩=some (.int .i8 1):=by rw [hw6]; exact eY1 @e5
      refine synthF_run (u:=uE B key) m st6.g st6.u st6.h.at_.c0 af st6.r.k st6.r.s (fun g hg=>by obtain ⟨a1,a2,a3,a4,_⟩:=st6.r.sp _ (st6.r.kS g hg); exact ⟨a1,a2,a3,a4⟩) (fun g hg=>by obtain ⟨a1,a2,a3,a4,_⟩:=st6.r.sp _ (st6.r.sS g hg); exact ⟨a1,a2,a3,a4,st6.r.ks g hg⟩) q63 q64 fun w7 ka n cap vs7 lk7 ls7 out p6 p7 p8 p9 ok ol ot oT os b9 nk ns dj k7 => ?_
      subst ol
      obtain ⟨st7,l7⟩:=st6.syn m.mc ok os nk ns dj k7 ⟨_,p6⟩ ⟨_,p7⟩ ⟨_,p8⟩ ⟨_,p9⟩ b9
      have n7:∀ x,x≤5∨x=11→¬ syM U Bf vk vs U x:=by
       rintro x hx (⟨_,h1,h2⟩ | ⟨h,_⟩ | h | h)
       ·omega
       ·exact m.mc.ne h.symm
       ·exact (st6.r.sp _ (st6.r.kS _ h)).1 rfl
       ·exact (st6.r.sp _ (st6.r.sS _ h)).1 rfl
      have q73:=k7.some q63 (n7 _ (by omega))
      have q74:=k7.some q64 (n7 _ (by omega))
      have q7d:=k7.some q6d (n7 _ (by omega))
      have b07:=(b05.trans l6.bef).trans l7.bef
      by_cases hcov:cov Ls.size (Lf Ls) B (uE B key)=true
      ·rw [hcov]
       refine goZ ?_
       have hin:uE B key ∈ covs Ls.size (Lf Ls) B:=mem_covs.2 ⟨by omega,hcov⟩
       have h:=skGE_found (snap:=snap) m.bds (key:=key) hin (Nat.le_refl _) fun v hv hle=>by omega
       have:=b07.ret (C:=C) (snap:=snap) (B:=B) (d:=d) (q:=(skGE (GL snap Ls.size (Lf Ls) B) key:Nat)) hk ⟨uE B key,_,_,_,_,_,_,_,st7.sc,by omega,h.1,fun _ _=>⟨⟨_,p6,by rw [hXE] at sb4; exact st7.r.lb sb4⟩,⟨_,p7,by rw [hE] at kvB5; exact .inl kvB5⟩,⟨ka,_,cap,lk7,out,p8,ok.own,rfl,ot,ok.good,oT,fun g hg => .inr (.inl hg)⟩,p9⟩,.inl ⟨q7d,⟨_,st7.h⟩,af,.inr ⟨⟨_,q73,rfl⟩,⟨_,q74,rfl⟩⟩⟩⟩
       rwa [fRet_some (by omega) (by rw [GL_length]; omega)] at this
      ·have hcov:cov Ls.size (Lf Ls) B (uE B key)=false:=by simpa using hcov
       rw [hcov]
       refine goZ ?_
       have hnot:∀ v ∈ covs Ls.size (Lf Ls) B,uE B key≤v→uE B key < v:=fun v hv hle=>by
        rcases Nat.lt_or_eq_of_le hle with h | h
        ·exact h
        ·subst h
         have:=(mem_covs.1 hv).2
         rw [hcov] at this
         simp at this
       refine findNext_run m st7 (af.near m.bds (uE_le _ _)) (finF (q:=(skGE (GL snap Ls.size (Lf Ls) B) key:Nat)) m b07 q7d (fun u hu htu hno => ?_) (fun hno => ?_) (fun w8 S8 r1 r2 r3 => ?_))
       ·have h:=skGE_found (snap:=snap) m.bds (key:=key) hu (by omega) fun v hv hle=>hno v hv (hnot v hv hle)
        exact ⟨h.1,by omega,by omega⟩
       ·rw [skGE_none m.bds (key:=key) fun v hv hle=>hno v hv (hnot v hv hle)]
       ·refine goZ ?_
        exact hk w8 S8 r1 r2 r3
    ·have h6':((hp5.size:Int) == 0)=true:=by rw [beq_iff_eq]; omega
     refine gY4 @c1 @c2 @er @h6' ?_
     have hz:∀ i,i < Ls.size→cK (Lf Ls i) key=2 * (Lf Ls i).length:=fun i hi=>by
      have a1:=st5.h.empty h6 hi
      rw [hpn i hi] at a1
      have a3:=hcle i
      have a4:(Lf Ls i).length=Ls[i]!.L.length:=rfl
      unfold vld at a1
      omega
     obtain ⟨hu1,_⟩:=seek_full m.bds hz
     have hq:skGE (GL snap Ls.size (Lf Ls) B) key=(covs Ls.size (Lf Ls) B).length:=skGE_none m.bds (key:=key) fun v hv h=>by have:=(hcv v hv).2; omega
     have:=b05.ret (C:=C) (snap:=snap) (B:=B) (d:=d) (q:=(skGE (GL snap Ls.size (Lf Ls) B) key:Nat)) hk ⟨B.length,_,_,_,_,_,_,_,st5.sc,Nat.le_refl _,.inr (.inl ⟨by rw [hq],rfl⟩),fun _ h=>by omega,.inl ⟨e5,⟨_,st5.h⟩,fun i hi hl=>by rw [hpn i hi,hz i hi,cp_end m.bds hi],.inl rfl⟩⟩
     rwa [fRet_none (by rw [GL_length]; omega)] at this
  ·have h0':((hp2.size:Int) == 0)=true:=by rw [beq_iff_eq]; omega
   refine gY4 @c1 @c2 @er @h0' ?_
   have hz:∀ i,i < Ls.size→cK (Lf Ls i) key=0:=fun i hi=>by
    have a1:=st2.h.empty h0 hi
    have a2:=hpk' i hi
    have a3:=hcle i
    unfold vld at a1
    omega
   obtain ⟨hu1,_⟩:=seek_zero m.bds hz
   refine switchToMin_run c st2.g st2.sc.hw st2.u.u11 fun w3 hp3 g3 h3 e3 k3 => ?_
   obtain ⟨st3,b3⟩:=st2.sc.turn c g3 h3 e3 k3
   refine goZ ?_
   refine findNext_run m st3 (AtF.near m.bds (t:=0) (fun i hi hl=>by rw [hpn i hi,hz i hi]; rfl) (Nat.zero_le _)) (finF (q:=(skGE (GL snap Ls.size (Lf Ls) B) key:Nat)) m ((b1.trans b2).trans b3) e3 (fun u hu htu hno => ?_) (fun hno => ?_) (fun w4 S4 r1 r2 r3 => ?_))
   ·have h:=skGE_found (snap:=snap) m.bds (key:=key) hu (by omega) fun v hv _=>hno v hv (hcv v hv).1
    exact ⟨h.1,by omega,by omega⟩
   ·rw [skGE_none m.bds (key:=key) fun v hv _=>hno v hv (hcv v hv).1]
   ·refine goZ ?_
    exact hk w4 S4 r1 r2 r3
end
end Go.Proofs
end
