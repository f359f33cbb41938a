/- Parts of the proof: Mk, Pm, Ms. -/
import Derived.Test.YtjcbeinpkafjiaaGreatV12
set_option linter.all false
set_option maxRecDepth 10000
section
namespace Go.Proofs
open Go Go.E Go.Sort Go.Proofs.Tryz
section
variable {k:au} {d w:World} {U Bf C snap:Nat} {Ls:Array Lvl} {B:List Bytes} {S:Nat→Prop} {p:Int}
theorem wG {a:Option Addr} {n c:Nat}:mY (.slice a n c)=a.isSome:=by cases a <;> rfl
set_option maxHeartbeats 1000000 in
theorem Cf (m:MS d U Bf C Ls snap B) (hm:Mi d U Bf C snap Ls B w S p) (hp:p < (cM Ls.size (Lf Ls) B).length)
    (hk:FK (.pointer none) U 6 (GL snap Ls.size (Lf Ls) B) (mT U Bf Ls) (Mi d U Bf C snap Ls B) w S (p+1) k):aY prog 195 #[.pointer (some ⟨U,2,none⟩)] k w:=by
 obtain ⟨u,pos,vk,vb,vs,lk,ls,xb,sc,hu,hcur,hsp,hd⟩:=hm
 have c:=m.mc
 have er:=sc.g.err
 have hS:=eF (n:=Ls.size) (L:=Lf Ls) (B:=B)
 have hb:=eh m.bds
 have m11:((-1:Int) == 1)=false:=by decide
 have m11':((-1:Int) != 1)=true:=by decide
 have m01:((0:Int) == 1)=false:=by decide
 have m01':((0:Int) != 1)=true:=by decide
 have p11':((1:Int) != 1)=false:=by decide
 have fin:∀ {w1:World} {S1:Nat→Prop} {K:au},Bef w w1 U Bf Ls S S1→w1.cell? ⟨U,11,none⟩=some (.int .i8 1)→(∀ w3 S3,Mi d U Bf C snap Ls B w3 S3 (p+1)→(∀ b,S3 b→S b∨w.heap.size≤b)→Keep (fun b x=>mT U Bf Ls b x∨S b) w w3→K (gD U 6 (GL snap Ls.size (Lf Ls) B) (p+1)) w3)→Fy d w1 U Bf C snap Ls B S1 u K:=by
  intro w1 S1 K hb1 he hK
  refine Ah m hb1 he (fun v hv htv hno => ?_) (fun hno => ?_) hK
  ·have h:=hcur.next hS hb hv htv hno
   have:=hcur.rg
   exact ⟨h.1,by omega,h.2⟩
  ·have h:=hcur.next_none hS hb hno
   omega
 rcases hd with ⟨h11,⟨hp',hh⟩,af,hse⟩ | ⟨h11,_,ab,_⟩ | ⟨h11,ab,h0,_⟩
 ·obtain ⟨a3,n3,c3,u3⟩:=sc.u.u3
  obtain ⟨a4,n4,c4,u4⟩:=sc.u.u4
  have ended:u=B.length→k (gD U 6 (GL snap Ls.size (Lf Ls) B) (p+1)) w:=by
   intro hu2
   have hpN:p+1=(cM Ls.size (Lf Ls) B).length:=by
    rcases hcur with ⟨j,rfl,hj⟩ | ⟨rfl,_⟩ | ⟨rfl,h0⟩
    ·have:=hb _ (aK hj); omega
    ·omega
    ·rcases bE (cM Ls.size (Lf Ls) B).length with h1 | h1
     ·omega
     ·have:=hb _ (ae h1); omega
   exact hk w S ⟨u,pos,vk,vb,vs,lk,ls,xb,sc,hu,.inr (.inl ⟨hpN,hu2⟩),fun _ h=>by omega,.inl ⟨h11,⟨hp',hh⟩,af,.inl hu2⟩⟩ (fun _ h => .inl h) (Keep.refl _ w)
  have endN:u=B.length→gD U 6 (GL snap Ls.size (Lf Ls) B) (p+1) = .pointer none:=by
   intro hu2
   refine eQ ?_
   rw [cJ]
   rcases hcur with ⟨j,rfl,hj⟩ | ⟨rfl,_⟩ | ⟨rfl,h0⟩
   ·have:=hb _ (aK hj); omega
   ·omega
   ·rcases bE (cM Ls.size (Lf Ls) B).length with h1 | h1
    ·omega
    ·have:=hb _ (ae h1); omega
  have hse4:a4=none∨a3=none→u=B.length:=by
   intro h
   rcases hse with h1 | ⟨⟨v3,q3,s3⟩,⟨v4,q4,s4⟩⟩
   ·exact h1
   ·rw [u3] at q3
    rw [u4] at q4
    cases q3
    cases q4
    rw [wG] at s3 s4
    rcases h with rfl | rfl
    ·simp at s4
    ·simp at s3
  refine ag [.tmp 2] func195 ?_
  cases a4 with
  | none =>
   have he:=ended (hse4 (.inl rfl))
   rw [endN (hse4 (.inl rfl))] at he
   simp (disch:=first | exact dZ | fail) only [go_sem,er,h11,u3,u4,p11',Option.isNone_none]
   exact he
  | some a4 =>
   cases a3 with
   | none =>
    have he:=ended (hse4 (.inr rfl))
    rw [endN (hse4 (.inr rfl))] at he
    simp (disch:=first | exact dZ | fail) only [go_sem,er,h11,u3,u4,p11',Option.isNone_none,Option.isNone_some]
    exact he
   | some a3 =>
    simp (disch:=first | exact dZ | fail) only [go_sem,er,h11,u3,u4,p11',Option.isNone_none,Option.isNone_some]
    refine eY m ⟨sc.g,hh,sc.u,sc.r⟩ (af.near m.bds hu) (fin (Bef.refl _ _ _ _ _) h11 fun w3 S3 r1 r2 r3 => ?_)
    refine an ?_
    exact hk w3 S3 r1 r2 r3
 ·refine ag [.tmp 2] func195 ?_
  refine fE @er @h11 @m11 @m11' ?_
  refine gV c sc.g sc.hw sc.u.u11 fun w2 hp2 g2 h2 e2 k2 => ?_
  obtain ⟨st2,b2⟩:=sc.turn c g2 h2 e2 k2
  refine an ?_
  refine eY m st2 (zS.near m.bds (t:=u) (fun i hi hl => ?_) hu) (fin b2 e2 fun w3 S3 r1 r2 r3 => ?_)
  ·have a1:=ab i hi hl
   have a2:=jR (L:=Lf Ls) (B:=B) u i
   rw [gQ _ _ hi]
   show kQ Ls[i]!.L (pos i)=_
   have hl2:(Lf Ls i).length=Ls[i]!.L.length:=rfl
   unfold kQ
   rw [if_neg (by omega)]
   exact a1
  ·refine an ?_
   exact hk w3 S3 r1 r2 r3
 ·refine ag [.tmp 2] func195 ?_
  refine fE @er @h11 @m01 @m01' ?_
  refine gV c sc.g sc.hw sc.u.u11 fun w2 hp2 g2 h2 e2 k2 => ?_
  obtain ⟨st2,b2⟩:=sc.turn c g2 h2 e2 k2
  refine an ?_
  refine eY m st2 (zS.near m.bds (t:=u) (fun i hi hl => ?_) hu) (fin b2 e2 fun w3 S3 r1 r2 r3 => ?_)
  ·have a1:=ab i hi hl
   have a2:=jR (L:=Lf Ls) (B:=B) u i
   rw [gQ _ _ hi]
   show kQ Ls[i]!.L (pos i)=_
   have hl2:(Lf Ls i).length=Ls[i]!.L.length:=rfl
   unfold kQ
   rw [if_neg (by omega)]
   exact a1
  ·refine an ?_
   exact hk w3 S3 r1 r2 r3
set_option maxHeartbeats 1000000 in
theorem Cg (m:MS d U Bf C Ls snap B) (hm:Mi d U Bf C snap Ls B w S p) (hp : -1 < p)
    (hk:FK (.pointer none) U 6 (GL snap Ls.size (Lf Ls) B) (mT U Bf Ls) (Mi d U Bf C snap Ls B) w S (p - 1) k):aY prog 196 #[.pointer (some ⟨U,2,none⟩)] k w:=by
 obtain ⟨u,pos,vk,vb,vs,lk,ls,xb,sc,hu,hcur,hsp,hd⟩:=hm
 have c:=m.mc
 have er:=sc.g.err
 have hS:=eF (n:=Ls.size) (L:=Lf Ls) (B:=B)
 have hb:=eh m.bds
 have m11:((1:Int) == -1)=false:=by decide
 have m11':((1:Int) != -1)=true:=by decide
 have m01:((0:Int) == -1)=false:=by decide
 have m01':((0:Int) != -1)=true:=by decide
 have p11':((-1:Int) != -1)=false:=by decide
 have p11:((-1:Int) == -1)=true:=by decide
 have fin:∀ {w1:World} {S1:Nat→Prop} {K:au},Bef w w1 U Bf Ls S S1→w1.cell? ⟨U,11,none⟩=some (.int .i8 (-1))→(∀ w3 S3,Mi d U Bf C snap Ls B w3 S3 (p - 1)→(∀ b,S3 b→S b∨w.heap.size≤b)→Keep (fun b x=>mT U Bf Ls b x∨S b) w w3→K (gD U 6 (GL snap Ls.size (Lf Ls) B) (p - 1)) w3)→Fz d w1 U Bf C snap Ls B S1 u K:=by
  intro w1 S1 K hb1 he hK
  refine Ai m hb1 he (fun v hv htv hno => ?_) (fun hno => ?_) hK
  ·have h:=hcur.prev hS hb hv htv hno
   have:=hcur.rg
   exact ⟨h.1,h.2,by omega⟩
  ·have h:=hcur.prev_none hS hb hno
   omega
 rcases hd with ⟨h11,_,ab,_⟩ | ⟨h11,⟨hp',hh⟩,af,hse⟩ | ⟨h11,ab,h0,_⟩
 ·refine ag [.tmp 2] func196 ?_
  refine fE @er @h11 @m11 @m11' ?_
  refine gW c sc.g sc.hw sc.u.u11 fun w2 hp2 g2 h2 e2 k2 => ?_
  obtain ⟨st2,b2⟩:=sc.turn c g2 h2 e2 k2
  refine an ?_
  refine eZ m st2 (wA.near m.bds (t:=u) (fun i hi hl => ?_) hu) (fin b2 e2 fun w3 S3 r1 r2 r3 => ?_)
  ·have a1:=ab i hi hl
   rw [gQ _ _ hi]
   show kR (pos i)+1=_
   unfold kR
   rw [if_neg (by omega)]
   omega
  ·refine an ?_
   exact hk w3 S3 r1 r2 r3
 ·obtain ⟨a3,n3,c3,u3⟩:=sc.u.u3
  obtain ⟨a4,n4,c4,u4⟩:=sc.u.u4
  have hpN:u=0→p - 1 = -1:=by
   intro hu2
   rcases hcur with ⟨j,rfl,hj⟩ | ⟨rfl,h0⟩ | ⟨rfl,h0⟩
   ·have:=hb _ (aK hj); omega
   ·rcases bE (cM Ls.size (Lf Ls) B).length with h1 | h1
    ·omega
    ·have:=hb _ (ae h1); omega
   ·omega
  have ended:u=0→k (gD U 6 (GL snap Ls.size (Lf Ls) B) (p - 1)) w:=by
   intro hu2
   exact hk w S ⟨u,pos,vk,vb,vs,lk,ls,xb,sc,hu,.inr (.inr ⟨hpN hu2,hu2⟩),fun h _=>by have:=hpN hu2; omega,.inr (.inl ⟨h11,⟨hp',hh⟩,af,.inl hu2⟩)⟩ (fun _ h => .inl h) (Keep.refl _ w)
  have endN:u=0→gD U 6 (GL snap Ls.size (Lf Ls) B) (p - 1) = .pointer none:=by
   intro hu2
   have:=hpN hu2
   exact eQ (by omega)
  have hse4:a4=none∨a3=none→u=0:=by
   intro h
   rcases hse with h1 | ⟨⟨v3,q3,s3⟩,⟨v4,q4,s4⟩⟩
   ·exact h1
   ·rw [u3] at q3
    rw [u4] at q4
    cases q3
    cases q4
    rw [wG] at s3 s4
    rcases h with rfl | rfl
    ·simp at s4
    ·simp at s3
  refine ag [.tmp 2] func196 ?_
  cases a4 with
  | none =>
   have he:=ended (hse4 (.inl rfl))
   rw [endN (hse4 (.inl rfl))] at he
   simp (disch:=first | exact dZ | fail) only [go_sem,er,h11,u3,u4,p11,p11',Option.isNone_none]
   exact he
  | some a4 =>
   cases a3 with
   | none =>
    have he:=ended (hse4 (.inr rfl))
    rw [endN (hse4 (.inr rfl))] at he
    simp (disch:=first | exact dZ | fail) only [go_sem,er,h11,u3,u4,p11,p11',Option.isNone_none,Option.isNone_some]
    exact he
   | some a3 =>
    simp (disch:=first | exact dZ | fail) only [go_sem,er,h11,u3,u4,p11,p11',Option.isNone_none,Option.isNone_some]
    refine eZ m ⟨sc.g,hh,sc.u,sc.r⟩ (af.near m.bds hu) (fin (Bef.refl _ _ _ _ _) h11 fun w3 S3 r1 r2 r3 => ?_)
    refine an ?_
    exact hk w3 S3 r1 r2 r3
 ·refine ag [.tmp 2] func196 ?_
  refine fE @er @h11 @m01 @m01' ?_
  refine gW c sc.g sc.hw sc.u.u11 fun w2 hp2 g2 h2 e2 k2 => ?_
  obtain ⟨st2,b2⟩:=sc.turn c g2 h2 e2 k2
  refine an ?_
  refine eZ m st2 (wA.near m.bds (t:=u) (fun i hi hl => ?_) hu) (fin b2 e2 fun w3 S3 r1 r2 r3 => ?_)
  ·have a1:=ab i hi hl
   rw [gQ _ _ hi]
   show kR (pos i)+1=_
   unfold kR
   have hz:cp (Lf Ls) B u i=0:=by rw [h0]; rfl
   split <;> omega
  ·refine an ?_
   exact hk w3 S3 r1 r2 r3
end
end Go.Proofs
end
section
namespace Go.E
open Go Go.Sort Go.Proofs
section
variable {n:Nat} {L:Nat→List Sp} {B:List Bytes} {key:Bytes} {pos:Nat→Int}
theorem yO (h:Bds n L B) {i p:Nat} (hi:i < n) (hp:p < 2 * (L i).length) (hc:cK (L i) key≤p):¬ dI (L i) p < key:=by
 have:=(not_congr (lI (h.wf i hi) (key:=key) hp)).1 (by omega)
 split at this
 ·exact this
 ·exact fw (Classical.not_not.1 this)
theorem yP (h:Bds n L B) {i p:Nat} (hi:i < n) (hp:p < 2 * (L i).length) (hc:p < cK (L i) key):¬ key < dI (L i) p:=by
 have:=(lI (h.wf i hi) (key:=key) hp).1 hc
 split at this
 ·exact fw this
 ·exact this
theorem E3 (h:Bds n L B) {j:Nat} (hj:j < B.length):∃ i,i < n∧∃ p,p < 2 * (L i).length∧dI (L i) p=B[j]! := (h.mem _).1 (by rw [aH B j hj]; exact ae _)
theorem tW (h:Bds n L B) (hz:∀ i,i < n→cK (L i) key=0):uE B key≤1∧uL B key=0:=by
 have hge:∀ j,j < B.length→¬ B[j]! < key:=fun j hj=>by
  obtain ⟨i,hi,p,hp,e⟩:=E3 h hj
  rw [← e]
  exact yO h hi hp (by rw [hz i hi]; omega)
 have h1:=mh B key
 have h2:=qE B key
 constructor
 ·rcases aG 1 (uE B key) with h3 | h3
  ·exfalso
   have h4:=(lJ h (key:=key) (j:=1) (by omega)).1 h3
   have h5:=(h.lt (i:=0) (j:=1) (by omega) (by omega)).2 (by omega)
   have h6:=hge 0 (by omega)
   exact h4 (cy h6 h5)
  ·exact h3
 ·rcases bE (uL B key) with h3 | h3
  ·exact h3
  ·exact absurd ((qC h (key:=key) (j:=0) (by omega)).1 h3) (hge 0 (by omega))
theorem tX (h:Bds n L B) (hz:∀ i,i < n→cK (L i) key=2 * (L i).length):uE B key=B.length∧B.length≤uL B key+1:=by
 have hle:∀ j,j < B.length→¬ key < B[j]! := fun j hj=>by
  obtain ⟨i,hi,p,hp,e⟩:=E3 h hj
  rw [← e]
  exact yP h hi hp (by rw [hz i hi]; exact hp)
 have h1:=mh B key
 have h2:=qE B key
 constructor
 ·rcases aG (uE B key) B.length with h3 | h3
  ·have:=(lJ h (key:=key) h3).2 (hle _ h3); omega
  ·omega
 ·rcases aG (uL B key+1) B.length with h3 | h3
  ·exfalso
   have h4:=(h.lt (i:=uL B key) (j:=uL B key+1) (by omega) h3).2 (by omega)
   have h5:=hle _ h3
   have:=(qC h (key:=key) (j:=uL B key) (by omega)).2 (bp h4 h5)
   omega
  ·omega
theorem Ci (h:Bds n L B) (hp:∀ i,i < n→0 < (L i).length→pos i=cK (L i) key) {r:Nat} (hr:r < n) (hv:dW (L r) (pos r)) (he:dI (L r) (pos r).toNat=key):∃ t,t < B.length∧uE B key=t+1∧NearF n L B t pos:=by
 obtain ⟨q,eq,hq,h0⟩:=fQ hv
 rw [eq,ay] at he
 obtain ⟨t,ht,et⟩:=h.at hr hq
 rw [he] at et
 have hu:uE B key=t+1:=by
  have a:=(lJ h (key:=key) ht).2 (by rw [et]; exact bB _)
  have b:=mh B key
  rcases aG (t+1) (uE B key) with h3 | h3
  ·have:=(lJ h (key:=key) (j:=t+1) (by omega)).1 h3
   have h5:=(h.lt (i:=t) (j:=t+1) ht (by omega)).2 (by omega)
   rw [et] at h5
   exact absurd h5 this
  ·omega
 refine ⟨t,ht,hu,by omega,fun i hi hl => ?_,fun _=>⟨r,hr,hv,by rw [eq,ay,he,et]⟩⟩
 have a:=rO (h.wf i hi) key
 have b:=rP (h.wf i hi) key
 have c1:=E0 h ht hi
 rw [et] at c1
 have c2:=zU h hi key
 rw [hu] at c2
 rw [hp i hi hl,show min (t+1) B.length=t+1 by omega]
 omega
theorem Cj (h:Bds n L B) (hp:∀ i,i < n→0 < (L i).length→pos i=cK (L i) key) (hne:∀ i,i < n→dW (L i) (pos i)→dI (L i) (pos i).toNat≠key):zS n L B (uE B key) pos:=by
 intro i hi hl
 rw [hp i hi hl,zU h hi]
 have a:=rP (h.wf i hi) key
 rcases aG (cK (L i) key) (cE (L i) key) with h1 | h1
 ·exfalso
  have hq:cK (L i) key < 2 * (L i).length:=by have:=zQ (L i) key; omega
  have e:=hp i hi hl
  have b:=hne i hi ⟨by omega,by omega⟩
  rw [e,ay] at b
  exact b (cx (yO h hi hq (aE _)) ((tP (h.wf i hi) hq).1 h1))
 ·omega
theorem Ck (h:Bds n L B) (hp:∀ i,i < n→0 < (L i).length→pos i+1=cK (L i) key) {r:Nat} (hr:r < n) (hv:dW (L r) (pos r)) (he:dI (L r) (pos r).toNat=key):∃ t,0 < t∧t≤B.length∧uL B key+1=t∧NearB n L B t pos:=by
 obtain ⟨q,eq,hq,h0⟩:=fQ hv
 rw [eq,ay] at he
 obtain ⟨t,ht,et⟩:=h.at hr hq
 rw [he] at et
 have hu:uL B key=t:=by
  have b:=qE B key
  have a:=(not_congr (qC h (key:=key) ht)).2 (by rw [et]; exact bB _)
  rcases aG (uL B key) t with h3 | h3
  ·have h5:=(h.lt (i:=uL B key) (j:=t) (by omega) ht).2 h3
   rw [et] at h5
   have:=(qC h (key:=key) (j:=uL B key) (by omega)).2 h5
   omega
  ·omega
 refine ⟨t+1,by omega,by omega,by omega,by omega,fun i hi hl => ?_,fun _=>⟨r,hr,hv,by rw [eq,ay,he,Nat.add_sub_cancel,et]⟩⟩
 have a:=rO (h.wf i hi) key
 have b:=rP (h.wf i hi) key
 have c2:=E2 h hi key
 rw [hu] at c2
 have c3:cp L B (t+1) i=cE (L i) key:=by
  unfold cp
  rw [if_neg (by omega),Nat.add_sub_cancel,et]
 rw [hp i hi hl,Nat.add_sub_cancel]
 omega
theorem Cl (h:Bds n L B) (hp:∀ i,i < n→0 < (L i).length→pos i+1=cK (L i) key) (hne:∀ i,i < n→dW (L i) (pos i)→dI (L i) (pos i).toNat≠key):wA n L B (uL B key) pos:=by
 intro i hi hl
 rw [hp i hi hl,E2 h hi]
 have a:=rO (h.wf i hi) key
 rcases aG (cL (L i) key) (cK (L i) key) with h1 | h1
 ·exfalso
  have hcl:=qB (L i) key
  have e:=hp i hi hl
  obtain ⟨q,eq⟩:∃ q:Nat,pos i=q:=⟨(pos i).toNat,by omega⟩
  have hq:q < 2 * (L i).length:=by omega
  have b:=hne i hi ⟨by omega,by omega⟩
  rw [eq,ay] at b
  refine b (cx (fun hlt => ?_) (yP h hi hq (by omega)))
  have:=(vz (h.wf i hi) hq).2 hlt
  omega
 ·omega
theorem yQ (h:Bds n L B) (hp:∀ i,i < n→0 < (L i).length→pos i=cK (L i) key) {r:Nat} (hr:r < n) (hv:dW (L r) (pos r)) (hmin:∀ x,x < n→dW (L x) (pos x)→¬ dI (L x) (pos x).toNat < dI (L r) (pos r).toNat) (hne:dI (L r) (pos r).toNat≠key):∀ i,i < n→dW (L i) (pos i)→dI (L i) (pos i).toNat≠key:=by
 intro i hi hvi he
 obtain ⟨q,eq,hq,h0⟩:=fQ hv
 have a:=yO h (key:=key) hr hq (by have:=hp r hr h0; omega)
 have b:=hmin i hi hvi
 rw [he] at b
 rw [eq,ay] at b hne
 exact hne (cx a b)
theorem yR (h:Bds n L B) (hp:∀ i,i < n→0 < (L i).length→pos i+1=cK (L i) key) {r:Nat} (hr:r < n) (hv:dW (L r) (pos r)) (hmax:∀ x,x < n→dW (L x) (pos x)→¬ dI (L r) (pos r).toNat < dI (L x) (pos x).toNat) (hne:dI (L r) (pos r).toNat≠key):∀ i,i < n→dW (L i) (pos i)→dI (L i) (pos i).toNat≠key:=by
 intro i hi hvi he
 obtain ⟨q,eq,hq,h0⟩:=fQ hv
 have a:=yP h (key:=key) hr hq (by have:=hp r hr h0; omega)
 have b:=hmax i hi hvi
 rw [he] at b
 rw [eq,ay] at b hne
 exact hne (cx b a)
theorem yS (h:Bds n L B) (hp:∀ i,i < n→0 < (L i).length→pos i=cK (L i) key) {r:Nat} (hr:r < n) (hv:dW (L r) (pos r)) (hk:pos r % 2≠0):dI (L r) (pos r).toNat≠key:=by
 obtain ⟨q,eq,hq,h0⟩:=fQ hv
 have e:=hp r hr h0
 have a:=(not_congr (lI (h.wf r hr) (key:=key) hq)).1 (by omega)
 rw [if_neg (by omega)] at a
 intro he
 rw [eq,ay] at he
 rw [he] at a
 exact bB _ (Classical.not_not.1 a)
theorem yT (h:Bds n L B) (hp:∀ i,i < n→0 < (L i).length→pos i+1=cK (L i) key) {r:Nat} (hr:r < n) (hv:dW (L r) (pos r)) (hk:pos r % 2=0):dI (L r) (pos r).toNat≠key:=by
 obtain ⟨q,eq,hq,h0⟩:=fQ hv
 have e:=hp r hr h0
 have a:=(lI (h.wf r hr) (key:=key) hq).1 (by omega)
 rw [if_pos (by omega)] at a
 intro he
 rw [eq,ay] at he
 rw [he] at a
 exact bB _ a
end
end Go.E
end
section
namespace Go.Proofs
open Go Go.E Go.Sort Go.Proofs.Tryz
section
variable {k:au} {d w:World} {U Bf C snap:Nat} {Ls:Array Lvl} {B:List Bytes} {S:Nat→Prop} {pos:Nat→Int} {vk vb vs:Value} {lk ls:List KR} {xb:List Value} {p:Int}
theorem oP {w1:World} {S1:Nat→Prop} {kv:Value} {key:Bytes} (h:eH w kv key) (hv:Bi kv fun b=>∀ x,¬ mT U Bf Ls b x∧¬ S b) (b1:Bef w w1 U Bf Ls S S1):eH w1 kv key :=
 h.keep b1.k fun a n c e hlt x hm=>by
  have:=hv a n c e x
  rcases Cc _ _ hm with h1 | h1
  ·exact this.1 h1
  ·exact this.2 h1
set_option maxHeartbeats 4000000 in
theorem yU {kva:Option Addr} {kn kc:Nat} {key:Bytes} (m:MS d U Bf C Ls snap B) (sc:Sc d w U Bf C snap Ls S pos vk vb vs lk ls xb) (hkey:eH w (.slice kva kn kc) key) (hkv:Bi (.slice kva kn kc) fun b=>∀ x,¬ mT U Bf Ls b x∧¬ S b)
    (hk:FK (.pointer none) U 6 (GL snap Ls.size (Lf Ls) B) (mT U Bf Ls) (Mi d U Bf C snap Ls B) w S (cv (GL snap Ls.size (Lf Ls) B) key) k):aY prog 197 #[.pointer (some ⟨U,2,none⟩),.slice kva kn kc] k w:=by
 have c:=m.mc
 have c1:=sc.g.bufs
 have lvs:=sc.g.lvls
 refine ag [.tmp 4] func197 ?_
 refine an ?_
 refine mQ sc.g ?_
 refine dY @c1 @lvs ?_
 refine bR (fun i:Nat=>[(0,.pointer (some ⟨U,2,none⟩)),(1,.slice kva kn kc),(19,.int .i64 Ls.size),(20,.int .i64 i)]) (fun i w'=>Sc d w' U Bf C snap Ls S (px (fun x _=>(cK Ls[x]!.L key:Int) - 1) pos i) vk vb vs lk ls xb∧Bef w w' U Bf Ls S S∧i≤Ls.size) (fun i _=>Ls.size - i) 0 (by kernel_rfl) ?_ ⟨by rw [jx]; exact sc,Bef.refl _ _ _ _ _,aO _⟩ ?_
 ·exact bK
 rintro K e i w1 ⟨sc1,b1,hi0⟩ hK
 have c1:=sc1.g.bufs
 have lvs:=sc1.g.lvls
 have n10:=c.n10
 by_cases hi:i < Ls.size
 ·have hi':(i:Int) < Ls.size:=by omega
  have l1:=sc1.g.lv i hi
  rw [jy] at l1
  have d0:=l1.it
  have d1:=l1.kd
  obtain ⟨v2,d2,_,_⟩:=l1.ky
  obtain ⟨v3,d3,_,_⟩:=l1.sp
  have e2:=jw (fun x _=>(cK Ls[x]!.L key:Int) - 1) pos i
  have hsz:=c.sz i hi
  have hk1:=oP hkey hkv b1
  have hkb:∀ w',Keep (mU Ls[i]!.I) w1 w'→eH w' (.slice kva kn kc) key:=fun w' hk'=>hk1.keep hk' fun a n cc e _ x hx=>(hkv a n cc e x).1 (.inr (.inr ⟨i,hi,hx.1⟩))
  refine fE @hi' @c1 @lvs @d0 ?_
  refine rM l1.iter (by omega) sc1.g.inc (c.oI i hi) (c.sp i hi) (c.wf i hi) hkb fun w2 r i2 k2 hr h1 h2 => ?_
  have nU:∀ x,¬ mU Ls[i]!.I U x:=fun x h=>c.iU i hi h.1.symm
  have nB:∀ x,¬ mU Ls[i]!.I Bf x:=fun x h=>c.iB i hi h.1.symm
  have c1:=k2.some c1 (nU _)
  have lvs:=k2.some lvs (nB _)
  have d1:=k2.some d1 (nU _)
  have d2:=k2.some d2 (nU _)
  have d3:=k2.some d3 (nU _)
  have hc0:=k2.some sc1.hw.c0 (nB _)
  have fU:∀ x,w2.frozen? ⟨U,x,none⟩=false:=fun x=>by rw [k2.frozen U x (aD sc1.g.bufs)]; exact sc1.g.fU x
  have hck:=Hd (c.wf i hi) hr h1 h2
  have hcl:=qB Ls[i]!.L key
  by_cases hr0:r=0
  ·rw [if_neg (by omega)]
   rw [if_pos hr0] at hck
   simp (disch:=first | exact dZ | fail) only [go_sem,c1,lvs,d1,d2,d3,fU,Option.isNone_none]
   have q1:=l1.mk' (q:=(cK Ls[i]!.L key:Int) - 1) (x:=0) (y := .slice none 0 0) (z := .pointer none) (Ne.symm (c.iU i hi)) (by omega) (by rw [hck]; subst hr0; exact i2) k2 (by rw [gm (by unfold dW; omega)]) rfl rfl (fun h=>by unfold dW at h; omega) (fun h=>by unfold dW at h; omega)
   obtain ⟨sc2,b2⟩:=sc1.lv c hi q1 (ey k2)
   rw [e2] at sc2
   refine hK _ _ (i+1) ?_ ⟨sc2,b1.trans b2,by omega⟩ (by omega)
   exact bK
  ·rw [if_pos (by omega)]
   rw [if_neg hr0] at hck
   have hinc2:cN d w2:=sc1.g.inc.keep k2 fun b x h=>by rw [h.1]; exact c.oI i hi x
   obtain ⟨⟨vv1,s1,s1s,s1b⟩,⟨vv2,s2,s2s,s2b⟩,_,_⟩:=c.sp i hi (r - 1) (by omega)
   have s1:=hinc2 _ _ _ s1
   have s2:=hinc2 _ _ _ s2
   obtain ⟨a1,n1,cc1,rfl⟩:=cq s1s
   obtain ⟨a2,n2,cc2,rfl⟩:=cq s2s
   simp (disch:=first | exact dZ | fail) only [go_sem,ll,Option.isNone_some,s2]
   refine mP (f:=0) c1 hc0 (s2b.inc hinc2) (hkb w2 k2) ?_
   by_cases hle:Ls[i]!.L[r - 1]!.e≤key
   ·have hle':ct Ls[i]!.L[r - 1]!.e key≤0:=gB.2 hle
    rw [if_pos hle] at hck
    have hnn:((cK Ls[i]!.L key:Int) - 1).toNat / 2=r - 1:=by omega
    refine oq @hle' @s2 @d1 @d2 @d3 @fU ?_
    have q1:=l1.mk' (q:=(cK Ls[i]!.L key:Int) - 1) (x:=2) (y := .slice (some a2) n2 cc2) (z:=ll Ls[i]!.b Ls[i]!.o (r - 1)) (Ne.symm (c.iU i hi)) (by omega) (by rw [show ((cK Ls[i]!.L key:Int) - 1) / 2=(r:Int) - 1 by omega]; exact i2) k2 ((jv ⟨by omega,by omega⟩ (by omega)).symm) rfl rfl (fun h=>⟨rfl,by unfold dI; rw [if_neg (by omega),hnn]; exact s2b⟩) (fun h=>by rw [hnn])
    obtain ⟨sc2,b2⟩:=sc1.lv c hi q1 (ey k2)
    rw [e2] at sc2
    refine hK _ _ (i+1) ?_ ⟨sc2,b1.trans b2,by omega⟩ (by omega)
    exact bK
   ·have hle':¬ ct Ls[i]!.L[r - 1]!.e key≤0:=fun h=>hle (gB.1 h)
    rw [if_neg hle] at hck
    have hnn:((cK Ls[i]!.L key:Int) - 1).toNat / 2=r - 1:=by omega
    refine oq @hle' @s1 @d1 @d2 @d3 @fU ?_
    have q1:=l1.mk' (q:=(cK Ls[i]!.L key:Int) - 1) (x:=1) (y := .slice (some a1) n1 cc1) (z:=ll Ls[i]!.b Ls[i]!.o (r - 1)) (Ne.symm (c.iU i hi)) (by omega) (by rw [show ((cK Ls[i]!.L key:Int) - 1) / 2=(r:Int) - 1 by omega]; exact i2) k2 ((fu ⟨by omega,by omega⟩ (by omega)).symm) rfl rfl (fun h=>⟨rfl,by unfold dI; rw [if_pos (by omega),hnn]; exact s1b⟩) (fun h=>by rw [hnn])
    obtain ⟨sc2,b2⟩:=sc1.lv c hi q1 (ey k2)
    rw [e2] at sc2
    refine hK _ _ (i+1) ?_ ⟨sc2,b1.trans b2,by omega⟩ (by omega)
    exact bK
 ·have hi':¬ (i:Int) < Ls.size:=by omega
  obtain rfl:i=Ls.size:=by omega
  obtain ⟨pos1,hpos1⟩:∃ pos1,pos1=px (fun x _=>(cK Ls[x]!.L key:Int) - 1) pos Ls.size:=⟨_,rfl⟩
  rw [← hpos1] at sc1
  have hpk':∀ i,i < Ls.size→pos1 i+1=cK (Lf Ls i) key:=fun i hi=>by
   rw [hpos1,gQ _ _ hi]
   show (cK Ls[i]!.L key:Int) - 1+1=_
   have:(cK Ls[i]!.L key:Int) - 1+1=cK Ls[i]!.L key:=by omega
   exact this
  have hpk:∀ i,i < Ls.size→0 < (Lf Ls i).length→pos1 i+1=cK (Lf Ls i) key:=fun i hi _=>hpk' i hi
  have hcle:∀ i,cK (Lf Ls i) key≤2 * Ls[i]!.L.length:=fun i=>qB (Lf Ls i) key
  have hpn:∀ i,i < Ls.size→px (fun x=>kQ Ls[x]!.L) pos1 Ls.size i=cK (Lf Ls i) key:=fun i hi=>by
   rw [gQ _ _ hi]
   have a1:=hpk' i hi
   have a2:=hcle i
   show kQ Ls[i]!.L (pos1 i)=_
   unfold kQ
   rw [if_neg (by omega)]
   omega
  have hpn':∀ i,i < Ls.size→0 < (Lf Ls i).length→px (fun x=>kQ Ls[x]!.L) pos1 Ls.size i=cK (Lf Ls i) key:=fun i hi _=>hpn i hi
  have hcv:=eh m.bds
  refine bZ @hi' ?_
  refine jA c sc1.g sc1.hw sc1.u.u11 fun w2 hp2 g2 h2 e2 k2 => ?_
  obtain ⟨st2,b2⟩:=sc1.turn c g2 h2 e2 k2
  have c1:=st2.g.bufs
  have c2:=st2.h.at_.c2
  have er:=st2.g.err
  by_cases h0:0 < hp2.size
  ·have h0':((hp2.size:Int) == 0)=false:=by rw [beq_eq_false_iff_ne]; omega
   have hr:=(st2.h.mem _).1 (fP h0)
   obtain ⟨r,hre⟩:∃ r,r=hp2[0]! := ⟨_,rfl⟩
   rw [← hre] at hr
   have lr:=st2.g.lv r hr.1
   have dk:=lr.kd
   obtain ⟨kv2,d2,kvc,y2⟩:=lr.ky
   obtain ⟨kvS,kvB⟩:=y2 hr.2
   obtain ⟨X,hX⟩:∃ X,X=dI Ls[r]!.L (pos1 r).toNat:=⟨_,rfl⟩
   rw [← hX] at kvB
   obtain ⟨kva2,kvn2,kvc2,rfl⟩:=cq kvS
   have p0:=st2.h.at_.ptr 0 h0
   rw [← hre] at p0
   obtain ⟨_,_,_,u3⟩:=st2.u.u3
   have fU:=st2.g.fU
   have z0:(0:Int).toNat=0:=rfl
   have z1:(0:Int)≤0:=by decide
   have hz2:(0:Int) < hp2.size:=by omega
   refine HY @c1 @c2 @er @h0' @p0 @d2 @dk @z0 @z1 @hz2 @u3 @fU @Nat.zero_mul @Nat.add_zero ?_
   obtain ⟨st3,l3⟩:=st2.setU m.mc (x:=3) (.inl rfl) (.slice (some kva2) kvn2 kvc2) ⟨_,_,_,rfl⟩
   obtain ⟨w3,hw3⟩:∃ w3,w3=w2.setCell ⟨U,3,none⟩ (.slice (some kva2) kvn2 kvc2):=⟨_,rfl⟩
   rw [← hw3] at st3 l3 ⊢
   have w33:w3.cell? ⟨U,3,none⟩=some (.slice (some kva2) kvn2 kvc2):=by rw [hw3]; exact bm @u3
   refine o0 (fun _:Unit=>[(0,.pointer (some ⟨U,2,none⟩)),(1,.slice kva kn kc)]) (fun _ w'=>∃ S2 vb2 xb2 v,St d w' U Bf C snap Ls S2 pos1 true hp2 vk vb2 vs lk ls xb2∧Lt w2 w' U Bf Ls S S2∧w'.cell? ⟨U,3,none⟩=some v∧mY v=true∧SB d vb2 xb2 v X) (by kernel_rfl) (by kernel_rfl) (fun K3 hK3 => ?_) ?_
   ·by_cases hkd:df Ls[r]!.L (pos1 r)=2
    ·have e5:(df Ls[r]!.L (pos1 r) == 2)=true:=by rw [hkd]; rfl
     have c1:=st3.g.bufs
     have b5:=st3.r.bh
     have fB:=st3.g.fB
     have fU:=st3.g.fU
     have hUs2:=aD c1
     have hBs2:=aD b5
     obtain ⟨ba,bcap,hbe,hbc,_⟩:=ar st3.r.bo
     subst hbe
     have zb:(0:Int)≤bcap:=by omega
     have kvB2:eH w3 (.slice (some kva2) kvn2 kvc2) X:=kvB.inc st3.g.inc
     refine bZ @e5 ?_
     refine ax (sq [0,1,2] (.read 3 (sq [4,5,6] (.read 7 (sq [8,9] (.read 10 (sq [11,12,13,14] (.read 15 (.eff 16 [3] (sq [17,18] (.eff 19 [] .done))))))))))) ?_
     simp (disch:=first | exact dZ | fail) only [go_sem,c1,b5,w33,qY Tryz.es107,z0,zb]
     have hBm:X ∈ B:=(m.bds.mem X).2 ⟨r,hr.1,(pos1 r).toNat,by have:=hr.2; unfold dW at this; show (pos1 r).toNat < 2 * Ls[r]!.L.length; omega,hX.symm⟩
     have hbl:=m.blen _ hBm
     simp only [lQ]
     refine lN (m:=X.length) (news:=gA X) rw107 (dU st3.r.bo).drew (by rw [bQ,Nat.mul_one]) (fK (by exact kvB2)) (fL _) (by omega) fun v5 w5 o5 k5 n5 s5 => ?_
     obtain ⟨a5,cap5,e5',_,_⟩:=ar o5
     subst e5'
     have k5:Keep (fun b _=>(Value.slice ba xb.length bcap).ownBlock=some b) w3 w5:=(Keep.refl _ w3).drew.trans (k5 _ fun b o hb _=>by rw [b7 ba xb.length 0]; exact hb)
     have n25:cP w3 (.slice ba xb.length bcap) (.slice a5 (0+X.length) cap5):=fun g' hg'=>by
      rcases n5 with h | ⟨g2,h,h',_⟩
      ·exact .inl (by rw [← hg',h]; exact b7 _ _ _ _)
      ·rw [h] at hg'
       simp only [aL] at hg'
       subst hg'
       exact .inr h'
     rw [List.nil_append,Nat.zero_add,← bQ] at o5
     rw [Nat.zero_add,← bQ] at n25 s5
     have hnb:∀ g',(Value.slice ba xb.length bcap).ownBlock=some g'→g'≠U∧g'≠Bf:=fun g' hg'=>⟨(st3.r.sp _ (st3.r.bS _ hg')).1,(st3.r.sp _ (st3.r.bS _ hg')).2.1⟩
     obtain ⟨st6,l6⟩:=st3.buf m.mc o5 k5 n25
     have c1:=k5.some c1 fun h=>(hnb _ h).1 rfl
     have b5:=k5.some b5 fun h=>(hnb _ h).2 rfl
     have w53:=k5.some w33 fun h=>(hnb _ h).1 rfl
     have fB:∀ x,w5.frozen? ⟨Bf,x,none⟩=false:=fun x=>by rw [k5.frozen Bf x hBs2]; exact fB x
     have fU:∀ x,w5.frozen? ⟨U,x,none⟩=false:=fun x=>by rw [k5.frozen U x hUs2]; exact fU x
     rw [Nat.zero_add,← bQ]
     refine gl @c1 @b5 @w53 @fB @fU ?_
     obtain ⟨st7,l7⟩:=st6.setU m.mc (x:=3) (.inl rfl) (.slice a5 (gA X).length cap5) ⟨_,_,_,rfl⟩
     have hne:X≠[]:=by
      intro h0
      have hl:=(m.mc.wf r hr.1).1 ((pos1 r).toNat / 2) (by have:=hr.2; unfold dW at this; omega)
      have:dI Ls[r]!.L (pos1 r).toNat=[]:=by rw [← h0]; exact hX.symm
      have hodd:¬ (pos1 r).toNat % 2=0:=fun he=>by
       rw [fu hr.2 (by have:=hr.2; unfold dW at this; omega)] at hkd
       omega
      unfold dI at this
      rw [if_neg hodd] at this
      rw [this] at hl
      simp at hl
     refine hK3 _ _ () ?_ ⟨_,_,gA X,_,st7,(l3.trans l6).trans l7,?_,kq (s5 (by rw [bQ]; exact List.length_pos_iff.2 hne)),.inr ⟨rfl,rfl⟩⟩
     ·exact bK
     ·exact bm @w53
    ·have e5:(df Ls[r]!.L (pos1 r) == 2)=false:=by rw [beq_eq_false_iff_ne]; exact hkd
     refine bZ @e5 ?_
     refine hK3 _ _ () ?_ ⟨S,vb,xb,_,st3,l3,w33,rfl,.inl kvB⟩
     exact bK
   ·rintro e3 _ w4 ⟨S4,vb4,xb4,v4,st4,l4,q4,hs4,sb4⟩
    obtain ⟨v4a,v4n,v4c,rfl⟩:=cq hs4
    have b4:Bef w w4 U Bf Ls S S4:=(b1.trans b2).trans l4.bef
    refine an ?_
    refine gV c st4.g st4.sc.hw st4.u.u11 fun w5 hp5 g5 h5 e5 k5 => ?_
    obtain ⟨st5,b5⟩:=st4.sc.turn c g5 h5 e5 k5
    have q5:=k5.some q4 (by
     rintro (h | ⟨_,h⟩)
     ·exact ml c (by omega) h
     ·omega)
    have b05:=b4.trans b5
    have c1:=st5.g.bufs
    have c2:=st5.h.at_.c2
    have er:=st5.g.err
    by_cases h6:0 < hp5.size
    ·have h6':((hp5.size:Int) == 0)=false:=by rw [beq_eq_false_iff_ne]; omega
     have hz6:(0:Int) < hp5.size:=by omega
     obtain ⟨pos2,hpos2⟩:∃ pos2,pos2=px (fun x=>kQ Ls[x]!.L) pos1 Ls.size:=⟨_,rfl⟩
     rw [← hpos2] at st5 hpn hpn'
     have hr5:=(st5.h.mem _).1 (fP h6)
     obtain ⟨r5,hre5⟩:∃ r5,r5=hp5[0]! := ⟨_,rfl⟩
     rw [← hre5] at hr5
     have hmin5:∀ x,x < Ls.size→dW (Lf Ls x) (pos2 x)→¬ dI (Lf Ls x) (pos2 x).toNat < dI (Lf Ls r5) (pos2 r5).toNat:=fun x hx hv=>by rw [hre5]; exact st5.h.root_min hx hv
     have lr5:=st5.g.lv r5 hr5.1
     have dk5:=lr5.kd
     obtain ⟨kv5,d5,_,y5⟩:=lr5.ky
     obtain ⟨kvS5,kvB5⟩:=y5 hr5.2
     obtain ⟨kva5,kvn5,kvc5,rfl⟩:=cq kvS5
     have p5:=st5.h.at_.ptr 0 h6
     rw [← hre5] at p5
     obtain ⟨_,_,_,u4⟩:=st5.u.u4
     have fU:=st5.g.fU
     have hkey5:=oP hkey hkv b05
     have tail:dI (Lf Ls r5) (pos2 r5).toNat≠key →
         zS Ls.size (Lf Ls) B (uE B key) pos2∧uE B key < B.length∧0 < uE B key∧dI Ls[r5]!.L (pos2 r5).toNat=B[uE B key]! ∧ X=B[uE B key - 1]! := by
      intro hne
      have hall:=yQ m.bds hpn' hr5.1 hr5.2 hmin5 hne
      have af:=Cj m.bds hpn' hall
      obtain ⟨q1,q2⟩:=(af.near m.bds (mh _ _)).root m.bds hr5.1 hr5.2 hmin5
      have ab:wA Ls.size (Lf Ls) B (uE B key) pos1:=fun i hi hl=>by rw [hpk i hi hl,← af i hi hl,hpn i hi]
      obtain ⟨q3,q4⟩:=(ab.near m.bds (mh _ _)).root m.bds hr.1 hr.2 fun x hx hv=>by rw [hre]; exact st2.h.root_max hx hv
      exact ⟨af,q1,q3,q2,by rw [hX]; exact q4⟩
     by_cases hkd5:df Ls[r5]!.L (pos2 r5)=1
     ·have e7:(df Ls[r5]!.L (pos2 r5) == 1)=true:=by rw [hkd5]; rfl
      refine AV @c1 @c2 @er @h6' @p5 @d5 @dk5 @e7 @z0 @z1 @hz6 @Nat.zero_mul @Nat.add_zero ?_
      refine mP (f:=0) (x:=dI Ls[r5]!.L (pos2 r5).toNat) (y:=key) c1 st5.h.at_.c0 (kvB5.inc st5.g.inc) hkey5 ?_
      by_cases heq:dI Ls[r5]!.L (pos2 r5).toNat=key
      ·have e8:(ct (dI Ls[r5]!.L (pos2 r5).toNat) key == 0)=true:=by rw [beq_iff_eq]; exact dE.2 heq
       refine bZ @e8 ?_
       obtain ⟨t,ht,hut,nf⟩:=Ci m.bds hpn' hr5.1 hr5.2 heq
       refine eY m st5 nf (Ah (q:=(cv (GL snap Ls.size (Lf Ls) B) key:Nat)) m b05 e5 (fun u hu htu hno => ?_) (fun hno => ?_) (fun w6 S6 r1 r2 r3 => ?_))
       ·have h:=iR (snap:=snap) m.bds (key:=key) hu (by omega) fun v hv hle=>hno v hv (by omega)
        exact ⟨h.1,by omega,by omega⟩
       ·rw [kF m.bds (key:=key) fun v hv hle=>hno v hv (by omega)]
       ·refine an ?_
        exact hk w6 S6 r1 r2 r3
      ·have e8:(ct (dI Ls[r5]!.L (pos2 r5).toNat) key == 0)=false:=by rw [beq_eq_false_iff_ne]; exact fun h=>heq (dE.1 h)
       refine HX @e8 @c1 @c2 @p5 @d5 @u4 @fU @z0 @z1 @hz6 @Nat.zero_mul @Nat.add_zero ?_
       obtain ⟨af,hum,hu0,hE,hXE⟩:=tail heq
       obtain ⟨st6,l6⟩:=st5.setU m.mc (x:=4) (.inr rfl) (.slice (some kva5) kvn5 kvc5) ⟨_,_,_,rfl⟩
       obtain ⟨w6,hw6⟩:∃ w6,w6=w5.setCell ⟨U,4,none⟩ (.slice (some kva5) kvn5 kvc5):=⟨_,rfl⟩
       rw [← hw6] at st6 l6 ⊢
       have q63:w6.cell? ⟨U,3,none⟩=some (.slice (some v4a) v4n v4c):=by rw [hw6]; exact bm @q5
       have q64:w6.cell? ⟨U,4,none⟩=some (.slice (some kva5) kvn5 kvc5):=by rw [hw6]; exact bm @u4
       have q6d:w6.cell? ⟨U,11,none⟩=some (.int .i8 1):=by rw [hw6]; exact bm @e5
       refine nP (u:=uE B key) m st6.g st6.u st6.h.at_.c0 af st6.r.k st6.r.s (fun g hg=>by obtain ⟨a1,a2,a3,a4,_⟩:=st6.r.sp _ (st6.r.kS g hg); exact ⟨a1,a2,a3,a4⟩) (fun g hg=>by obtain ⟨a1,a2,a3,a4,_⟩:=st6.r.sp _ (st6.r.sS g hg); exact ⟨a1,a2,a3,a4,st6.r.ks g hg⟩) q63 q64 fun w7 ka n cap vs7 lk7 ls7 out p6 p7 p8 p9 ok ol ot oT os b9 nk ns dj k7 => ?_
       subst ol
       obtain ⟨st7,l7⟩:=st6.syn m.mc ok os nk ns dj k7 ⟨_,p6⟩ ⟨_,p7⟩ ⟨_,p8⟩ ⟨_,p9⟩ b9
       have n7:∀ x,x≤5∨x=11→¬ zX U Bf vk vs U x:=by
        rintro x hx (⟨_,h1,h2⟩ | ⟨h,_⟩ | h | h)
        ·omega
        ·exact m.mc.ne h.symm
        ·exact (st6.r.sp _ (st6.r.kS _ h)).1 rfl
        ·exact (st6.r.sp _ (st6.r.sS _ h)).1 rfl
       have q73:=k7.some q63 (n7 _ (by omega))
       have q74:=k7.some q64 (n7 _ (by omega))
       have q7d:=k7.some q6d (n7 _ (by omega))
       have b07:=(b05.trans l6.bef).trans l7.bef
       by_cases hcov:mN Ls.size (Lf Ls) B (uE B key)=true
       ·rw [hcov]
        refine an ?_
        have hin:uE B key ∈ cM Ls.size (Lf Ls) B:=dC.2 ⟨by omega,hcov⟩
        have h:=iR (snap:=snap) m.bds (key:=key) hin (aE _) fun v hv hle=>by omega
        have:=b07.ret (C:=C) (snap:=snap) (B:=B) (d:=d) (q:=(cv (GL snap Ls.size (Lf Ls) B) key:Nat)) hk ⟨uE B key,_,_,_,_,_,_,_,st7.sc,by omega,h.1,fun _ _=>⟨⟨_,p6,by rw [hXE] at sb4; exact st7.r.lb sb4⟩,⟨_,p7,by rw [hE] at kvB5; exact .inl kvB5⟩,⟨ka,_,cap,lk7,out,p8,ok.own,rfl,ot,ok.good,oT,fun g hg => .inr (.inl hg)⟩,p9⟩,.inl ⟨q7d,⟨_,st7.h⟩,af,.inr ⟨⟨_,q73,rfl⟩,⟨_,q74,rfl⟩⟩⟩⟩
        rwa [eO (by omega) (by rw [cJ]; omega)] at this
       ·have hcov:mN Ls.size (Lf Ls) B (uE B key)=false:=by simpa using hcov
        rw [hcov]
        refine an ?_
        have hnot:∀ v ∈ cM Ls.size (Lf Ls) B,uE B key≤v→uE B key < v:=fun v hv hle=>by
         rcases bt hle with h | h
         ·exact h
         ·subst h
          have:=(dC.1 hv).2
          rw [hcov] at this
          simp at this
        refine eY m st7 (af.near m.bds (mh _ _)) (Ah (q:=(cv (GL snap Ls.size (Lf Ls) B) key:Nat)) m b07 q7d (fun u hu htu hno => ?_) (fun hno => ?_) (fun w8 S8 r1 r2 r3 => ?_))
        ·have h:=iR (snap:=snap) m.bds (key:=key) hu (by omega) fun v hv hle=>hno v hv (hnot v hv hle)
         exact ⟨h.1,by omega,by omega⟩
        ·rw [kF m.bds (key:=key) fun v hv hle=>hno v hv (hnot v hv hle)]
        ·refine an ?_
         exact hk w8 S8 r1 r2 r3
     ·have e7:(df Ls[r5]!.L (pos2 r5) == 1)=false:=by rw [beq_eq_false_iff_ne]; exact hkd5
      have hne5:dI (Lf Ls r5) (pos2 r5).toNat≠key:=yS m.bds hpn' hr5.1 hr5.2 fun he=>hkd5 (fu hr5.2 he)
      refine HZ @c1 @c2 @er @h6' @p5 @d5 @dk5 @e7 @z0 @z1 @hz6 @u4 @fU @Nat.zero_mul @Nat.add_zero ?_
      obtain ⟨af,hum,hu0,hE,hXE⟩:=tail hne5
      obtain ⟨st6,l6⟩:=st5.setU m.mc (x:=4) (.inr rfl) (.slice (some kva5) kvn5 kvc5) ⟨_,_,_,rfl⟩
      obtain ⟨w6,hw6⟩:∃ w6,w6=w5.setCell ⟨U,4,none⟩ (.slice (some kva5) kvn5 kvc5):=⟨_,rfl⟩
      rw [← hw6] at st6 l6 ⊢
      have q63:w6.cell? ⟨U,3,none⟩=some (.slice (some v4a) v4n v4c):=by rw [hw6]; exact bm @q5
      have q64:w6.cell? ⟨U,4,none⟩=some (.slice (some kva5) kvn5 kvc5):=by rw [hw6]; exact bm @u4
      have q6d:w6.cell? ⟨U,11,none⟩=some (.int .i8 1):=by rw [hw6]; exact bm @e5
      refine nP (u:=uE B key) m st6.g st6.u st6.h.at_.c0 af st6.r.k st6.r.s (fun g hg=>by obtain ⟨a1,a2,a3,a4,_⟩:=st6.r.sp _ (st6.r.kS g hg); exact ⟨a1,a2,a3,a4⟩) (fun g hg=>by obtain ⟨a1,a2,a3,a4,_⟩:=st6.r.sp _ (st6.r.sS g hg); exact ⟨a1,a2,a3,a4,st6.r.ks g hg⟩) q63 q64 fun w7 ka n cap vs7 lk7 ls7 out p6 p7 p8 p9 ok ol ot oT os b9 nk ns dj k7 => ?_
      subst ol
      obtain ⟨st7,l7⟩:=st6.syn m.mc ok os nk ns dj k7 ⟨_,p6⟩ ⟨_,p7⟩ ⟨_,p8⟩ ⟨_,p9⟩ b9
      have n7:∀ x,x≤5∨x=11→¬ zX U Bf vk vs U x:=by
       rintro x hx (⟨_,h1,h2⟩ | ⟨h,_⟩ | h | h)
       ·omega
       ·exact m.mc.ne h.symm
       ·exact (st6.r.sp _ (st6.r.kS _ h)).1 rfl
       ·exact (st6.r.sp _ (st6.r.sS _ h)).1 rfl
      have q73:=k7.some q63 (n7 _ (by omega))
      have q74:=k7.some q64 (n7 _ (by omega))
      have q7d:=k7.some q6d (n7 _ (by omega))
      have b07:=(b05.trans l6.bef).trans l7.bef
      by_cases hcov:mN Ls.size (Lf Ls) B (uE B key)=true
      ·rw [hcov]
       refine an ?_
       have hin:uE B key ∈ cM Ls.size (Lf Ls) B:=dC.2 ⟨by omega,hcov⟩
       have h:=iR (snap:=snap) m.bds (key:=key) hin (aE _) fun v hv hle=>by omega
       have:=b07.ret (C:=C) (snap:=snap) (B:=B) (d:=d) (q:=(cv (GL snap Ls.size (Lf Ls) B) key:Nat)) hk ⟨uE B key,_,_,_,_,_,_,_,st7.sc,by omega,h.1,fun _ _=>⟨⟨_,p6,by rw [hXE] at sb4; exact st7.r.lb sb4⟩,⟨_,p7,by rw [hE] at kvB5; exact .inl kvB5⟩,⟨ka,_,cap,lk7,out,p8,ok.own,rfl,ot,ok.good,oT,fun g hg => .inr (.inl hg)⟩,p9⟩,.inl ⟨q7d,⟨_,st7.h⟩,af,.inr ⟨⟨_,q73,rfl⟩,⟨_,q74,rfl⟩⟩⟩⟩
       rwa [eO (by omega) (by rw [cJ]; omega)] at this
      ·have hcov:mN Ls.size (Lf Ls) B (uE B key)=false:=by simpa using hcov
       rw [hcov]
       refine an ?_
       have hnot:∀ v ∈ cM Ls.size (Lf Ls) B,uE B key≤v→uE B key < v:=fun v hv hle=>by
        rcases bt hle with h | h
        ·exact h
        ·subst h
         have:=(dC.1 hv).2
         rw [hcov] at this
         simp at this
       refine eY m st7 (af.near m.bds (mh _ _)) (Ah (q:=(cv (GL snap Ls.size (Lf Ls) B) key:Nat)) m b07 q7d (fun u hu htu hno => ?_) (fun hno => ?_) (fun w8 S8 r1 r2 r3 => ?_))
       ·have h:=iR (snap:=snap) m.bds (key:=key) hu (by omega) fun v hv hle=>hno v hv (hnot v hv hle)
        exact ⟨h.1,by omega,by omega⟩
       ·rw [kF m.bds (key:=key) fun v hv hle=>hno v hv (hnot v hv hle)]
       ·refine an ?_
        exact hk w8 S8 r1 r2 r3
    ·have h6':((hp5.size:Int) == 0)=true:=by rw [beq_iff_eq]; omega
     refine fE @c1 @c2 @er @h6' ?_
     have hz:∀ i,i < Ls.size→cK (Lf Ls i) key=2 * (Lf Ls i).length:=fun i hi=>by
      have a1:=st5.h.empty h6 hi
      rw [hpn i hi] at a1
      have a3:=hcle i
      have a4:(Lf Ls i).length=Ls[i]!.L.length:=rfl
      unfold dW at a1
      omega
     obtain ⟨hu1,_⟩:=tX m.bds hz
     have hq:cv (GL snap Ls.size (Lf Ls) B) key=(cM Ls.size (Lf Ls) B).length:=kF m.bds (key:=key) fun v hv h=>by have:=(hcv v hv).2; omega
     have:=b05.ret (C:=C) (snap:=snap) (B:=B) (d:=d) (q:=(cv (GL snap Ls.size (Lf Ls) B) key:Nat)) hk ⟨B.length,_,_,_,_,_,_,_,st5.sc,aE _,.inr (.inl ⟨by rw [hq],rfl⟩),fun _ h=>by omega,.inl ⟨e5,⟨_,st5.h⟩,fun i hi hl=>by rw [hpn i hi,hz i hi,rN m.bds hi],.inl rfl⟩⟩
     rwa [eQ (by rw [cJ]; omega)] at this
  ·have h0':((hp2.size:Int) == 0)=true:=by rw [beq_iff_eq]; omega
   refine fE @c1 @c2 @er @h0' ?_
   have hz:∀ i,i < Ls.size→cK (Lf Ls i) key=0:=fun i hi=>by
    have a1:=st2.h.empty h0 hi
    have a2:=hpk' i hi
    have a3:=hcle i
    unfold dW at a1
    omega
   obtain ⟨hu1,_⟩:=tW m.bds hz
   refine gV c st2.g st2.sc.hw st2.u.u11 fun w3 hp3 g3 h3 e3 k3 => ?_
   obtain ⟨st3,b3⟩:=st2.sc.turn c g3 h3 e3 k3
   refine an ?_
   refine eY m st3 (zS.near m.bds (t:=0) (fun i hi hl=>by rw [hpn i hi,hz i hi]; rfl) (aO _)) (Ah (q:=(cv (GL snap Ls.size (Lf Ls) B) key:Nat)) m ((b1.trans b2).trans b3) e3 (fun u hu htu hno => ?_) (fun hno => ?_) (fun w4 S4 r1 r2 r3 => ?_))
   ·have h:=iR (snap:=snap) m.bds (key:=key) hu (by omega) fun v hv _=>hno v hv (hcv v hv).1
    exact ⟨h.1,by omega,by omega⟩
   ·rw [kF m.bds (key:=key) fun v hv _=>hno v hv (hcv v hv).1]
   ·refine an ?_
    exact hk w4 S4 r1 r2 r3
end
end Go.Proofs
end
