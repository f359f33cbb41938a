/- Parts of the proof: Mk, Pm, Ms. -/
import Derived.Test.YtjcbeinpkafjiaaGreatQ13
set_option linter.all false
set_option maxRecDepth 10000
section
namespace Go.Proofs
open Go Go.E Go.Sort Go.Proofs.Tryz
section
variable {k:ae} {d w:World} {U o Bf:Nat} {Z:TX} {Ls:Array Lvl} {B:List Bytes} {S:Nat→Prop} {p:Int}
theorem ur {a:Option Addr} {n c:Nat}:nz (.slice a n c)=a.isSome:=by cases a <;> rfl
set_option maxHeartbeats 1000000 in
theorem Aw (m:MS d U o Bf Z Ls B) (hm:Mi d U o Bf Z Ls B w S p) (hp:p < (bn Ls.size (Lf Ls) B).length)
    (hk:FK (.pointer none) U (o+4) (GL Z.F Ls.size (Lf Ls) B) (mT U o Bf Z Ls) (Mi d U o Bf Z Ls B) w S (p+1) k):aU prog 195 #[.pointer (some ⟨U,o,none⟩)] k w:=by
 obtain ⟨u,pos,vk,vb,vs,lk,xb,sc,hu,hcur,hsp,hd⟩:=hm
 have c:=m.mc
 have er:=sc.g.err
 have hS:=de (n:=Ls.size) (L:=Lf Ls) (B:=B)
 have hb:=eJ m.bds
 have m11:((-1:Int) == 1)=false:=by decide
 have m11':((-1:Int) != 1)=true:=by decide
 have m01:((0:Int) == 1)=false:=by decide
 have m01':((0:Int) != 1)=true:=by decide
 have p11':((1:Int) != 1)=false:=by decide
 have fin:∀ {w1:World} {S1:Nat→Prop} {K:ae},Bef w w1 U o Bf Z Ls S S1→w1.cell? ⟨U,o+9,none⟩=some (.int .i8 1)→(∀ w3 S3,Mi d U o Bf Z Ls B w3 S3 (p+1)→(∀ b,S3 b→S b∨w.heap.size≤b)→Keep (fun b x=>mT U o Bf Z Ls b x∨S b) w w3→K (fN U (o+4) (GL Z.F Ls.size (Lf Ls) B) (p+1)) w3)→EU d w1 U o Bf Z Ls B S1 u K:=by
  intro w1 S1 K hb1 he hK
  refine y7 m hb1 he (fun v hv htv hno => ?_) (fun hno => ?_) hK
  ·have h:=hcur.next hS hb hv htv hno
   have:=hcur.rg
   exact ⟨h.1,by omega,h.2⟩
  ·have h:=hcur.next_none hS hb hno
   omega
 rcases hd with ⟨h11,⟨hp',hh⟩,af,hse⟩ | ⟨h11,_,ab,_⟩ | ⟨h11,ab,h0,_⟩
 ·obtain ⟨a3,n3,c3,u3⟩:=sc.u.u3
  obtain ⟨a4,n4,c4,u4⟩:=sc.u.u4
  have ended:u=B.length→k (fN U (o+4) (GL Z.F Ls.size (Lf Ls) B) (p+1)) w:=by
   intro hu2
   have hpN:p+1=(bn Ls.size (Lf Ls) B).length:=by
    rcases hcur with ⟨j,rfl,hj⟩ | ⟨rfl,_⟩ | ⟨rfl,h0⟩
    ·have:=hb _ (aL hj); omega
    ·omega
    ·rcases ay (bn Ls.size (Lf Ls) B).length with h1 | h1
     ·omega
     ·have:=hb _ (aS h1); omega
   exact hk w S ⟨u,pos,vk,vb,vs,lk,xb,sc,hu,.inr (.inl ⟨hpN,hu2⟩),fun _ h=>by omega,.inl ⟨h11,⟨hp',hh⟩,af,.inl hu2⟩⟩ (fun _ h => .inl h) (Keep.refl _ w)
  have endN:u=B.length→fN U (o+4) (GL Z.F Ls.size (Lf Ls) B) (p+1) = .pointer none:=by
   intro hu2
   refine dp ?_
   rw [bp]
   rcases hcur with ⟨j,rfl,hj⟩ | ⟨rfl,_⟩ | ⟨rfl,h0⟩
   ·have:=hb _ (aL hj); omega
   ·omega
   ·rcases ay (bn Ls.size (Lf Ls) B).length with h1 | h1
    ·omega
    ·have:=hb _ (aS h1); omega
  have hse4:a4=none∨a3=none→u=B.length:=by
   intro h
   rcases hse with h1 | ⟨⟨v3,q3,s3⟩,⟨v4,q4,s4⟩⟩
   ·exact h1
   ·rw [u3] at q3
    rw [u4] at q4
    cases q3
    cases q4
    rw [ur] at s3 s4
    rcases h with rfl | rfl
    ·simp at s4
    ·simp at s3
  refine aW [.tmp 2] func195 ?_
  cases a4 with
  | none =>
   have he:=ended (hse4 (.inl rfl))
   rw [endN (hse4 (.inl rfl))] at he
   simp (disch:=first | exact dZ | fail) only [go_sem,er,h11,u3,u4,p11',Option.isNone_none]
   exact he
  | some a4 =>
   cases a3 with
   | none =>
    have he:=ended (hse4 (.inr rfl))
    rw [endN (hse4 (.inr rfl))] at he
    simp (disch:=first | exact dZ | fail) only [go_sem,er,h11,u3,u4,p11',Option.isNone_none,Option.isNone_some]
    exact he
   | some a3 =>
    simp (disch:=first | exact dZ | fail) only [go_sem,er,h11,u3,u4,p11',Option.isNone_none,Option.isNone_some]
    refine eA m ⟨sc.g,hh,sc.u,sc.r⟩ (af.near m.bds hu) (fin (Bef.refl _ _ _ _ _ _ _) h11 fun w3 S3 r1 r2 r3 => ?_)
    refine aY ?_
    exact hk w3 S3 r1 r2 r3
 ·refine aW [.tmp 2] func195 ?_
  refine eI @er @h11 @m11 @m11' ?_
  refine fb c sc.g sc.hw sc.u.u11 fun w2 hp2 g2 h2 e2 k2 => ?_
  obtain ⟨st2,b2⟩:=sc.turn m g2 h2 e2 k2
  refine aY ?_
  refine eA m st2 (xw.near m.bds (t:=u) (fun i hi hl => ?_) hu) (fin b2 e2 fun w3 S3 r1 r2 r3 => ?_)
  ·have a1:=ab i hi hl
   have a2:=ir (L:=Lf Ls) (B:=B) u i
   rw [fY _ _ hi]
   show jn Ls[i]!.L (pos i)=_
   have hl2:(Lf Ls i).length=Ls[i]!.L.length:=rfl
   unfold jn
   rw [if_neg (by omega)]
   exact a1
  ·refine aY ?_
   exact hk w3 S3 r1 r2 r3
 ·refine aW [.tmp 2] func195 ?_
  refine eI @er @h11 @m01 @m01' ?_
  refine fb c sc.g sc.hw sc.u.u11 fun w2 hp2 g2 h2 e2 k2 => ?_
  obtain ⟨st2,b2⟩:=sc.turn m g2 h2 e2 k2
  refine aY ?_
  refine eA m st2 (xw.near m.bds (t:=u) (fun i hi hl => ?_) hu) (fin b2 e2 fun w3 S3 r1 r2 r3 => ?_)
  ·have a1:=ab i hi hl
   have a2:=ir (L:=Lf Ls) (B:=B) u i
   rw [fY _ _ hi]
   show jn Ls[i]!.L (pos i)=_
   have hl2:(Lf Ls i).length=Ls[i]!.L.length:=rfl
   unfold jn
   rw [if_neg (by omega)]
   exact a1
  ·refine aY ?_
   exact hk w3 S3 r1 r2 r3
set_option maxHeartbeats 1000000 in
theorem Ax (m:MS d U o Bf Z Ls B) (hm:Mi d U o Bf Z Ls B w S p) (hp : -1 < p)
    (hk:FK (.pointer none) U (o+4) (GL Z.F Ls.size (Lf Ls) B) (mT U o Bf Z Ls) (Mi d U o Bf Z Ls B) w S (p - 1) k):aU prog 196 #[.pointer (some ⟨U,o,none⟩)] k w:=by
 obtain ⟨u,pos,vk,vb,vs,lk,xb,sc,hu,hcur,hsp,hd⟩:=hm
 have c:=m.mc
 have er:=sc.g.err
 have hS:=de (n:=Ls.size) (L:=Lf Ls) (B:=B)
 have hb:=eJ m.bds
 have m11:((1:Int) == -1)=false:=by decide
 have m11':((1:Int) != -1)=true:=by decide
 have m01:((0:Int) == -1)=false:=by decide
 have m01':((0:Int) != -1)=true:=by decide
 have p11':((-1:Int) != -1)=false:=by decide
 have p11:((-1:Int) == -1)=true:=by decide
 have fin:∀ {w1:World} {S1:Nat→Prop} {K:ae},Bef w w1 U o Bf Z Ls S S1→w1.cell? ⟨U,o+9,none⟩=some (.int .i8 (-1))→(∀ w3 S3,Mi d U o Bf Z Ls B w3 S3 (p - 1)→(∀ b,S3 b→S b∨w.heap.size≤b)→Keep (fun b x=>mT U o Bf Z Ls b x∨S b) w w3→K (fN U (o+4) (GL Z.F Ls.size (Lf Ls) B) (p - 1)) w3)→EV d w1 U o Bf Z Ls B S1 u K:=by
  intro w1 S1 K hb1 he hK
  refine y8 m hb1 he (fun v hv htv hno => ?_) (fun hno => ?_) hK
  ·have h:=hcur.prev hS hb hv htv hno
   have:=hcur.rg
   exact ⟨h.1,h.2,by omega⟩
  ·have h:=hcur.prev_none hS hb hno
   omega
 rcases hd with ⟨h11,_,ab,_⟩ | ⟨h11,⟨hp',hh⟩,af,hse⟩ | ⟨h11,ab,h0,_⟩
 ·refine aW [.tmp 2] func196 ?_
  refine eI @er @h11 @m11 @m11' ?_
  refine fc c sc.g sc.hw sc.u.u11 fun w2 hp2 g2 h2 e2 k2 => ?_
  obtain ⟨st2,b2⟩:=sc.turn m g2 h2 e2 k2
  refine aY ?_
  refine eC m st2 (ui.near m.bds (t:=u) (fun i hi hl => ?_) hu) (fin b2 e2 fun w3 S3 r1 r2 r3 => ?_)
  ·have a1:=ab i hi hl
   rw [fY _ _ hi]
   show jo (pos i)+1=_
   unfold jo
   rw [if_neg (by omega)]
   omega
  ·refine aY ?_
   exact hk w3 S3 r1 r2 r3
 ·obtain ⟨a3,n3,c3,u3⟩:=sc.u.u3
  obtain ⟨a4,n4,c4,u4⟩:=sc.u.u4
  have hpN:u=0→p - 1 = -1:=by
   intro hu2
   rcases hcur with ⟨j,rfl,hj⟩ | ⟨rfl,h0⟩ | ⟨rfl,h0⟩
   ·have:=hb _ (aL hj); omega
   ·rcases ay (bn Ls.size (Lf Ls) B).length with h1 | h1
    ·omega
    ·have:=hb _ (aS h1); omega
   ·omega
  have ended:u=0→k (fN U (o+4) (GL Z.F Ls.size (Lf Ls) B) (p - 1)) w:=by
   intro hu2
   exact hk w S ⟨u,pos,vk,vb,vs,lk,xb,sc,hu,.inr (.inr ⟨hpN hu2,hu2⟩),fun h _=>by have:=hpN hu2; omega,.inr (.inl ⟨h11,⟨hp',hh⟩,af,.inl hu2⟩)⟩ (fun _ h => .inl h) (Keep.refl _ w)
  have endN:u=0→fN U (o+4) (GL Z.F Ls.size (Lf Ls) B) (p - 1) = .pointer none:=by
   intro hu2
   have:=hpN hu2
   exact dp (by omega)
  have hse4:a4=none∨a3=none→u=0:=by
   intro h
   rcases hse with h1 | ⟨⟨v3,q3,s3⟩,⟨v4,q4,s4⟩⟩
   ·exact h1
   ·rw [u3] at q3
    rw [u4] at q4
    cases q3
    cases q4
    rw [ur] at s3 s4
    rcases h with rfl | rfl
    ·simp at s4
    ·simp at s3
  refine aW [.tmp 2] func196 ?_
  cases a4 with
  | none =>
   have he:=ended (hse4 (.inl rfl))
   rw [endN (hse4 (.inl rfl))] at he
   simp (disch:=first | exact dZ | fail) only [go_sem,er,h11,u3,u4,p11,p11',Option.isNone_none]
   exact he
  | some a4 =>
   cases a3 with
   | none =>
    have he:=ended (hse4 (.inr rfl))
    rw [endN (hse4 (.inr rfl))] at he
    simp (disch:=first | exact dZ | fail) only [go_sem,er,h11,u3,u4,p11,p11',Option.isNone_none,Option.isNone_some]
    exact he
   | some a3 =>
    simp (disch:=first | exact dZ | fail) only [go_sem,er,h11,u3,u4,p11,p11',Option.isNone_none,Option.isNone_some]
    refine eC m ⟨sc.g,hh,sc.u,sc.r⟩ (af.near m.bds hu) (fin (Bef.refl _ _ _ _ _ _ _) h11 fun w3 S3 r1 r2 r3 => ?_)
    refine aY ?_
    exact hk w3 S3 r1 r2 r3
 ·refine aW [.tmp 2] func196 ?_
  refine eI @er @h11 @m01 @m01' ?_
  refine fc c sc.g sc.hw sc.u.u11 fun w2 hp2 g2 h2 e2 k2 => ?_
  obtain ⟨st2,b2⟩:=sc.turn m g2 h2 e2 k2
  refine aY ?_
  refine eC m st2 (ui.near m.bds (t:=u) (fun i hi hl => ?_) hu) (fin b2 e2 fun w3 S3 r1 r2 r3 => ?_)
  ·have a1:=ab i hi hl
   rw [fY _ _ hi]
   show jo (pos i)+1=_
   unfold jo
   have hz:cp (Lf Ls) B u i=0:=by rw [h0]; rfl
   split <;> omega
  ·refine aY ?_
   exact hk w3 S3 r1 r2 r3
end
end Go.Proofs
end
section
namespace Go.E
open Go Go.Sort Go.Proofs
section
variable {n:Nat} {L:Nat→List Sp} {B:List Bytes} {key:Bytes} {pos:Nat→Int}
theorem wZ (h:Bds n L B) {i p:Nat} (hi:i < n) (hp:p < 2 * (L i).length) (hc:cK (L i) key≤p):¬ cn (L i) p < key:=by
 have:=(not_congr (kL (h.wf i hi) (key:=key) hp)).1 (by omega)
 split at this
 ·exact this
 ·exact fk (Classical.not_not.1 this)
theorem wa (h:Bds n L B) {i p:Nat} (hi:i < n) (hp:p < 2 * (L i).length) (hc:p < cK (L i) key):¬ key < cn (L i) p:=by
 have:=(kL (h.wf i hi) (key:=key) hp).1 hc
 split at this
 ·exact fk this
 ·exact this
theorem DN (h:Bds n L B) {j:Nat} (hj:j < B.length):∃ i,i < n∧∃ p,p < 2 * (L i).length∧cn (L i) p=B[j]! := (h.mem _).1 (by rw [aI B j hj]; exact aS _)
theorem sB (h:Bds n L B) (hz:∀ i,i < n→cK (L i) key=0):uE B key≤1∧uL B key=0:=by
 have hge:∀ j,j < B.length→¬ B[j]! < key:=fun j hj=>by
  obtain ⟨i,hi,p,hp,e⟩:=DN h hj
  rw [← e]
  exact wZ h hi hp (by rw [hz i hi]; omega)
 have h1:=lE B key
 have h2:=om B key
 constructor
 ·rcases aH 1 (uE B key) with h3 | h3
  ·exfalso
   have h4:=(kM h (key:=key) (j:=1) (by omega)).1 h3
   have h5:=(h.lt (i:=0) (j:=1) (by omega) (by omega)).2 (by omega)
   have h6:=hge 0 (by omega)
   exact h4 (cT h6 h5)
  ·exact h3
 ·rcases ay (uL B key) with h3 | h3
  ·exact h3
  ·exact absurd ((oh h (key:=key) (j:=0) (by omega)).1 h3) (hge 0 (by omega))
theorem sC (h:Bds n L B) (hz:∀ i,i < n→cK (L i) key=2 * (L i).length):uE B key=B.length∧B.length≤uL B key+1:=by
 have hle:∀ j,j < B.length→¬ key < B[j]! := fun j hj=>by
  obtain ⟨i,hi,p,hp,e⟩:=DN h hj
  rw [← e]
  exact wa h hi hp (by rw [hz i hi]; exact hp)
 have h1:=lE B key
 have h2:=om B key
 constructor
 ·rcases aH (uE B key) B.length with h3 | h3
  ·have:=(kM h (key:=key) h3).2 (hle _ h3); omega
  ·omega
 ·rcases aH (uL B key+1) B.length with h3 | h3
  ·exfalso
   have h4:=(h.lt (i:=uL B key) (j:=uL B key+1) (by omega) h3).2 (by omega)
   have h5:=hle _ h3
   have:=(oh h (key:=key) (j:=uL B key) (by omega)).2 (bw h4 h5)
   omega
  ·omega
theorem Ay (h:Bds n L B) (hp:∀ i,i < n→0 < (L i).length→pos i=cK (L i) key) {r:Nat} (hr:r < n) (hv:dH (L r) (pos r)) (he:cn (L r) (pos r).toNat=key):∃ t,t < B.length∧uE B key=t+1∧NearF n L B t pos:=by
 obtain ⟨q,eq,hq,h0⟩:=eg hv
 rw [eq,an] at he
 obtain ⟨t,ht,et⟩:=h.at hr hq
 rw [he] at et
 have hu:uE B key=t+1:=by
  have a:=(kM h (key:=key) ht).2 (by rw [et]; exact bj _)
  have b:=lE B key
  rcases aH (t+1) (uE B key) with h3 | h3
  ·have:=(kM h (key:=key) (j:=t+1) (by omega)).1 h3
   have h5:=(h.lt (i:=t) (j:=t+1) ht (by omega)).2 (by omega)
   rw [et] at h5
   exact absurd h5 this
  ·omega
 refine ⟨t,ht,hu,by omega,fun i hi hl => ?_,fun _=>⟨r,hr,hv,by rw [eq,an,he,et]⟩⟩
 have a:=qL (h.wf i hi) key
 have b:=qM (h.wf i hi) key
 have c1:=DJ h ht hi
 rw [et] at c1
 have c2:=uk h hi key
 rw [hu] at c2
 rw [hp i hi hl,show min (t+1) B.length=t+1 by omega]
 omega
theorem Az (h:Bds n L B) (hp:∀ i,i < n→0 < (L i).length→pos i=cK (L i) key) (hne:∀ i,i < n→dH (L i) (pos i)→cn (L i) (pos i).toNat≠key):xw n L B (uE B key) pos:=by
 intro i hi hl
 rw [hp i hi hl,uk h hi]
 have a:=qM (h.wf i hi) key
 rcases aH (cK (L i) key) (cE (L i) key) with h1 | h1
 ·exfalso
  have hq:cK (L i) key < 2 * (L i).length:=by have:=xt (L i) key; omega
  have e:=hp i hi hl
  have b:=hne i hi ⟨by omega,by omega⟩
  rw [e,an] at b
  exact b (db (wZ h hi hq (aD _)) ((rp (h.wf i hi) hq).1 h1))
 ·omega
theorem A0 (h:Bds n L B) (hp:∀ i,i < n→0 < (L i).length→pos i+1=cK (L i) key) {r:Nat} (hr:r < n) (hv:dH (L r) (pos r)) (he:cn (L r) (pos r).toNat=key):∃ t,0 < t∧t≤B.length∧uL B key+1=t∧NearB n L B t pos:=by
 obtain ⟨q,eq,hq,h0⟩:=eg hv
 rw [eq,an] at he
 obtain ⟨t,ht,et⟩:=h.at hr hq
 rw [he] at et
 have hu:uL B key=t:=by
  have b:=om B key
  have a:=(not_congr (oh h (key:=key) ht)).2 (by rw [et]; exact bj _)
  rcases aH (uL B key) t with h3 | h3
  ·have h5:=(h.lt (i:=uL B key) (j:=t) (by omega) ht).2 h3
   rw [et] at h5
   have:=(oh h (key:=key) (j:=uL B key) (by omega)).2 h5
   omega
  ·omega
 refine ⟨t+1,by omega,by omega,by omega,by omega,fun i hi hl => ?_,fun _=>⟨r,hr,hv,by rw [eq,an,he,Nat.add_sub_cancel,et]⟩⟩
 have a:=qL (h.wf i hi) key
 have b:=qM (h.wf i hi) key
 have c2:=DL h hi key
 rw [hu] at c2
 have c3:cp L B (t+1) i=cE (L i) key:=by
  unfold cp
  rw [if_neg (by omega),Nat.add_sub_cancel,et]
 rw [hp i hi hl,Nat.add_sub_cancel]
 omega
theorem A5 (h:Bds n L B) (hp:∀ i,i < n→0 < (L i).length→pos i+1=cK (L i) key) (hne:∀ i,i < n→dH (L i) (pos i)→cn (L i) (pos i).toNat≠key):ui n L B (uL B key) pos:=by
 intro i hi hl
 rw [hp i hi hl,DL h hi]
 have a:=qL (h.wf i hi) key
 rcases aH (cL (L i) key) (cK (L i) key) with h1 | h1
 ·exfalso
  have hcl:=og (L i) key
  have e:=hp i hi hl
  obtain ⟨q,eq⟩:∃ q:Nat,pos i=q:=⟨(pos i).toNat,by omega⟩
  have hq:q < 2 * (L i).length:=by omega
  have b:=hne i hi ⟨by omega,by omega⟩
  rw [eq,an] at b
  refine b (db (fun hlt => ?_) (wa h hi hq (by omega)))
  have:=(uh (h.wf i hi) hq).2 hlt
  omega
 ·omega
theorem wg (h:Bds n L B) (hp:∀ i,i < n→0 < (L i).length→pos i=cK (L i) key) {r:Nat} (hr:r < n) (hv:dH (L r) (pos r)) (hmin:∀ x,x < n→dH (L x) (pos x)→¬ cn (L x) (pos x).toNat < cn (L r) (pos r).toNat) (hne:cn (L r) (pos r).toNat≠key):∀ i,i < n→dH (L i) (pos i)→cn (L i) (pos i).toNat≠key:=by
 intro i hi hvi he
 obtain ⟨q,eq,hq,h0⟩:=eg hv
 have a:=wZ h (key:=key) hr hq (by have:=hp r hr h0; omega)
 have b:=hmin i hi hvi
 rw [he] at b
 rw [eq,an] at b hne
 exact hne (db a b)
theorem wh (h:Bds n L B) (hp:∀ i,i < n→0 < (L i).length→pos i+1=cK (L i) key) {r:Nat} (hr:r < n) (hv:dH (L r) (pos r)) (hmax:∀ x,x < n→dH (L x) (pos x)→¬ cn (L r) (pos r).toNat < cn (L x) (pos x).toNat) (hne:cn (L r) (pos r).toNat≠key):∀ i,i < n→dH (L i) (pos i)→cn (L i) (pos i).toNat≠key:=by
 intro i hi hvi he
 obtain ⟨q,eq,hq,h0⟩:=eg hv
 have a:=wa h (key:=key) hr hq (by have:=hp r hr h0; omega)
 have b:=hmax i hi hvi
 rw [he] at b
 rw [eq,an] at b hne
 exact hne (db b a)
theorem wj (h:Bds n L B) (hp:∀ i,i < n→0 < (L i).length→pos i=cK (L i) key) {r:Nat} (hr:r < n) (hv:dH (L r) (pos r)) (hk:pos r % 2≠0):cn (L r) (pos r).toNat≠key:=by
 obtain ⟨q,eq,hq,h0⟩:=eg hv
 have e:=hp r hr h0
 have a:=(not_congr (kL (h.wf r hr) (key:=key) hq)).1 (by omega)
 rw [if_neg (by omega)] at a
 intro he
 rw [eq,an] at he
 rw [he] at a
 exact bj _ (Classical.not_not.1 a)
theorem wk (h:Bds n L B) (hp:∀ i,i < n→0 < (L i).length→pos i+1=cK (L i) key) {r:Nat} (hr:r < n) (hv:dH (L r) (pos r)) (hk:pos r % 2=0):cn (L r) (pos r).toNat≠key:=by
 obtain ⟨q,eq,hq,h0⟩:=eg hv
 have e:=hp r hr h0
 have a:=(kL (h.wf r hr) (key:=key) hq).1 (by omega)
 rw [if_pos (by omega)] at a
 intro he
 rw [eq,an] at he
 rw [he] at a
 exact bj _ a
end
end Go.E
end
section
namespace Go.Proofs
open Go Go.E Go.Sort Go.Proofs.Tryz
section
variable {k:ae} {d w:World} {U o Bf:Nat} {Z:TX} {Ls:Array Lvl} {B:List Bytes} {S:Nat→Prop} {pos:Nat→Int} {vk vb:Value} {vs:Nat→Prop} {lk:List KR} {xb:List Value} {p:Int}
theorem nG {w1:World} {S1:Nat→Prop} {kv:Value} {key:Bytes} (h:eO w kv key) (hv:zx kv fun b=>∀ x,¬ mT U o Bf Z Ls b x∧¬ S b) (b1:Bef w w1 U o Bf Z Ls S S1):eO w1 kv key :=
 h.keep b1.k fun a n c e hlt x hm=>by
  have:=hv a n c e x
  rcases Au _ _ hm with h1 | h1
  ·exact this.1 h1
  ·exact this.2 h1
set_option maxHeartbeats 4000000 in
theorem wm {kva:Option Addr} {kn kc:Nat} {key:Bytes} (m:MS d U o Bf Z Ls B) (sc:Sc d w U o Bf Z Ls S pos vk vb vs lk xb) (hkey:eO w (.slice kva kn kc) key) (hkv:zx (.slice kva kn kc) fun b=>∀ x,¬ mT U o Bf Z Ls b x∧¬ S b)
    (hk:FK (.pointer none) U (o+4) (GL Z.F Ls.size (Lf Ls) B) (mT U o Bf Z Ls) (Mi d U o Bf Z Ls B) w S (cV (GL Z.F Ls.size (Lf Ls) B) key) k):aU prog 197 #[.pointer (some ⟨U,o,none⟩),.slice kva kn kc] k w:=by
 have c:=m.mc
 have ne:=c.ne
 have c1:=sc.g.bufs
 have lvs:=sc.g.lvls
 refine aW [.tmp 4] func197 ?_
 refine aY ?_
 refine lW sc.g ?_
 refine dU @c1 @lvs ?_
 refine bI (fun i:Nat=>[(0,.pointer (some ⟨U,o,none⟩)),(1,.slice kva kn kc),(19,.int .i64 Ls.size),(20,.int .i64 i)]) (fun i w'=>Sc d w' U o Bf Z Ls S (oY (fun x _=>(cK Ls[x]!.L key:Int) - 1) pos i) vk vb vs lk xb∧Bef w w' U o Bf Z Ls S S∧i≤Ls.size) (fun i _=>Ls.size - i) 0 (by kernel_rfl) ?_ ⟨by rw [jb]; exact sc,Bef.refl _ _ _ _ _ _ _,aM _⟩ ?_
 ·exact bA
 rintro K e i w1 ⟨sc1,b1,hi0⟩ hK
 have c1:=sc1.g.bufs
 have lvs:=sc1.g.lvls
 have n10:=c.n10
 by_cases hi:i < Ls.size
 ·have hi':(i:Int) < Ls.size:=by omega
  have l1:=sc1.g.lv i hi
  rw [jc] at l1
  have d0:=l1.it
  have d1:=l1.kd
  obtain ⟨v2,d2,_,_⟩:=l1.ky
  obtain ⟨v3,d3,_,_⟩:=l1.sp
  have e2:=ja (fun x _=>(cK Ls[x]!.L key:Int) - 1) pos i
  have hsz:=c.sz i hi
  have hk1:=nG hkey hkv b1
  have hkb:∀ w',Keep (lf Ls[i]!.I) w1 w'→eO w' (.slice kva kn kc) key:=fun w' hk'=>hk1.keep hk' fun a n cc e _ x hx=>(hkv a n cc e x).1 (.inr (.inr (.inl ⟨i,hi,hx.1⟩)))
  refine eI @hi' @c1 @lvs @d0 ?_
  refine qI l1.iter (by omega) sc1.g.inc (c.oI i hi) (c.sp i hi) (c.wf i hi) hkb fun w2 r i2 k2 hr h1 h2 => ?_
  have nU:∀ x,¬ lf Ls[i]!.I U x:=fun x h=>c.iU i hi h.1.symm
  have nB:∀ x,¬ lf Ls[i]!.I Bf x:=fun x h=>c.iB i hi h.1.symm
  have c1:=k2.some c1 (nU _)
  have lvs:=k2.some lvs (nB _)
  have d1:=k2.some d1 (nU _)
  have d2:=k2.some d2 (nU _)
  have d3:=k2.some d3 (nU _)
  have hc0:=k2.some sc1.hw.c0 (nB _)
  have fU:∀ x,w2.frozen? ⟨U,x,none⟩=false:=fun x=>by rw [k2.frozen U x (aE sc1.g.bufs)]; exact sc1.g.fU x
  have hck:=F3 (c.wf i hi) hr h1 h2
  have hcl:=og Ls[i]!.L key
  by_cases hr0:r=0
  ·rw [if_neg (by omega)]
   rw [if_pos hr0] at hck
   simp (disch:=first | exact dZ | fail) only [go_sem,c1,lvs,d1,d2,d3,fU,Option.isNone_none]
   have q1:=l1.mk' (q:=(cK Ls[i]!.L key:Int) - 1) (x:=0) (y := .slice none 0 0) (z := .pointer none) (Ne.symm (c.iU i hi)) (by omega) (by rw [hck]; subst hr0; exact i2) k2 (by rw [gB (by unfold dH; omega)]) rfl rfl (fun h=>by unfold dH at h; omega) (fun h=>by unfold dH at h; omega)
   obtain ⟨sc2,b2⟩:=sc1.lv m hi q1 (eP k2)
   rw [e2] at sc2
   refine hK _ _ (i+1) ?_ ⟨sc2,b1.trans b2,by omega⟩ (by omega)
   exact bA
  ·rw [if_pos (by omega)]
   rw [if_neg hr0] at hck
   have hinc2:cH d w2:=sc1.g.inc.keep k2 fun b x h=>by rw [h.1]; exact c.oI i hi x
   obtain ⟨⟨vv1,s1,s1s,s1b⟩,⟨vv2,s2,s2s,s2b⟩,_,_⟩:=c.sp i hi (r - 1) (by omega)
   have s1:=hinc2 _ _ _ s1
   have s2:=hinc2 _ _ _ s2
   obtain ⟨a1,n1,cc1,rfl⟩:=cR s1s
   obtain ⟨a2,n2,cc2,rfl⟩:=cR s2s
   simp (disch:=first | exact dZ | fail) only [go_sem,ku,Option.isNone_some,s2]
   refine lV (f:=0) c1 hc0 (s2b.inc hinc2) (hkb w2 k2) ?_
   by_cases hle:Ls[i]!.L[r - 1]!.e≤key
   ·have hle':cz Ls[i]!.L[r - 1]!.e key≤0:=fM.2 hle
    rw [if_pos hle] at hck
    have hnn:((cK Ls[i]!.L key:Int) - 1).toNat / 2=r - 1:=by omega
    refine me @hle' @s2 @d1 @d2 @d3 @fU ?_
    have q1:=l1.mk' (q:=(cK Ls[i]!.L key:Int) - 1) (x:=2) (y := .slice (some a2) n2 cc2) (z:=ku Ls[i]!.b Ls[i]!.o (r - 1)) (Ne.symm (c.iU i hi)) (by omega) (by rw [show ((cK Ls[i]!.L key:Int) - 1) / 2=(r:Int) - 1 by omega]; exact i2) k2 ((jZ ⟨by omega,by omega⟩ (by omega)).symm) rfl rfl (fun h=>⟨rfl,by unfold cn; rw [if_neg (by omega),hnn]; exact s2b⟩) (fun h=>by rw [hnn])
    obtain ⟨sc2,b2⟩:=sc1.lv m hi q1 (eP k2)
    rw [e2] at sc2
    refine hK _ _ (i+1) ?_ ⟨sc2,b1.trans b2,by omega⟩ (by omega)
    exact bA
   ·have hle':¬ cz Ls[i]!.L[r - 1]!.e key≤0:=fun h=>hle (fM.1 h)
    rw [if_neg hle] at hck
    have hnn:((cK Ls[i]!.L key:Int) - 1).toNat / 2=r - 1:=by omega
    refine me @hle' @s1 @d1 @d2 @d3 @fU ?_
    have q1:=l1.mk' (q:=(cK Ls[i]!.L key:Int) - 1) (x:=1) (y := .slice (some a1) n1 cc1) (z:=ku Ls[i]!.b Ls[i]!.o (r - 1)) (Ne.symm (c.iU i hi)) (by omega) (by rw [show ((cK Ls[i]!.L key:Int) - 1) / 2=(r:Int) - 1 by omega]; exact i2) k2 ((fK ⟨by omega,by omega⟩ (by omega)).symm) rfl rfl (fun h=>⟨rfl,by unfold cn; rw [if_pos (by omega),hnn]; exact s1b⟩) (fun h=>by rw [hnn])
    obtain ⟨sc2,b2⟩:=sc1.lv m hi q1 (eP k2)
    rw [e2] at sc2
    refine hK _ _ (i+1) ?_ ⟨sc2,b1.trans b2,by omega⟩ (by omega)
    exact bA
 ·have hi':¬ (i:Int) < Ls.size:=by omega
  obtain rfl:i=Ls.size:=by omega
  obtain ⟨pos1,hpos1⟩:∃ pos1,pos1=oY (fun x _=>(cK Ls[x]!.L key:Int) - 1) pos Ls.size:=⟨_,rfl⟩
  rw [← hpos1] at sc1
  have hpk':∀ i,i < Ls.size→pos1 i+1=cK (Lf Ls i) key:=fun i hi=>by
   rw [hpos1,fY _ _ hi]
   show (cK Ls[i]!.L key:Int) - 1+1=_
   have:(cK Ls[i]!.L key:Int) - 1+1=cK Ls[i]!.L key:=by omega
   exact this
  have hpk:∀ i,i < Ls.size→0 < (Lf Ls i).length→pos1 i+1=cK (Lf Ls i) key:=fun i hi _=>hpk' i hi
  have hcle:∀ i,cK (Lf Ls i) key≤2 * Ls[i]!.L.length:=fun i=>og (Lf Ls i) key
  have hpn:∀ i,i < Ls.size→oY (fun x=>jn Ls[x]!.L) pos1 Ls.size i=cK (Lf Ls i) key:=fun i hi=>by
   rw [fY _ _ hi]
   have a1:=hpk' i hi
   have a2:=hcle i
   show jn Ls[i]!.L (pos1 i)=_
   unfold jn
   rw [if_neg (by omega)]
   omega
  have hpn':∀ i,i < Ls.size→0 < (Lf Ls i).length→oY (fun x=>jn Ls[x]!.L) pos1 Ls.size i=cK (Lf Ls i) key:=fun i hi _=>hpn i hi
  have hcv:=eJ m.bds
  refine bP @hi' ?_
  refine iQ c sc1.g sc1.hw sc1.u.u11 fun w2 hp2 g2 h2 e2 k2 => ?_
  obtain ⟨st2,b2⟩:=sc1.turn m g2 h2 e2 k2
  have c1:=st2.g.bufs
  have c2:=st2.h.at_.c2
  have er:=st2.g.err
  by_cases h0:0 < hp2.size
  ·have h0':((hp2.size:Int) == 0)=false:=by rw [beq_eq_false_iff_ne]; omega
   have hr:=(st2.h.mem _).1 (ef h0)
   obtain ⟨r,hre⟩:∃ r,r=hp2[0]! := ⟨_,rfl⟩
   rw [← hre] at hr
   have lr:=st2.g.lv r hr.1
   have dk:=lr.kd
   obtain ⟨kv2,d2,kvc,y2⟩:=lr.ky
   obtain ⟨kvS,kvB⟩:=y2 hr.2
   obtain ⟨X,hX⟩:∃ X,X=cn Ls[r]!.L (pos1 r).toNat:=⟨_,rfl⟩
   rw [← hX] at kvB
   obtain ⟨kva2,kvn2,kvc2,rfl⟩:=cR kvS
   have p0:=st2.h.at_.ptr 0 h0
   rw [← hre] at p0
   obtain ⟨_,_,_,u3⟩:=st2.u.u3
   have fU:=st2.g.fU
   have z0:(0:Int).toNat=0:=rfl
   have z1:(0:Int)≤0:=by decide
   have hz2:(0:Int) < hp2.size:=by omega
   refine Fz @c1 @c2 @er @h0' @p0 @d2 @dk @z0 @z1 @hz2 @u3 @fU @Nat.zero_mul @Nat.add_zero ?_
   obtain ⟨st3,l3⟩:=st2.setU m (x:=o+1) (.inl rfl) (.slice (some kva2) kvn2 kvc2) ⟨_,_,_,rfl⟩
   obtain ⟨w3,hw3⟩:∃ w3,w3=w2.setCell ⟨U,o+1,none⟩ (.slice (some kva2) kvn2 kvc2):=⟨_,rfl⟩
   rw [← hw3] at st3 l3 ⊢
   have w33:w3.cell? ⟨U,o+1,none⟩=some (.slice (some kva2) kvn2 kvc2):=by rw [hw3]; exact bU @u3
   refine pN (fun _:Unit=>[(0,.pointer (some ⟨U,o,none⟩)),(1,.slice kva kn kc)]) (fun _ w'=>∃ S2 vb2 xb2 v,St d w' U o Bf Z Ls S2 pos1 true hp2 vk vb2 vs lk xb2∧Lt w2 w' U o Bf Z Ls S S2∧w'.cell? ⟨U,o+1,none⟩=some v∧nz v=true∧SB d vb2 xb2 v X) (by kernel_rfl) (by kernel_rfl) (fun K3 hK3 => ?_) ?_
   ·by_cases hkd:dK Ls[r]!.L (pos1 r)=2
    ·have e5:(dK Ls[r]!.L (pos1 r) == 2)=true:=by rw [hkd]; rfl
     have c1:=st3.g.bufs
     have b5:=st3.r.bh
     have fB:=st3.g.fB
     have fU:=st3.g.fU
     have hUs2:=aE c1
     have hBs2:=aE b5
     obtain ⟨ba,bcap,hbe,hbc,_⟩:=bF st3.r.bo
     subst hbe
     have zb:(0:Int)≤bcap:=by omega
     have kvB2:eO w3 (.slice (some kva2) kvn2 kvc2) X:=kvB.inc st3.g.inc
     refine bP @e5 ?_
     refine ao (sq [0,1,2] (.read 3 (sq [4,5,6] (.read 7 (sq [8,9] (.read 10 (sq [11,12,13,14] (.read 15 (.eff 16 [3] (sq [17,18] (.eff 19 [] .done))))))))))) ?_
     simp (disch:=first | exact dZ | fail) only [go_sem,c1,b5,w33,rE Tryz.es107,z0,zb]
     have hBm:X ∈ B:=(m.bds.mem X).2 ⟨r,hr.1,(pos1 r).toNat,by have:=hr.2; unfold dH at this; show (pos1 r).toNat < 2 * Ls[r]!.L.length; omega,hX.symm⟩
     have hbl:=m.blen _ hBm
     simp only [oQ]
     refine mf (m:=X.length) (news:=gA X) rw107 (dh st3.r.bo).drew (by rw [bG,Nat.mul_one]) (eY (by exact kvB2)) (eZ _) (by omega) fun v5 w5 o5 k5 n5 s5 => ?_
     obtain ⟨a5,cap5,e5',_,_⟩:=bF o5
     subst e5'
     have k5:Keep (fun b _=>(Value.slice ba xb.length bcap).ownBlock=some b) w3 w5:=(Keep.refl _ w3).drew.trans (k5 _ fun b o hb _=>by rw [bY ba xb.length 0]; exact hb)
     have n25:cJ w3 (.slice ba xb.length bcap) (.slice a5 (0+X.length) cap5):=fun g' hg'=>by
      rcases n5 with h | ⟨g2,h,h',_⟩
      ·exact .inl (by rw [← hg',h]; exact bY _ _ _ _)
      ·rw [h] at hg'
       simp only [aJ] at hg'
       subst hg'
       exact .inr h'
     rw [List.nil_append,Nat.zero_add,← bG] at o5
     rw [Nat.zero_add,← bG] at n25 s5
     have hnb:∀ g',(Value.slice ba xb.length bcap).ownBlock=some g'→g'≠U∧g'≠Bf:=fun g' hg'=>⟨(st3.r.sp _ (st3.r.bS _ hg')).1,(st3.r.sp _ (st3.r.bS _ hg')).2.1⟩
     obtain ⟨st6,l6⟩:=st3.buf m o5 k5 n25
     have c1:=k5.some c1 fun h=>(hnb _ h).1 rfl
     have b5:=k5.some b5 fun h=>(hnb _ h).2 rfl
     have w53:=k5.some w33 fun h=>(hnb _ h).1 rfl
     have fB:∀ x,w5.frozen? ⟨Bf,x,none⟩=false:=fun x=>by rw [k5.frozen Bf x hBs2]; exact fB x
     have fU:∀ x,w5.frozen? ⟨U,x,none⟩=false:=fun x=>by rw [k5.frozen U x hUs2]; exact fU x
     rw [Nat.zero_add,← bG]
     refine gW @c1 @b5 @w53 @fB @fU ?_
     obtain ⟨st7,l7⟩:=st6.setU m (x:=o+1) (.inl rfl) (.slice a5 (gA X).length cap5) ⟨_,_,_,rfl⟩
     have hne:X≠[]:=by
      intro h0
      have hl:=(m.mc.wf r hr.1).1 ((pos1 r).toNat / 2) (by have:=hr.2; unfold dH at this; omega)
      have:cn Ls[r]!.L (pos1 r).toNat=[]:=by rw [← h0]; exact hX.symm
      have hodd:¬ (pos1 r).toNat % 2=0:=fun he=>by
       rw [fK hr.2 (by have:=hr.2; unfold dH at this; omega)] at hkd
       omega
      unfold cn at this
      rw [if_neg hodd] at this
      rw [this] at hl
      simp at hl
     refine hK3 _ _ () ?_ ⟨_,_,gA X,_,st7,(l3.trans l6).trans l7,?_,j0 (s5 (by rw [bG]; exact List.length_pos_iff.2 hne)),.inr ⟨rfl,rfl⟩⟩
     ·exact bA
     ·exact bU @w53
    ·have e5:(dK Ls[r]!.L (pos1 r) == 2)=false:=by rw [beq_eq_false_iff_ne]; exact hkd
     refine bP @e5 ?_
     refine hK3 _ _ () ?_ ⟨S,vb,xb,_,st3,l3,w33,rfl,.inl kvB⟩
     exact bA
   ·rintro e3 _ w4 ⟨S4,vb4,xb4,v4,st4,l4,q4,hs4,sb4⟩
    obtain ⟨v4a,v4n,v4c,rfl⟩:=cR hs4
    have b4:Bef w w4 U o Bf Z Ls S S4:=(b1.trans b2).trans l4.bef
    refine aY ?_
    refine fb c st4.g st4.sc.hw st4.u.u11 fun w5 hp5 g5 h5 e5 k5 => ?_
    obtain ⟨st5,b5⟩:=st4.sc.turn m g5 h5 e5 k5
    have q5:=k5.some q4 (by
     rintro (h | ⟨_,h⟩)
     ·exact lx c (by omega) h
     ·omega)
    have b05:=b4.trans b5
    have c1:=st5.g.bufs
    have c2:=st5.h.at_.c2
    have er:=st5.g.err
    by_cases h6:0 < hp5.size
    ·have h6':((hp5.size:Int) == 0)=false:=by rw [beq_eq_false_iff_ne]; omega
     have hz6:(0:Int) < hp5.size:=by omega
     obtain ⟨pos2,hpos2⟩:∃ pos2,pos2=oY (fun x=>jn Ls[x]!.L) pos1 Ls.size:=⟨_,rfl⟩
     rw [← hpos2] at st5 hpn hpn'
     have hr5:=(st5.h.mem _).1 (ef h6)
     obtain ⟨r5,hre5⟩:∃ r5,r5=hp5[0]! := ⟨_,rfl⟩
     rw [← hre5] at hr5
     have hmin5:∀ x,x < Ls.size→dH (Lf Ls x) (pos2 x)→¬ cn (Lf Ls x) (pos2 x).toNat < cn (Lf Ls r5) (pos2 r5).toNat:=fun x hx hv=>by rw [hre5]; exact st5.h.root_min hx hv
     have lr5:=st5.g.lv r5 hr5.1
     have dk5:=lr5.kd
     obtain ⟨kv5,d5,_,y5⟩:=lr5.ky
     obtain ⟨kvS5,kvB5⟩:=y5 hr5.2
     obtain ⟨kva5,kvn5,kvc5,rfl⟩:=cR kvS5
     have p5:=st5.h.at_.ptr 0 h6
     rw [← hre5] at p5
     obtain ⟨_,_,_,u4⟩:=st5.u.u4
     have fU:=st5.g.fU
     have hkey5:=nG hkey hkv b05
     have tail:cn (Lf Ls r5) (pos2 r5).toNat≠key →
         xw Ls.size (Lf Ls) B (uE B key) pos2∧uE B key < B.length∧0 < uE B key∧cn Ls[r5]!.L (pos2 r5).toNat=B[uE B key]! ∧ X=B[uE B key - 1]! := by
      intro hne
      have hall:=wg m.bds hpn' hr5.1 hr5.2 hmin5 hne
      have af:=Az m.bds hpn' hall
      obtain ⟨q1,q2⟩:=(af.near m.bds (lE _ _)).root m.bds hr5.1 hr5.2 hmin5
      have ab:ui Ls.size (Lf Ls) B (uE B key) pos1:=fun i hi hl=>by rw [hpk i hi hl,← af i hi hl,hpn i hi]
      obtain ⟨q3,q4⟩:=(ab.near m.bds (lE _ _)).root m.bds hr.1 hr.2 fun x hx hv=>by rw [hre]; exact st2.h.root_max hx hv
      exact ⟨af,q1,q3,q2,by rw [hX]; exact q4⟩
     by_cases hkd5:dK Ls[r5]!.L (pos2 r5)=1
     ·have e7:(dK Ls[r5]!.L (pos2 r5) == 1)=true:=by rw [hkd5]; rfl
      refine yl @c1 @c2 @er @h6' @p5 @d5 @dk5 @e7 @z0 @z1 @hz6 @Nat.zero_mul @Nat.add_zero ?_
      refine lV (f:=0) (x:=cn Ls[r5]!.L (pos2 r5).toNat) (y:=key) c1 st5.h.at_.c0 (kvB5.inc st5.g.inc) hkey5 ?_
      by_cases heq:cn Ls[r5]!.L (pos2 r5).toNat=key
      ·have e8:(cz (cn Ls[r5]!.L (pos2 r5).toNat) key == 0)=true:=by rw [beq_iff_eq]; exact dx.2 heq
       refine bP @e8 ?_
       obtain ⟨t,ht,hut,nf⟩:=Ay m.bds hpn' hr5.1 hr5.2 heq
       refine eA m st5 nf (y7 (q:=(cV (GL Z.F Ls.size (Lf Ls) B) key:Nat)) m b05 e5 (fun u hu htu hno => ?_) (fun hno => ?_) (fun w6 S6 r1 r2 r3 => ?_))
       ·have h:=gm (F:=Z.F) m.bds (key:=key) hu (by omega) fun v hv hle=>hno v hv (by omega)
        exact ⟨h.1,by omega,by omega⟩
       ·rw [ji (F:=Z.F) m.bds (key:=key) fun v hv hle=>hno v hv (by omega)]
       ·refine aY ?_
        exact hk w6 S6 r1 r2 r3
      ·have e8:(cz (cn Ls[r5]!.L (pos2 r5).toNat) key == 0)=false:=by rw [beq_eq_false_iff_ne]; exact fun h=>heq (dx.1 h)
       refine Fy @e8 @c1 @c2 @p5 @d5 @u4 @fU @z0 @z1 @hz6 @Nat.zero_mul @Nat.add_zero ?_
       obtain ⟨af,hum,hu0,hE,hXE⟩:=tail heq
       obtain ⟨st6,l6⟩:=st5.setU m (x:=o+2) (.inr rfl) (.slice (some kva5) kvn5 kvc5) ⟨_,_,_,rfl⟩
       obtain ⟨w6,hw6⟩:∃ w6,w6=w5.setCell ⟨U,o+2,none⟩ (.slice (some kva5) kvn5 kvc5):=⟨_,rfl⟩
       rw [← hw6] at st6 l6 ⊢
       have q63:w6.cell? ⟨U,o+1,none⟩=some (.slice (some v4a) v4n v4c):=by rw [hw6]; exact bU @q5
       have q64:w6.cell? ⟨U,o+2,none⟩=some (.slice (some kva5) kvn5 kvc5):=by rw [hw6]; exact bU @u4
       have q6d:w6.cell? ⟨U,o+9,none⟩=some (.int .i8 1):=by rw [hw6]; exact bU @e5
       refine mJ (u:=uE B key) m st6.g st6.u st6.h.at_.c0 af st6.r.k st6.r.x (fun g hg=>by obtain ⟨a1,a2,a3,a4,_⟩:=st6.r.sp _ (st6.r.kS g hg); exact ⟨a1,a2,a3,a4⟩) (fun g hg=>by obtain ⟨a1,a2,a3,a4,_⟩:=st6.r.sp _ (st6.r.sS g hg); exact ⟨a1,a2,a3,a4,st6.r.ks g hg⟩) q63 q64 fun w7 vk7 vs7 lk7 kv7 p6 p7 p8 p9 ok oT ox xl nk ns dj k7 => ?_
       obtain ⟨st7,l7⟩:=st6.syn m ok ox xl nk ns dj k7 ⟨_,p6⟩ ⟨_,p7⟩ ⟨_,p8⟩ ⟨_,p9⟩
       have n7:∀ x,o≤x→x≤o+3∨x=o+9→¬ xz U o Bf Z vk vs U x:=by
        rintro x h0 hx (⟨_,h1,h2⟩ | ⟨h,_⟩ | h | h | h)
        ·omega
        ·exact m.mc.ne h.symm
        ·have:=m.tU h; omega
        ·exact (st6.r.sp _ (st6.r.kS _ h)).1 rfl
        ·exact (st6.r.sp _ (st6.r.sS _ h)).1 rfl
       have q73:=k7.some q63 (n7 _ (by omega) (by omega))
       have q74:=k7.some q64 (n7 _ (by omega) (by omega))
       have q7d:=k7.some q6d (n7 _ (by omega) (by omega))
       have b07:=(b05.trans l6.bef).trans l7.bef
       by_cases hcov:lC Ls.size (Lf Ls) B (uE B key)=true
       ·rw [hcov]
        refine aY ?_
        have hin:uE B key ∈ bn Ls.size (Lf Ls) B:=cX.2 ⟨by omega,hcov⟩
        have h:=gm (F:=Z.F) m.bds (key:=key) hin (aD _) fun v hv hle=>by omega
        have:=b07.ret (B:=B) (d:=d) (q:=(cV (GL Z.F Ls.size (Lf Ls) B) key:Nat)) hk ⟨uE B key,_,_,_,_,_,_,st7.sc,by omega,h.1,fun _ _=>⟨⟨_,p6,by rw [hXE] at sb4; exact st7.r.lb sb4⟩,⟨_,p7,by rw [hE] at kvB5; exact .inl kvB5⟩,⟨_,p8,oT.mono fun b hb => .inr hb⟩,p9⟩,.inl ⟨q7d,⟨_,st7.h⟩,af,.inr ⟨⟨_,q73,rfl⟩,⟨_,q74,rfl⟩⟩⟩⟩
        rwa [dm (by omega) (by rw [bp]; omega)] at this
       ·have hcov:lC Ls.size (Lf Ls) B (uE B key)=false:=by simpa using hcov
        rw [hcov]
        refine aY ?_
        have hnot:∀ v ∈ bn Ls.size (Lf Ls) B,uE B key≤v→uE B key < v:=fun v hv hle=>by
         rcases bO hle with h | h
         ·exact h
         ·subst h
          have:=(cX.1 hv).2
          rw [hcov] at this
          simp at this
        refine eA m st7 (af.near m.bds (lE _ _)) (y7 (q:=(cV (GL Z.F Ls.size (Lf Ls) B) key:Nat)) m b07 q7d (fun u hu htu hno => ?_) (fun hno => ?_) (fun w8 S8 r1 r2 r3 => ?_))
        ·have h:=gm (F:=Z.F) m.bds (key:=key) hu (by omega) fun v hv hle=>hno v hv (hnot v hv hle)
         exact ⟨h.1,by omega,by omega⟩
        ·rw [ji (F:=Z.F) m.bds (key:=key) fun v hv hle=>hno v hv (hnot v hv hle)]
        ·refine aY ?_
         exact hk w8 S8 r1 r2 r3
     ·have e7:(dK Ls[r5]!.L (pos2 r5) == 1)=false:=by rw [beq_eq_false_iff_ne]; exact hkd5
      have hne5:cn (Lf Ls r5) (pos2 r5).toNat≠key:=wj m.bds hpn' hr5.1 hr5.2 fun he=>hkd5 (fK hr5.2 he)
      refine F0 @c1 @c2 @er @h6' @p5 @d5 @dk5 @e7 @z0 @z1 @hz6 @u4 @fU @Nat.zero_mul @Nat.add_zero ?_
      obtain ⟨af,hum,hu0,hE,hXE⟩:=tail hne5
      obtain ⟨st6,l6⟩:=st5.setU m (x:=o+2) (.inr rfl) (.slice (some kva5) kvn5 kvc5) ⟨_,_,_,rfl⟩
      obtain ⟨w6,hw6⟩:∃ w6,w6=w5.setCell ⟨U,o+2,none⟩ (.slice (some kva5) kvn5 kvc5):=⟨_,rfl⟩
      rw [← hw6] at st6 l6 ⊢
      have q63:w6.cell? ⟨U,o+1,none⟩=some (.slice (some v4a) v4n v4c):=by rw [hw6]; exact bU @q5
      have q64:w6.cell? ⟨U,o+2,none⟩=some (.slice (some kva5) kvn5 kvc5):=by rw [hw6]; exact bU @u4
      have q6d:w6.cell? ⟨U,o+9,none⟩=some (.int .i8 1):=by rw [hw6]; exact bU @e5
      refine mJ (u:=uE B key) m st6.g st6.u st6.h.at_.c0 af st6.r.k st6.r.x (fun g hg=>by obtain ⟨a1,a2,a3,a4,_⟩:=st6.r.sp _ (st6.r.kS g hg); exact ⟨a1,a2,a3,a4⟩) (fun g hg=>by obtain ⟨a1,a2,a3,a4,_⟩:=st6.r.sp _ (st6.r.sS g hg); exact ⟨a1,a2,a3,a4,st6.r.ks g hg⟩) q63 q64 fun w7 vk7 vs7 lk7 kv7 p6 p7 p8 p9 ok oT ox xl nk ns dj k7 => ?_
      obtain ⟨st7,l7⟩:=st6.syn m ok ox xl nk ns dj k7 ⟨_,p6⟩ ⟨_,p7⟩ ⟨_,p8⟩ ⟨_,p9⟩
      have n7:∀ x,o≤x→x≤o+3∨x=o+9→¬ xz U o Bf Z vk vs U x:=by
       rintro x h0 hx (⟨_,h1,h2⟩ | ⟨h,_⟩ | h | h | h)
       ·omega
       ·exact m.mc.ne h.symm
       ·have:=m.tU h; omega
       ·exact (st6.r.sp _ (st6.r.kS _ h)).1 rfl
       ·exact (st6.r.sp _ (st6.r.sS _ h)).1 rfl
      have q73:=k7.some q63 (n7 _ (by omega) (by omega))
      have q74:=k7.some q64 (n7 _ (by omega) (by omega))
      have q7d:=k7.some q6d (n7 _ (by omega) (by omega))
      have b07:=(b05.trans l6.bef).trans l7.bef
      by_cases hcov:lC Ls.size (Lf Ls) B (uE B key)=true
      ·rw [hcov]
       refine aY ?_
       have hin:uE B key ∈ bn Ls.size (Lf Ls) B:=cX.2 ⟨by omega,hcov⟩
       have h:=gm (F:=Z.F) m.bds (key:=key) hin (aD _) fun v hv hle=>by omega
       have:=b07.ret (B:=B) (d:=d) (q:=(cV (GL Z.F Ls.size (Lf Ls) B) key:Nat)) hk ⟨uE B key,_,_,_,_,_,_,st7.sc,by omega,h.1,fun _ _=>⟨⟨_,p6,by rw [hXE] at sb4; exact st7.r.lb sb4⟩,⟨_,p7,by rw [hE] at kvB5; exact .inl kvB5⟩,⟨_,p8,oT.mono fun b hb => .inr hb⟩,p9⟩,.inl ⟨q7d,⟨_,st7.h⟩,af,.inr ⟨⟨_,q73,rfl⟩,⟨_,q74,rfl⟩⟩⟩⟩
       rwa [dm (by omega) (by rw [bp]; omega)] at this
      ·have hcov:lC Ls.size (Lf Ls) B (uE B key)=false:=by simpa using hcov
       rw [hcov]
       refine aY ?_
       have hnot:∀ v ∈ bn Ls.size (Lf Ls) B,uE B key≤v→uE B key < v:=fun v hv hle=>by
        rcases bO hle with h | h
        ·exact h
        ·subst h
         have:=(cX.1 hv).2
         rw [hcov] at this
         simp at this
       refine eA m st7 (af.near m.bds (lE _ _)) (y7 (q:=(cV (GL Z.F Ls.size (Lf Ls) B) key:Nat)) m b07 q7d (fun u hu htu hno => ?_) (fun hno => ?_) (fun w8 S8 r1 r2 r3 => ?_))
       ·have h:=gm (F:=Z.F) m.bds (key:=key) hu (by omega) fun v hv hle=>hno v hv (hnot v hv hle)
        exact ⟨h.1,by omega,by omega⟩
       ·rw [ji (F:=Z.F) m.bds (key:=key) fun v hv hle=>hno v hv (hnot v hv hle)]
       ·refine aY ?_
        exact hk w8 S8 r1 r2 r3
    ·have h6':((hp5.size:Int) == 0)=true:=by rw [beq_iff_eq]; omega
     refine eI @c1 @c2 @er @h6' ?_
     have hz:∀ i,i < Ls.size→cK (Lf Ls i) key=2 * (Lf Ls i).length:=fun i hi=>by
      have a1:=st5.h.empty h6 hi
      rw [hpn i hi] at a1
      have a3:=hcle i
      have a4:(Lf Ls i).length=Ls[i]!.L.length:=rfl
      unfold dH at a1
      omega
     obtain ⟨hu1,_⟩:=sC m.bds hz
     have hq:cV (GL Z.F Ls.size (Lf Ls) B) key=(bn Ls.size (Lf Ls) B).length:=ji (F:=Z.F) m.bds (key:=key) fun v hv h=>by have:=(hcv v hv).2; omega
     have:=b05.ret (B:=B) (d:=d) (q:=(cV (GL Z.F Ls.size (Lf Ls) B) key:Nat)) hk ⟨B.length,_,_,_,_,_,_,st5.sc,aD _,.inr (.inl ⟨by rw [hq],rfl⟩),fun _ h=>by omega,.inl ⟨e5,⟨_,st5.h⟩,fun i hi hl=>by rw [hpn i hi,hz i hi,qJ m.bds hi],.inl rfl⟩⟩
     rwa [dp (by rw [bp]; omega)] at this
  ·have h0':((hp2.size:Int) == 0)=true:=by rw [beq_iff_eq]; omega
   refine eI @c1 @c2 @er @h0' ?_
   have hz:∀ i,i < Ls.size→cK (Lf Ls i) key=0:=fun i hi=>by
    have a1:=st2.h.empty h0 hi
    have a2:=hpk' i hi
    have a3:=hcle i
    unfold dH at a1
    omega
   obtain ⟨hu1,_⟩:=sB m.bds hz
   refine fb c st2.g st2.sc.hw st2.u.u11 fun w3 hp3 g3 h3 e3 k3 => ?_
   obtain ⟨st3,b3⟩:=st2.sc.turn m g3 h3 e3 k3
   refine aY ?_
   refine eA m st3 (xw.near m.bds (t:=0) (fun i hi hl=>by rw [hpn i hi,hz i hi]; rfl) (aM _)) (y7 (q:=(cV (GL Z.F Ls.size (Lf Ls) B) key:Nat)) m ((b1.trans b2).trans b3) e3 (fun u hu htu hno => ?_) (fun hno => ?_) (fun w4 S4 r1 r2 r3 => ?_))
   ·have h:=gm (F:=Z.F) m.bds (key:=key) hu (by omega) fun v hv _=>hno v hv (hcv v hv).1
    exact ⟨h.1,by omega,by omega⟩
   ·rw [ji (F:=Z.F) m.bds (key:=key) fun v hv _=>hno v hv (hcv v hv).1]
   ·refine aY ?_
    exact hk w4 S4 r1 r2 r3
end
end Go.Proofs
end
