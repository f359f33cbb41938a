/- Parts of the proof: Pc, Pu, Pt, Fi, Pg, Pk. -/
import Derived.Test.YtjcbeinpkafjiaaGreatR08
set_option linter.all false
set_option maxRecDepth 10000
section
namespace Go.E
open Go Go.Sort Go.Proofs
theorem gw (a b:Bytes):a < b∨a=b∨b < a:=by
 by_cases h:a < b
 ·exact .inl h
 ·by_cases h2:a=b
  ·exact .inr (.inl h2)
  ·exact .inr (.inr (by grind))
def an (t:Nat):Nat:=t % 256
def fu (snap t:Nat):Bool:=decide (t / 256 < snap) || ((t / 256 &&& 36028797018963968) != 0)
section
variable (snap:Nat)
def fw:List KR→List KR
 | []=>[]
 | x :: l=>if fu snap x.k.tr then (if an x.k.tr=19 then [] else x :: fw l) else fw l
def fy:List KR→Option KR
 | []=>none
 | x :: l=>if fu snap x.k.tr then (if an x.k.tr=19 then some x else fy l) else fy l
end
def nz:Option Bytes→List KR→List KR
 | _,[]=>[]
 | p,x :: l=>if p=some x.k.suf then nz p l else x :: nz (some x.k.suf) l
def DK (l:List KR):Prop:=l.Pairwise fun x y=>y.k.tr≤x.k.tr∧(x.k.suf=y.k.suf→y.k.tr < x.k.tr)
theorem kB {snap:Nat} {l:List KR}:(fw snap l).Sublist l:=by
 induction l with
 | nil=>exact List.Sublist.refl _
 | cons x l ih =>
  unfold fw
  split
  ·split
   ·exact List.nil_sublist _
   ·exact ih.cons_cons x
  ·exact ih.cons x
theorem DY {snap:Nat} {l:List KR} {x:KR} (h:fy snap l=some x):x ∈ l:=by
 induction l with
 | nil=>simp [fy] at h
 | cons y l ih =>
  unfold fy at h
  split at h
  ·split at h
   ·simp only [aK] at h
    subst h; exact aR
   ·exact aj _ (ih h)
  ·exact aj _ (ih h)
theorem il {snap:Nat} {l:List KR} (h:DK l) (x:KR):x ∈ fw snap l↔x ∈ l∧fu snap x.k.tr=true∧an x.k.tr≠19∧∀ y ∈ l,fu snap y.k.tr=true→an y.k.tr=19→y.k.tr < x.k.tr:=by
 induction l with
 | nil=>simp [fw]
 | cons z l ih =>
  have hz:=fun {y:KR}=>bF (a':=y) h
  have ih:=ih h.of_cons
  unfold fw
  split
  ·rename_i hv
   split
   ·rename_i h19
    simp only [List.not_mem_nil,false_iff]
    rintro ⟨hx,hxv,hx9,hall⟩
    have:=hall z aR hv h19
    rcases ak.1 hx with rfl | hx
    ·omega
    ·have:=(hz hx).1
     omega
   ·rename_i h19
    rw [ak,ih]
    constructor
    ·rintro (rfl | ⟨h1,h2,h3,h4⟩)
     ·refine ⟨aR,hv,h19,fun y hy hyv hy9 => ?_⟩
      rcases ak.1 hy with rfl | hy
      ·exact absurd hy9 h19
      ·have:=(hz hy).1
       rcases cj this with hlt | heq
       ·exact hlt
       ·rw [heq] at hy9; exact absurd hy9 h19
     ·refine ⟨aj _ h1,h2,h3,fun y hy hyv hy9 => ?_⟩
      rcases ak.1 hy with rfl | hy
      ·exact absurd hy9 h19
      ·exact h4 y hy hyv hy9
    ·rintro ⟨h1,h2,h3,h4⟩
     rcases ak.1 h1 with rfl | h1
     ·exact .inl rfl
     ·exact .inr ⟨h1,h2,h3,fun y hy=>h4 y (aj _ hy)⟩
  ·rename_i hv
   rw [ih]
   constructor
   ·rintro ⟨h1,h2,h3,h4⟩
    refine ⟨aj _ h1,h2,h3,fun y hy hyv hy9 => ?_⟩
    rcases ak.1 hy with rfl | hy
    ·exact absurd hyv hv
    ·exact h4 y hy hyv hy9
   ·rintro ⟨h1,h2,h3,h4⟩
    rcases ak.1 h1 with rfl | h1
    ·exact absurd h2 hv
    ·exact ⟨h1,h2,h3,fun y hy=>h4 y (aj _ hy)⟩
def SS (l:List KR):Prop:=l.Pairwise fun x y=>¬ y.k.suf < x.k.suf∧(x.k.suf=y.k.suf→y.k.tr < x.k.tr)
theorem eE {a b:Bytes} (h1:¬ a < b) (h2:¬ b < a):a=b:=by
 rcases gw a b with h | h | h
 ·exact absurd h h1
 ·exact h
 ·exact absurd h h2
theorem cJ {a b c:Bytes} (h1:a < b) (h2:¬ c < b):a < c:=by
 by_cases h:c=b
 ·subst h; exact h1
 ·have:b < c:=by
    rcases gw b c with h3 | h3 | h3
    ·exact h3
    ·exact absurd h3.symm h
    ·exact absurd h3 h2
  exact List.lt_trans h1 this
theorem ct {a b c:Bytes} (h1:¬ b < a) (h2:b < c):a < c:=by
 by_cases h:a=b
 ·subst h; exact h2
 ·have:a < b:=by
    rcases gw a b with h3 | h3 | h3
    ·exact h3
    ·exact absurd h3 h
    ·exact absurd h3 h1
  exact List.lt_trans this h2
theorem DZ {l:List KR} (h:SS l) (p:Option Bytes) (hp:∀ q,p=some q→∀ x ∈ l,¬ x.k.suf < q) :
    (nz p l).Pairwise (fun x y=>x.k.suf < y.k.suf)∧(∀ q,p=some q→∀ x ∈ nz p l,q < x.k.suf) ∧
    ∀ x,x ∈ nz p l↔x ∈ l∧p≠some x.k.suf∧∀ y ∈ l,y.k.suf=x.k.suf→y.k.tr≤x.k.tr:=by
 induction l generalizing p with
 | nil=>simp [nz]
 | cons z l ih =>
  have hz:=fun {y:KR}=>bF (a':=y) h
  unfold nz
  split
  ·rename_i he
   obtain ⟨i1,i2,i3⟩:=ih h.of_cons p (fun q hq x hx=>hp q hq x (aj _ hx))
   refine ⟨i1,i2,fun x => ?_⟩
   rw [i3]
   constructor
   ·rintro ⟨h1,h2,h3⟩
    refine ⟨aj _ h1,h2,fun y hy hys => ?_⟩
    rcases ak.1 hy with rfl | hy
    ·rw [he,hys] at h2; exact absurd rfl h2
    ·exact h3 y hy hys
   ·rintro ⟨h1,h2,h3⟩
    rcases ak.1 h1 with rfl | h1
    ·exact absurd he h2
    ·exact ⟨h1,h2,fun y hy=>h3 y (aj _ hy)⟩
  ·rename_i he
   obtain ⟨i1,i2,i3⟩:=ih h.of_cons (some z.k.suf) (fun q hq x hx=>by cases hq; exact (hz hx).1)
   refine ⟨List.pairwise_cons.2 ⟨fun x hx=>i2 _ rfl x hx,i1⟩,fun q hq x hx => ?_,fun x => ?_⟩
   ·have hzq:=hp q hq z aR
    have hlt:q < z.k.suf:=by
     rcases gw q z.k.suf with h3 | h3 | h3
     ·exact h3
     ·rw [hq,h3] at he; exact absurd rfl he
     ·exact absurd h3 hzq
    rcases ak.1 hx with rfl | hx
    ·exact hlt
    ·exact List.lt_trans hlt (i2 _ rfl x hx)
   ·rw [ak,i3]
    constructor
    ·rintro (rfl | ⟨h1,h2,h3⟩)
     ·refine ⟨aR,he,fun y hy hys => ?_⟩
      rcases ak.1 hy with rfl | hy
      ·exact aD _
      ·exact dh ((hz hy).2 hys.symm)
     ·refine ⟨aj _ h1,?_,fun y hy hys => ?_⟩
      ·intro hpe
       have hne:z.k.suf≠x.k.suf:=fun e=>h2 (by rw [e])
       have a1:=hp _ hpe z aR
       have a2:=(hz h1).1
       exact hne (eE a1 a2)
      ·rcases ak.1 hy with rfl | hy
       ·exact absurd (by rw [hys]) h2
       ·exact h3 y hy hys
    ·rintro ⟨h1,h2,h3⟩
     rcases ak.1 h1 with rfl | h1
     ·exact .inl rfl
     ·refine .inr ⟨h1,fun e => ?_,fun y hy=>h3 y (aj _ hy)⟩
      have e':z.k.suf=x.k.suf:=by simpa using e
      have:=h3 z aR e'
      have:=(hz h1).2 e'
      omega
structure CoR (snap:Nat) (l r:List KR):Prop where
 sorted:r.Pairwise fun x y=>x.k.suf < y.k.suf
 mem:∀ x,x ∈ r↔x ∈ fw snap l∧∀ y ∈ fw snap l,y.k.suf=x.k.suf→y.k.tr≤x.k.tr
theorem CoR.sub {snap:Nat} {l r:List KR} (h:CoR snap l r) {x:KR} (hx:x ∈ r):x ∈ l:=kB.subset ((h.mem x).1 hx).1
theorem Da {snap:Nat} {l:List KR} {a b:Array KR} (ha:a.toList=fw snap l) (h:Mg rM (fun x=>18446744073709551616 - x.k.tr) 0 a.size a b) (hgood:∀ x ∈ l,x.k.tr < 18446744073709551616):CoR snap l (nz none b.toList):=by
 obtain ⟨h1,h2,h3⟩:=h
 have pm:=dp h1 (aD _)
 have hz:b.size=a.size:=h1.1
 have hs:SS b.toList:=by
  unfold SS
  rw [bA]
  intro i j hi hj hij
  simp only [Array.length_toList] at hi hj
  have e1:b.toList[i]=b[i]! := by rw [aG b i hi]; simp
  have e2:b.toList[j]=b[j]! := by rw [aG b j hj]; simp
  rw [e1,e2]
  have s:=h2 i j (aQ _) hij (by omega)
  have s1:¬ b[j]!.k.suf < b[i]!.k.suf:=by simpa [rM] using s
  refine ⟨s1,fun he => ?_⟩
  have o:=h3 i j hij (by omega) (by unfold rM; simp [he]) (by unfold rM; simp [he])
  have g1:b[i]! ∈ l:=kB.subset (ha ▸ pm.mem_iff.1 (by rw [← e1]; exact aS _))
  have:=hgood _ g1
  simp only at o
  omega
 obtain ⟨i1,_,i3⟩:=DZ hs none (fun q h=>by cases h)
 refine ⟨i1,fun x => ?_⟩
 rw [i3,← ha]
 simp only [pm.mem_iff,ne_eq,reduceCtorEq,not_false_eq_true,true_and]
theorem Db {snap:Nat} {l:List KR} {a:Array KR} (ha:a.toList=fw snap l) (h:DK l) (hgood:∀ x ∈ l,x.k.tr < 18446744073709551616):kA rM (fun x=>18446744073709551616 - x.k.tr) a:=by
 intro i j hij hj h1 h2
 have hp:DK a.toList:=by rw [ha]; exact List.Pairwise.sublist kB h
 unfold DK at hp
 rw [bA] at hp
 have:=hp i j (by simp; omega) (by simpa using hj) hij
 have e1:a.toList[i]'(by simp; omega)=a[i]! := by rw [aG a i (by omega)]; simp
 have e2:a.toList[j]'(by simpa using hj)=a[j]! := by rw [aG a j hj]; simp
 rw [e1,e2] at this
 have g0:a[i]! ∈ a.toList:=by rw [← e1]; exact aS _
 have g1:a[i]! ∈ l:=kB.subset (ha ▸ g0)
 have hg:=hgood _ g1
 have he:a[i]!.k.suf=a[j]!.k.suf:=eE (by simpa [rM] using h1) (by simpa [rM] using h2)
 have:=this.2 he
 simp only
 omega
end Go.E
end
section
namespace Go.E
open Go Go.Sort Go.Proofs
def qa:(Nat→Bool)→Nat→Nat
 | _,0=>0
 | P,N+1=>if P 0 then qa (fun i=>P (i+1)) N+1 else 0
theorem kg (P:Nat→Bool) (N:Nat):qa P N≤N:=by
 induction N generalizing P with
 | zero=>exact aD _
 | succ N ih =>
  unfold qa
  split
  ·have:=ih (fun i=>P (i+1)); omega
  ·omega
theorem nq {P:Nat→Bool} {N:Nat} (hd:∀ p q,p≤q→q < N→P q=true→P p=true) {p:Nat} (hp:p < N):p < qa P N↔P p=true:=by
 induction N generalizing P p with
 | zero=>omega
 | succ N ih =>
  unfold qa
  by_cases h0:P 0=true
  ·rw [if_pos h0]
   cases p with
   | zero=>simp [h0]
   | succ p =>
    rw [← ih (P:=fun i=>P (i+1)) (fun a b h1 h2 h3=>hd (a+1) (b+1) (by omega) (by omega) h3) (by omega)]
    omega
  ·rw [if_neg h0]
   constructor
   ·omega
   ·intro h; exact absurd (hd 0 p (aQ _) hp h) h0
theorem gT {a b:Bytes} (h:a < b):¬ b < a:=fun h2=>bU a (List.lt_trans h h2)
theorem kC {L:List Sp} (h:Wf L) {p q:Nat} (hpq:p≤q) (hq:q < 2 * L.length):¬ eg L q < eg L p:=by
 have hj:q / 2 < L.length:=by omega
 unfold eg
 rcases aH (p / 2) (q / 2) with h1 | h1
 ·have a1:=h.2 _ _ h1 hj
  have a2:=h.1 (p / 2) (by omega)
  have a3:=h.1 (q / 2) hj
  split <;> split <;> grind
 ·have e:p / 2=q / 2:=by omega
  have a3:=h.1 (q / 2) hj
  rw [e]
  by_cases hp2:p % 2=0
  ·rw [if_pos hp2]
   split
   ·exact bU _
   ·exact gT a3
  ·rw [if_neg hp2,if_neg (by omega)]
   exact bU _
def cL (L:List Sp) (x:Bytes):Nat:=qa (fun p=>decide (eg L p < x)) (2 * L.length)
def cE (L:List Sp) (x:Bytes):Nat:=qa (fun p=>decide (¬ x < eg L p)) (2 * L.length)
theorem AY {L:List Sp} (h:Wf L) {x:Bytes} {p:Nat} (hp:p < 2 * L.length):p < cL L x↔eg L p < x:=by
 unfold cL
 rw [nq (fun a b h1 h2 h3 => ?_) hp,decide_eq_true_eq]
 rw [decide_eq_true_eq] at h3 ⊢
 exact ct (kC h h1 h2) h3
theorem xk {L:List Sp} (h:Wf L) {x:Bytes} {p:Nat} (hp:p < 2 * L.length):p < cE L x↔¬ x < eg L p:=by
 unfold cE
 rw [nq (fun a b h1 h2 h3 => ?_) hp,decide_eq_true_eq]
 rw [decide_eq_true_eq] at h3 ⊢
 intro h4
 exact h3 (cJ h4 (kC h h1 h2))
theorem Dc (L:List Sp) (x:Bytes):cL L x≤2 * L.length:=kg _ _
theorem Dd (L:List Sp) (x:Bytes):cE L x≤2 * L.length:=kg _ _
theorem mY {a b N:Nat} (ha:a≤N) (hb:b≤N) (h:∀ p,p < N→(p < a↔p < b)):a=b:=by
 rcases cz a b with h1 | h1 | h1
 ·have:=h a (by omega); omega
 ·exact h1
 ·have:=h b (by omega); omega
structure Bds (n:Nat) (L:Nat→List Sp) (B:List Bytes):Prop where
 wf:∀ i,i < n→Wf (L i)
 sorted:B.Pairwise (· < ·)
 mem:∀ x,x ∈ B↔∃ i,i < n∧∃ p,p < 2 * (L i).length∧eg (L i) p=x
section
variable {n:Nat} {L:Nat→List Sp} {B:List Bytes}
theorem Bds.lt (h:Bds n L B) {i j:Nat} (hi:i < B.length) (hj:j < B.length):B[i]! < B[j]! ↔ i < j:=by
 have hp:=bA.1 h.sorted
 rw [aG B i hi,aG B j hj]
 constructor
 ·intro h1
  rcases cz i j with h2 | h2 | h2
  ·exact h2
  ·subst h2; exact absurd h1 (bU _)
  ·exact absurd h1 (gT (hp j i hj hi h2))
 ·intro h1; exact hp i j hi hj h1
theorem Bds.at (h:Bds n L B) {i p:Nat} (hi:i < n) (hp:p < 2 * (L i).length):∃ j,j < B.length∧B[j]! = eg (L i) p:=by
 have:=(h.mem (eg (L i) p)).2 ⟨i,hi,p,hp,rfl⟩
 obtain ⟨j,hj,e⟩:=aV this
 exact ⟨j,hj,by rw [aG B j hj]; exact e⟩
def cp (L:Nat→List Sp) (B:List Bytes) (t i:Nat):Nat:=if t=0 then 0 else cE (L i) B[t - 1]!
theorem jS (t i:Nat):cp L B t i≤2 * (L i).length:=by
 unfold cp
 split
 ·omega
 ·exact Dd _ _
theorem gx (h:Bds n L B) {t i p:Nat} (ht:t≤B.length) (hi:i < n) (hp:p < 2 * (L i).length) {j:Nat} (hj:j < B.length) (e:B[j]! = eg (L i) p):p < cp L B t i↔j < t:=by
 unfold cp
 split
 ·omega
 ·rw [xk (h.wf i hi) hp,← e,h.lt (by omega) hj]
  omega
theorem Io (h:Bds n L B) {t i:Nat} (ht:t < B.length) (hi:i < n):cp L B t i=cL (L i) B[t]! := by
 refine mY (jS t i) (Dc _ _) fun p hp => ?_
 obtain ⟨j,hj,e⟩:=h.at hi hp
 rw [gx h (by omega) hi hp hj e,AY (h.wf i hi) hp,← e,h.lt hj ht]
theorem Di (h:Bds n L B) {i:Nat} (hi:i < n):cp L B B.length i=2 * (L i).length:=by
 refine mY (jS _ i) (aD _) fun p hp => ?_
 obtain ⟨j,hj,e⟩:=h.at hi hp
 rw [gx h (by omega) hi hp hj e]
 omega
theorem AZ (h:Bds n L B) {t t2 i:Nat} (ht:t≤t2) (ht2:t2≤B.length) (hi:i < n):cp L B t i≤cp L B t2 i:=by
 rcases aH (cp L B t2 i) (cp L B t i) with h1 | h1
 ·have hp:cp L B t2 i < 2 * (L i).length:=by have:=jS (L:=L) (B:=B) t i; omega
  obtain ⟨j,hj,e⟩:=h.at hi hp
  have a:=(gx h (by omega:t≤B.length) hi hp hj e).1 h1
  have b:=(gx h ht2 hi hp hj e).2 (by omega)
  omega
 ·exact h1
def Ew (n:Nat) (L:Nat→List Sp) (B:List Bytes) (t:Nat) (pos:Nat→Int):Prop:=∀ i,i < n→0 < (L i).length→(cp L B t i:Int)≤pos i∧pos i≤cp L B (min (t+1) B.length) i
structure NearF (n:Nat) (L:Nat→List Sp) (B:List Bytes) (t:Nat) (pos:Nat→Int):Prop where
 le:t≤B.length
 rg:Ew n L B t pos
 ex:t < B.length→∃ i,i < n∧ez (L i) (pos i)∧eg (L i) (pos i).toNat=B[t]!
def Ex (n:Nat) (L:Nat→List Sp) (B:List Bytes) (t:Nat) (pos:Nat→Int):Prop:=∀ i,i < n→0 < (L i).length→pos i=cp L B t i
theorem jF {L:List Sp} {p:Int} (h:ez L p):∃ q:Nat,p=q∧q < 2 * L.length∧0 < L.length:=by
 unfold ez at h
 exact ⟨p.toNat,by omega,by omega,by omega⟩
theorem Ew.ge (h:Bds n L B) {t i:Nat} {pos:Nat→Int} (g:Ew n L B t pos) (ht:t < B.length) (hi:i < n) (hv:ez (L i) (pos i)):¬ eg (L i) (pos i).toNat < B[t]! := by
 obtain ⟨q,e,hq,h0⟩:=jF hv
 have:=(g i hi h0).1
 rw [e,bm,← AY (h.wf i hi) hq,← Io h ht hi]
 omega
theorem NearF.root (h:Bds n L B) {t r:Nat} {pos:Nat→Int} (g:NearF n L B t pos) (hr:r < n) (hv:ez (L r) (pos r)) (hmin:∀ x,x < n→ez (L x) (pos x)→¬ eg (L x) (pos x).toNat < eg (L r) (pos r).toNat) :
    t < B.length∧eg (L r) (pos r).toNat=B[t]! := by
 have ht:t < B.length:=by
  rcases aH t B.length with h1 | h1
  ·exact h1
  ·exfalso
   obtain rfl:t=B.length:=by have:=g.le; omega
   obtain ⟨q,e,hq,h0⟩:=jF hv
   have:=(g.rg r hr h0).1
   rw [Di h hr] at this
   omega
 obtain ⟨i,hi,hvi,ei⟩:=g.ex ht
 have a:=hmin i hi hvi
 rw [ei] at a
 exact ⟨ht,eE (g.rg.ge h ht hr hv) a⟩
theorem NearF.none (h:Bds n L B) {t:Nat} {pos:Nat→Int} (g:NearF n L B t pos) (hn:∀ x,x < n→¬ ez (L x) (pos x)):t=B.length:=by
 rcases aH t B.length with h1 | h1
 ·obtain ⟨i,hi,hv,_⟩:=g.ex h1
  exact absurd hv (hn i hi)
 ·have:=g.le; omega
theorem Ew.step (h:Bds n L B) {t r:Nat} {pos:Nat→Int} (g:Ew n L B t pos) (ht:t < B.length) (hr:r < n) (hv:ez (L r) (pos r)) (e:eg (L r) (pos r).toNat=B[t]!):Ew n L B t (jb pos r (lx (L r) (pos r))):=by
 intro i hi h0
 unfold jb
 split
 ·rename_i hir
  subst hir
  obtain ⟨q,eq,hq,_⟩:=jF hv
  rw [eq,bm] at e
  have a:=(gx h (show t+1≤B.length by omega) hi hq ht e.symm).2 (by omega)
  have b:=(g i hi h0).1
  rw [eq] at b ⊢
  unfold lx
  rw [if_neg (by omega),show min (t+1) B.length=t+1 by omega]
  omega
 ·exact g i hi h0
theorem Ew.done (h:Bds n L B) {t:Nat} {pos:Nat→Int} (g:Ew n L B t pos) (ht:t < B.length) (hne:∀ x,x < n→ez (L x) (pos x)→eg (L x) (pos x).toNat≠B[t]!):Ex n L B (t+1) pos:=by
 intro i hi h0
 obtain ⟨g1,g2⟩:=g i hi h0
 rw [show min (t+1) B.length=t+1 by omega] at g2
 have a:=jS (L:=L) (B:=B) (t+1) i
 rcases Int.lt_or_le (pos i) (cp L B (t+1) i) with h1 | h1
 ·exfalso
  have hv:ez (L i) (pos i):=⟨by omega,by omega⟩
  obtain ⟨q,eq,hq,_⟩:=jF hv
  obtain ⟨j,hj,e⟩:=h.at hi hq
  have hne:=hne i hi hv
  rw [eq] at h1 g1 hne
  have b1:=(gx h (show t+1≤B.length by omega) hi hq hj e).1 (by omega)
  have b2:¬ j < t:=fun hjt=>by
   have:=(gx h (show t≤B.length by omega) hi hq hj e).2 hjt
   omega
  obtain rfl:j=t:=by omega
  rw [bm] at hne
  exact hne e.symm
 ·omega
theorem Ex.near (h:Bds n L B) {t:Nat} {pos:Nat→Int} (g:Ex n L B t pos) (ht:t≤B.length):NearF n L B t pos where
 le:=ht
 rg i hi h0:=by
  have:=AZ h (show t≤min (t+1) B.length by omega) (by omega) hi
  rw [g i hi h0]
  omega
 ex hlt:=by
  have hm:B[t]! ∈ B:=by rw [aG B t hlt]; exact aS _
  obtain ⟨i,hi,p,hp,e⟩:=(h.mem _).1 hm
  have h0:0 < (L i).length:=by omega
  have e1:=g i hi h0
  have a1:¬ p < cp L B t i:=by rw [gx h ht hi hp hlt e.symm]; omega
  have a2:cp L B t i < 2 * (L i).length:=by omega
  refine ⟨i,hi,⟨by omega,by omega⟩,?_⟩
  rw [e1,bm]
  obtain ⟨j,hj,ej⟩:=h.at hi a2
  have a3:=gx h ht hi a2 hj ej
  have a4:¬ j < t:=by omega
  have a5:=kC (h.wf i hi) (show cp L B t i≤p by omega) hp
  rw [e,← ej,h.lt hlt hj] at a5
  obtain rfl:j=t:=by omega
  exact ej.symm
def Ey (n:Nat) (L:Nat→List Sp) (B:List Bytes) (t:Nat) (pos:Nat→Int):Prop:=∀ i,i < n→0 < (L i).length→(cp L B (t - 1) i:Int)≤pos i+1∧pos i+1≤cp L B t i
structure NearB (n:Nat) (L:Nat→List Sp) (B:List Bytes) (t:Nat) (pos:Nat→Int):Prop where
 le:t≤B.length
 rg:Ey n L B t pos
 ex:0 < t→∃ i,i < n∧ez (L i) (pos i)∧eg (L i) (pos i).toNat=B[t - 1]!
def Cf (n:Nat) (L:Nat→List Sp) (B:List Bytes) (t:Nat) (pos:Nat→Int):Prop:=∀ i,i < n→0 < (L i).length→pos i+1=cp L B t i
theorem Ey.le (h:Bds n L B) {t i:Nat} {pos:Nat→Int} (g:Ey n L B t pos) (ht:t≤B.length) (h0:0 < t) (hi:i < n) (hv:ez (L i) (pos i)):¬ B[t - 1]! < eg (L i) (pos i).toNat:=by
 obtain ⟨q,e,hq,hl⟩:=jF hv
 have:=(g i hi hl).2
 obtain ⟨j,hj,ej⟩:=h.at hi hq
 have a:=(gx h ht hi hq hj ej).1 (by omega)
 rw [e,bm,← ej,h.lt (by omega) hj]
 omega
theorem NearB.root (h:Bds n L B) {t r:Nat} {pos:Nat→Int} (g:NearB n L B t pos) (hr:r < n) (hv:ez (L r) (pos r)) (hmax:∀ x,x < n→ez (L x) (pos x)→¬ eg (L r) (pos r).toNat < eg (L x) (pos x).toNat) :
    0 < t∧eg (L r) (pos r).toNat=B[t - 1]! := by
 have ht:0 < t:=by
  rcases bB t with rfl | h1
  ·exfalso
   obtain ⟨q,e,hq,h0⟩:=jF hv
   have:=(g.rg r hr h0).2
   unfold cp at this
   rw [if_pos rfl] at this
   omega
  ·exact h1
 obtain ⟨i,hi,hvi,ei⟩:=g.ex ht
 have a:=hmax i hi hvi
 rw [ei] at a
 exact ⟨ht,eE a (g.rg.le h g.le ht hr hv)⟩
theorem NearB.none (h:Bds n L B) {t:Nat} {pos:Nat→Int} (g:NearB n L B t pos) (hn:∀ x,x < n→¬ ez (L x) (pos x)):t=0:=by
 rcases bB t with h1 | h1
 ·exact h1
 ·obtain ⟨i,hi,hv,_⟩:=g.ex h1
  exact absurd hv (hn i hi)
theorem Ey.step (h:Bds n L B) {t r:Nat} {pos:Nat→Int} (g:Ey n L B t pos) (ht:t≤B.length) (h0:0 < t) (hr:r < n) (hv:ez (L r) (pos r)) (e:eg (L r) (pos r).toNat=B[t - 1]!):Ey n L B t (jb pos r (ly (pos r))):=by
 intro i hi hl
 unfold jb
 split
 ·rename_i hir
  subst hir
  obtain ⟨q,eq,hq,_⟩:=jF hv
  rw [eq,bm] at e
  have a:¬ q < cp L B (t - 1) i:=by rw [gx h (show t - 1≤B.length by omega) hi hq (show t - 1 < B.length by omega) e.symm]; omega
  have b:=(g i hi hl).2
  rw [eq] at b ⊢
  unfold ly
  rw [if_neg (by omega)]
  omega
 ·exact g i hi hl
theorem Ey.done (h:Bds n L B) {t:Nat} {pos:Nat→Int} (g:Ey n L B t pos) (ht:t≤B.length) (h0:0 < t) (hne:∀ x,x < n→ez (L x) (pos x)→eg (L x) (pos x).toNat≠B[t - 1]!):Cf n L B (t - 1) pos:=by
 intro i hi hl
 obtain ⟨g1,g2⟩:=g i hi hl
 have a:=jS (L:=L) (B:=B) t i
 rcases Int.lt_or_le (cp L B (t - 1) i) (pos i+1) with h1 | h1
 ·exfalso
  have hv:ez (L i) (pos i):=⟨by omega,by omega⟩
  obtain ⟨q,eq,hq,_⟩:=jF hv
  obtain ⟨j,hj,e⟩:=h.at hi hq
  have hne:=hne i hi hv
  rw [eq] at h1 g2 hne
  have b1:=(gx h ht hi hq hj e).1 (by omega)
  have b2:¬ j < t - 1:=fun hjt=>by
   have:=(gx h (show t - 1≤B.length by omega) hi hq hj e).2 hjt
   omega
  obtain rfl:j=t - 1:=by omega
  rw [bm] at hne
  exact hne e.symm
 ·omega
theorem Cf.near (h:Bds n L B) {t:Nat} {pos:Nat→Int} (g:Cf n L B t pos) (ht:t≤B.length):NearB n L B t pos where
 le:=ht
 rg i hi h0:=by
  have:=AZ h (show t - 1≤t by omega) ht hi
  rw [g i hi h0]
  omega
 ex h0:=by
  have hlt:t - 1 < B.length:=by omega
  have hm:B[t - 1]! ∈ B:=by rw [aG B _ hlt]; exact aS _
  obtain ⟨i,hi,p,hp,e⟩:=(h.mem _).1 hm
  have hl:0 < (L i).length:=by omega
  have e1:=g i hi hl
  have a1:p < cp L B t i:=by rw [gx h ht hi hp hlt e.symm]; omega
  have a2:=jS (L:=L) (B:=B) t i
  obtain ⟨q,eq⟩:∃ q:Nat,pos i=q:=⟨(pos i).toNat,by omega⟩
  rw [eq] at e1
  have hq:q < 2 * (L i).length:=by omega
  refine ⟨i,hi,⟨by omega,by omega⟩,?_⟩
  rw [eq,bm]
  obtain ⟨j,hj,ej⟩:=h.at hi hq
  have a3:=(gx h ht hi hq hj ej).1 (by omega)
  have a5:=kC (h.wf i hi) (show p≤q by omega) hq
  rw [e,← ej,h.lt hj hlt] at a5
  obtain rfl:j=t - 1:=by omega
  exact ej.symm
theorem Cf.none {pos:Nat→Int} (g:Cf n L B 0 pos) {x:Nat} (hx:x < n):¬ ez (L x) (pos x):=by
 intro hv
 obtain ⟨q,eq,hq,h0⟩:=jF hv
 have:=g x hx h0
 unfold cp at this
 rw [if_pos rfl] at this
 omega
end
end Go.E
end
section
namespace Go.E
open Go Go.Sort Go.Proofs
def zP (snap:Nat) (ks:List K) (x:K):Bool :=
 fu snap x.tr && decide (an x.tr=21) && ks.all fun y => !fu snap y.tr || (if an y.tr=19 then decide (y.tr < x.tr) else decide (y.suf=x.suf→y.tr≤x.tr))
def Cg (x y:K):Bool:=decide (¬ y.suf < x.suf)
def Tf (snap:Nat) (ks:List K):List K:=(ks.filter (zP snap ks)).mergeSort Cg
structure Cd (ks:List K):Prop where
 dist:ks.Pairwise fun x y=>x.suf=y.suf→x.tr≠y.tr
 kind:∀ x ∈ ks,an x.tr=19∨an x.tr=20∨an x.tr=21
theorem gA {snap:Nat} {ks:List K} {x:K}:zP snap ks x=true↔fu snap x.tr=true∧an x.tr=21∧∀ y ∈ ks,fu snap y.tr=true→(an y.tr=19→y.tr < x.tr)∧(an y.tr≠19→y.suf=x.suf→y.tr≤x.tr):=by
 unfold zP
 simp only [bN,decide_eq_true_eq,List.all_eq_true,Bool.or_eq_true,Bool.not_eq_true']
 constructor
 ·rintro ⟨⟨h1,h2⟩,h3⟩
  refine ⟨h1,h2,fun y hy hv => ?_⟩
  rcases h3 y hy with h | h
  ·rw [hv] at h; simp at h
  ·split at h
   ·rename_i h9
    exact ⟨fun _=>by simpa using h,fun h'=>absurd h9 h'⟩
   ·rename_i h9
    exact ⟨fun h'=>absurd h' h9,fun _=>of_decide_eq_true h⟩
 ·rintro ⟨h1,h2,h3⟩
  refine ⟨⟨h1,h2⟩,fun y hy => ?_⟩
  by_cases hv:fu snap y.tr=true
  ·right
   obtain ⟨a,b⟩:=h3 y hy hv
   split
   ·rename_i h9; simpa using a h9
   ·rename_i h9; exact aO (b h9)
  ·left; simpa using hv
theorem ki {a b:List K} (ha:a.Pairwise fun x y=>x.suf < y.suf) (hb:b.Pairwise fun x y=>x.suf < y.suf) (h:∀ x,x ∈ a↔x ∈ b):a=b:=by
 induction a generalizing b with
 | nil =>
  cases b with
  | nil=>rfl
  | cons y b=>exact absurd ((h y).2 aR) (by simp)
 | cons x a ih =>
  cases b with
  | nil=>exact absurd ((h x).1 aR) (by simp)
  | cons y b =>
   have ha':=fun {z}=>bF (a':=z) ha
   have hb':=fun {z}=>bF (a':=z) hb
   have hxy:x=y:=by
    rcases ak.1 ((h x).1 aR) with e | h1
    ·exact e
    ·rcases ak.1 ((h y).2 aR) with e | h2
     ·exact e.symm
     ·exact absurd (ha' h2) (gT (hb' h1))
   subst hxy
   congr 1
   refine ih ha.of_cons hb.of_cons fun z => ?_
   have:=h z
   rw [ak,ak] at this
   constructor
   ·intro hz
    rcases this.1 (.inr hz) with e | h1
    ·subst e; exact absurd (ha' hz) (bU _)
    ·exact h1
   ·intro hz
    rcases this.2 (.inr hz) with e | h1
    ·subst e; exact absurd (hb' hz) (bU _)
    ·exact h1
theorem jt {snap:Nat} {ks:List K} {x:K}:x ∈ Tf snap ks↔x ∈ ks∧zP snap ks x=true:=by
 unfold Tf
 rw [List.mem_mergeSort,aN]
theorem mZ {snap:Nat} {ks:List K} (h:Cd ks):(Tf snap ks).Pairwise fun x y=>x.suf < y.suf:=by
 have h1:(Tf snap ks).Pairwise fun x y=>Cg x y=true:=by
  unfold Tf
  refine List.pairwise_mergeSort (fun a b c h1 h2 => ?_) (fun a b => ?_) _
  ·simp only [Cg,decide_eq_true_eq] at h1 h2 ⊢
   intro h3
   exact h1 (ct h2 h3)
  ·simp only [Cg,Bool.or_eq_true,decide_eq_true_eq]
   by_cases hab:b.suf < a.suf
   ·exact .inr (gT hab)
   ·exact .inl hab
 have h2:(Tf snap ks).Pairwise fun x y=>x.suf=y.suf→x.tr≠y.tr:=by
  unfold Tf
  refine (List.Perm.pairwise_iff ?_ (List.mergeSort_perm _ _)).2 (List.Pairwise.sublist List.filter_sublist h.dist)
  intro x y hxy e e2
  exact hxy e.symm e2.symm
 have h3:=h1.and h2
 rw [bA] at h3 ⊢
 intro i j hi hj hij
 obtain ⟨a,b⟩:=h3 i j hi hj hij
 simp only [Cg,decide_eq_true_eq] at a
 rcases gw (Tf snap ks)[i].suf (Tf snap ks)[j].suf with c | c | c
 ·exact c
 ·exfalso
  have m1:=jt.1 (aS hi)
  have m2:=jt.1 (aS hj)
  obtain ⟨v1,k1,a1⟩:=gA.1 m1.2
  obtain ⟨v2,k2,a2⟩:=gA.1 m2.2
  have e1:=(a1 _ m2.1 v2).2 (by omega) c.symm
  have e2:=(a2 _ m1.1 v1).2 (by omega) c
  exact b c (by omega)
 ·exact absurd c a
theorem Ip {snap:Nat} {l r:List KR} {ks:List K} (hd:DK l) (hc:CoR snap l r) (hks:(l.map KR.k).Perm ks) (h:Cd ks):(r.filter fun x=>an x.k.tr == 21).map KR.k=Tf snap ks:=by
 refine ki ?_ (mZ h) fun x => ?_
 ·rw [List.pairwise_map]
  exact hc.sorted.filter _
 ·rw [jt,gA,bV]
  constructor
  ·rintro ⟨a,ha,rfl⟩
   rw [aN,hc.mem,il hd] at ha
   obtain ⟨⟨⟨p1,p2,p3,p4⟩,p5⟩,p6⟩:=ha
   have p6:an a.k.tr=21:=by simpa using p6
   refine ⟨hks.mem_iff.1 (List.mem_map_of_mem p1),p2,p6,fun y hy hv => ?_⟩
   obtain ⟨b,hb,rfl⟩:=bV.1 (hks.mem_iff.2 hy)
   refine ⟨p4 b hb hv,fun h9 hs => ?_⟩
   by_cases hbp:b ∈ fw snap l
   ·exact p5 b hbp hs
   ·rw [il hd] at hbp
    have:∃ z ∈ l,fu snap z.k.tr=true∧an z.k.tr=19∧¬ b.k.tr > z.k.tr:=by
     refine Classical.byContradiction fun hno=>hbp ⟨hb,hv,h9,fun z hz hzv hz9 => ?_⟩
     refine Classical.byContradiction fun hlt=>hno ⟨z,hz,hzv,hz9,hlt⟩
    obtain ⟨z,hz,hzv,hz9,hlt⟩:=this
    have:=p4 z hz hzv hz9
    omega
  ·rintro ⟨h1,h2,h3,h4⟩
   obtain ⟨a,ha,rfl⟩:=bV.1 (hks.mem_iff.2 h1)
   refine ⟨a,?_,rfl⟩
   rw [aN,hc.mem,il hd]
   refine ⟨⟨⟨ha,h2,by omega,fun y hy hv h9=>(h4 y.k (hks.mem_iff.1 (List.mem_map_of_mem hy)) hv).1 h9⟩,fun y hy hs => ?_⟩,by simpa using h3⟩
   obtain ⟨q1,q2,q3,_⟩:=(il hd y).1 hy
   exact (h4 y.k (hks.mem_iff.1 (List.mem_map_of_mem q1)) q2).2 q3 hs
section
variable (F:List K→List K) (n:Nat) (L:Nat→List Sp) (B:List Bytes)
def cM (u:Nat):List K:=(List.range n).flatMap fun i=>if cp L B u i % 2=1 then (L i)[cp L B u i / 2]!.ks else []
def py (u:Nat):Bool:=(List.range n).any fun i=>decide (cp L B u i % 2=1)
def cP:List Nat:=(List.range (B.length+1)).filter (py n L B)
def jh (u:Nat):Sp:=⟨B[u - 1]!,B[u]!,F (cM n L B u)⟩
def GL:List Sp:=(cP n L B).map (jh F n L B)
end
section
variable {n:Nat} {L:Nat→List Sp} {B:List Bytes}
theorem ma {u:Nat}:py n L B u=true↔∃ i,i < n∧cp L B u i % 2=1:=by
 unfold py
 simp only [List.any_eq_true,List.mem_range,decide_eq_true_eq]
theorem nt (h:Bds n L B) {u:Nat} (hu:u≤B.length) (hc:py n L B u=true):0 < u∧u < B.length:=by
 obtain ⟨i,hi,h1⟩:=ma.1 hc
 constructor
 ·rcases bB u with rfl | h2
  ·unfold cp at h1; rw [if_pos rfl] at h1; omega
  ·exact h2
 ·rcases aH u B.length with h2 | h2
  ·exact h2
  ·obtain rfl:u=B.length:=by omega
   rw [Di h hi] at h1
   omega
theorem eJ {u:Nat}:u ∈ cP n L B↔u≤B.length∧py n L B u=true:=by
 unfold cP
 rw [aN,List.mem_range,Nat.lt_succ_iff]
theorem fK:(cP n L B).Pairwise (· < ·):=by
 unfold cP
 exact List.Pairwise.filter _ List.pairwise_lt_range
end
def vi (S:List Nat) (m c:Nat) (p:Int):Prop:=(∃ j:Nat,p=j∧S[j]? = some c)∨(p=S.length∧c=m)∨(p = -1∧c=0)
section
variable {S:List Nat} {m c u:Nat} {p:Int}
theorem kE (hS:S.Pairwise (· < ·)) {i j a b:Nat} (hi:S[i]? = some a) (hj:S[j]? = some b):a < b↔i < j:=by
 obtain ⟨hi',rfl⟩:=aP.1 hi
 obtain ⟨hj',rfl⟩:=aP.1 hj
 have hp:=bA.1 hS
 constructor
 ·intro h1
  rcases cz i j with h2 | h2 | h2
  ·exact h2
  ·subst h2; omega
  ·have:=hp j i hj' hi' h2; omega
 ·exact hp i j hi' hj'
theorem vi.rg (h:vi S m c p) : -1≤p∧p≤S.length:=by
 rcases h with ⟨j,rfl,h⟩ | ⟨rfl,_⟩ | ⟨rfl,_⟩
 ·have:=(aP.1 h).1; omega
 ·omega
 ·omega
theorem vi.next (hS:S.Pairwise (· < ·)) (hb:∀ x ∈ S,0 < x∧x < m) (h:vi S m c p) (hu:u ∈ S) (hcu:c < u) (hno:∀ v ∈ S,c < v→¬ v < u):vi S m u (p+1)∧p+1 < S.length:=by
 obtain ⟨j,hj,e⟩:=aV hu
 have ej:S[j]? = some u:=by rw [aC hj,e]
 have key:p+1=j:=by
  rcases h with ⟨i,rfl,hi⟩ | ⟨rfl,rfl⟩ | ⟨rfl,rfl⟩
  ·have hij:=(kE hS hi ej).1 hcu
   rcases aH (i+1) j with h1 | h1
   ·exfalso
    have e1:S[i+1]? = some S[i+1]:=aC (by omega)
    exact hno _ (aS _) ((kE hS hi e1).2 (by omega)) ((kE hS e1 ej).2 h1)
   ·omega
  ·have:=(hb u hu).2; omega
  ·rcases bB j with rfl | h1
   ·omega
   ·exfalso
    have e1:S[0]? = some S[0]:=aC (by omega)
    exact hno _ (aS _) (hb _ (aS (by omega))).1 ((kE hS e1 ej).2 h1)
 exact ⟨.inl ⟨j,key,ej⟩,by omega⟩
theorem vi.next_none (hS:S.Pairwise (· < ·)) (hb:∀ x ∈ S,0 < x∧x < m) (h:vi S m c p) (hno:∀ v ∈ S,¬ c < v):(S.length:Int)≤p+1:=by
 rcases h with ⟨i,rfl,hi⟩ | ⟨rfl,rfl⟩ | ⟨rfl,rfl⟩
 ·rcases aH (i+1) S.length with h1 | h1
  ·exfalso
   have e1:S[i+1]? = some S[i+1]:=aC h1
   exact hno _ (aS _) ((kE hS hi e1).2 (by omega))
  ·omega
 ·omega
 ·rcases bB S.length with h1 | h1
  ·omega
  ·exact absurd (hb _ (aS h1)).1 (hno _ (aS h1))
theorem vi.prev (hS:S.Pairwise (· < ·)) (hb:∀ x ∈ S,0 < x∧x < m) (h:vi S m c p) (hu:u ∈ S) (hcu:u < c) (hno:∀ v ∈ S,v < c→¬ u < v):vi S m u (p - 1)∧0≤p - 1:=by
 obtain ⟨j,hj,e⟩:=aV hu
 have ej:S[j]? = some u:=by rw [aC hj,e]
 have key:p - 1=j:=by
  rcases h with ⟨i,rfl,hi⟩ | ⟨rfl,rfl⟩ | ⟨rfl,rfl⟩
  ·have hij:=(kE hS ej hi).1 hcu
   rcases aH (j+1) i with h1 | h1
   ·exfalso
    have hil:=(aP.1 hi).1
    have e1:S[j+1]? = some S[j+1]:=aC (by omega)
    exact hno _ (aS _) ((kE hS e1 hi).2 h1) ((kE hS ej e1).2 (by omega))
   ·omega
  ·rcases aH (j+1) S.length with h1 | h1
   ·exfalso
    have e1:S[j+1]? = some S[j+1]:=aC (by omega)
    exact hno _ (aS _) (hb _ (aS _)).2 ((kE hS ej e1).2 (by omega))
   ·omega
  ·omega
 exact ⟨.inl ⟨j,key,ej⟩,by omega⟩
theorem vi.prev_none (hS:S.Pairwise (· < ·)) (hb:∀ x ∈ S,0 < x∧x < m) (h:vi S m c p) (hno:∀ v ∈ S,¬ v < c):p - 1 ≤ -1:=by
 rcases h with ⟨i,rfl,hi⟩ | ⟨rfl,rfl⟩ | ⟨rfl,rfl⟩
 ·rcases bB i with h1 | h1
  ·omega
  ·exfalso
   have hil:=(aP.1 hi).1
   have e1:S[0]? = some S[0]:=aC (by omega)
   exact hno _ (aS _) ((kE hS e1 hi).2 h1)
 ·rcases bB S.length with h1 | h1
  ·omega
  ·exact absurd (hb _ (aS h1)).2 (hno _ (aS h1))
 ·omega
end
def gy (G:List Sp) (key:Bytes):Nat:=qa (fun j=>decide (¬ key < G[j]!.e)) G.length
def jT (G:List Sp) (key:Bytes):Int:=(qa (fun j=>decide (G[j]!.s < key)) G.length:Int) - 1
end Go.E
end
section
namespace Go.E
open Go Go.Sort Go.Proofs
def Iq (v:Value) (Q:Nat→Prop):Prop:=∀ a n c,v = .slice (some a) n c→Q a.block
theorem fV.keep {w w2:World} {v:Value} {l:Bytes} {M:Nat→Nat→Prop} (h:fV w v l) (hk:Keep M w w2) (hm:Iq v fun b=>b < w.heap.size→∀ o,¬ M b o):fV w2 v l:=by
 unfold fV at h ⊢
 split at h
 ·exact h
 ·rename_i a n c
  refine ⟨h.1,h.2.1,fun i x hx => ?_⟩
  have h3:=h.2.2 i x hx
  obtain ⟨b,o,s⟩:=a
  have hs:s=none:=h.1
  subst hs
  exact hk.some h3 (hm _ _ _ rfl (aE h3) _)
 ·exact h.elim
def dK (ord:Int) (w:World) (b o:Nat) (x:Sp):Prop :=
 (∃ v,w.cell? ⟨b,o,none⟩=some v∧fV w v x.s)∧(∃ v,w.cell? ⟨b,o+1,none⟩=some v∧fV w v x.e) ∧
 (∃ v,w.cell? ⟨b,o+2,none⟩=some v∧fI mh 3 w v x.ks)∧w.cell? ⟨b,o+3,none⟩=some (.int .i8 ord)
theorem dK.mono (ord:Int):DS (dK ord):=fun _ _ _ _ _ hi ⟨⟨v,h1,h3⟩,⟨u,h4,h6⟩,⟨t,h7,h8⟩,h9⟩ =>
 ⟨⟨v,hi _ _ _ h1,h3.inc hi⟩,⟨u,hi _ _ _ h4,h6.inc hi⟩,⟨t,hi _ _ _ h7,h8.inc mh.mono hi⟩,hi _ _ _ h9⟩
def iP (pb po:Nat) (G:List Sp) (p:Int):Value:=if 0≤p∧p < G.length then .pointer (some ⟨pb,po,none⟩) else .pointer none
theorem gf {pb po:Nat} {G:List Sp} {p:Int} (h:0≤p) (h2:p < G.length):iP pb po G p = .pointer (some ⟨pb,po,none⟩):=if_pos ⟨h,h2⟩
theorem fY {pb po:Nat} {G:List Sp} {p:Int} (h:¬ (0≤p∧p < G.length)):iP pb po G p = .pointer none:=if_neg h
def FK (recv:Value) (pb po:Nat) (G:List Sp) (T:Nat→Nat→Prop) (R:World→(Nat→Prop)→Int→Prop) (w:World) (S:Nat→Prop) (p:Int) (k:aq):Prop :=
 ∀ w' S',R w' S' p→(∀ b,S' b→S b∨w.heap.size≤b)→Keep (fun b x=>T b x∨S b) w w'→k (iP pb po G p) w'
end Go.E
end
section
namespace Go.E
open Go Go.Sort Go.Proofs
def K.sv (x:K):Bytes × Bytes:=(x.suf,x.val)
def fL {β:Type} (π:K→β) (G:List Sp) (j:Nat):Prop:=j+1 < G.length∧G[j]!.e=G[j+1]!.s∧G[j]!.ks≠[]∧G[j]!.ks.map π=G[j+1]!.ks.map π
section
variable {β:Type} [DecidableEq β] (π:K→β)
instance (G:List Sp) (j:Nat):Decidable (fL π G j):=inferInstanceAs (Decidable (_∧_))
def gJ (G:List Sp) (j:Nat):Bool:=decide (j=0∨¬ fL π G (j - 1))
def cr (G:List Sp):List Nat:=(List.range G.length).filter (gJ π G)
def iG (G:List Sp) (p:Nat):Nat:=if p+1 < (cr π G).length then (cr π G)[p+1]! else G.length
def Vw (G:List Sp):List Sp:=(List.range (cr π G).length).map fun p=>⟨G[(cr π G)[p]!]!.s,G[iG π G p - 1]!.e,G[(cr π G)[p]!]!.ks⟩
end
section
variable {β:Type} [DecidableEq β] {π:K→β} {G:List Sp}
theorem iQ:(cr π G).Pairwise (· < ·):=by
 unfold cr
 exact List.Pairwise.filter _ List.pairwise_lt_range
theorem vj {j:Nat}:j ∈ cr π G↔j < G.length∧(j=0∨¬ fL π G (j - 1)):=by
 unfold cr
 rw [aN,List.mem_range]
 unfold gJ
 rw [decide_eq_true_eq]
theorem ju {p:Nat} (hp:p < (cr π G).length):(cr π G)[p]? = some (cr π G)[p]! := by rw [aG (cr π G) p hp]; exact aC hp
theorem gF {p:Nat} (hp:p < (cr π G).length):(cr π G)[p]! < G.length∧((cr π G)[p]! = 0∨¬ fL π G ((cr π G)[p]! - 1)):=vj.1 (aJ (ju hp))
theorem jU (h:0 < G.length):0 < (cr π G).length∧(cr π G)[0]! = 0:=by
 have hm:0 ∈ cr π G:=vj.2 ⟨h,.inl rfl⟩
 obtain ⟨j,hj,e⟩:=aV hm
 have h0:0 < (cr π G).length:=by omega
 refine ⟨h0,?_⟩
 rcases bB j with rfl | hj0
 ·rw [aG (cr π G) 0 h0]; exact e
 ·have:=(kE iQ (ju h0) (by rw [aC hj,e])).2 hj0
  omega
theorem sH (h:G.length=0):(cr π G).length=0:=by
 rcases bB (cr π G).length with h1 | h1
 ·exact h1
 ·have:=(gF h1).1; omega
theorem eA {p:Nat} (hp:p < (cr π G).length):(cr π G)[p]! < iG π G p∧iG π G p≤G.length:=by
 unfold iG
 split
 ·rename_i h
  exact ⟨(kE iQ (ju hp) (ju h)).2 (by omega),dh (gF h).1⟩
 ·exact ⟨(gF hp).1,aD _⟩
theorem uP {p j:Nat} (hp:p < (cr π G).length) (h1:(cr π G)[p]! ≤ j) (h2:j+1 < iG π G p):fL π G j:=by
 refine Classical.byContradiction fun hn => ?_
 have hl:=(eA hp).2
 have hm:j+1 ∈ cr π G:=vj.2 ⟨by omega,.inr (by simpa using hn)⟩
 obtain ⟨q,hq,e⟩:=aV hm
 have e':(cr π G)[q]? = some (j+1):=by rw [aC hq,e]
 have a:=(kE iQ (ju hp) e').1 (by omega)
 unfold iG at h2
 split at h2
 ·rename_i hlt
  have:=(kE iQ e' (ju hlt)).1 h2
  omega
 ·omega
theorem Aa {p:Nat} (hp:p < (cr π G).length):¬ fL π G (iG π G p - 1):=by
 intro hj
 have hlt:=hj.1
 have hg:=eA hp
 unfold iG at hj hlt hg
 split at hj
 ·rename_i h
  rcases (gF h).2 with h0 | h0
  ·have:=(kE iQ (ju hp) (ju h)).2 (by omega)
   omega
  ·exact h0 hj
 ·rename_i h
  rw [if_neg h] at hlt hg
  omega
theorem Bg {p:Nat} (hp:p < (cr π G).length) (h0:0 < (cr π G)[p]!):¬ fL π G ((cr π G)[p]! - 1):=by
 rcases (gF hp).2 with h | h
 ·omega
 ·exact h
theorem gz {p:Nat} (h:p+1 < (cr π G).length):iG π G p=(cr π G)[p+1]! := if_pos h
theorem lz {p:Nat} (h:¬ p+1 < (cr π G).length):iG π G p=G.length:=if_neg h
theorem Gw {j:Nat} (hj:j < G.length):∃ p,p < (cr π G).length∧(cr π G)[p]! ≤ j∧j < iG π G p:=by
 induction j with
 | zero =>
  obtain ⟨h0,e⟩:=jU (π:=π) hj
  have:=eA h0
  exact ⟨0,h0,by omega,by omega⟩
 | succ j ih =>
  obtain ⟨p,hp,h1,h2⟩:=ih (by omega)
  rcases aH (j+1) (iG π G p) with h3 | h3
  ·exact ⟨p,hp,by omega,h3⟩
  ·have hlt:p+1 < (cr π G).length:=by
     refine Classical.byContradiction fun h => ?_
     rw [lz h] at h3
     omega
   have e:=gz hlt
   have:=eA hlt
   exact ⟨p+1,hlt,by omega,by omega⟩
theorem qA {p:Nat} (hp:p < (cr π G).length) (h:G[(cr π G)[p]!]!.ks=[]):iG π G p=(cr π G)[p]! + 1:=by
 have:=eA hp
 rcases aH ((cr π G)[p]! + 1) (iG π G p) with h1 | h1
 ·exact absurd h (uP hp (aD _) h1).2.2.1
 ·omega
theorem zQ {p j:Nat} (hp:p < (cr π G).length) (h1:(cr π G)[p]! ≤ j) (h2:j < iG π G p) (h:G[j]!.ks=[]):(cr π G)[p]! = j∧iG π G p=j+1:=by
 have hj:(cr π G)[p]! = j:=by
  rcases aH (cr π G)[p]! j with h3 | h3
  ·have:=uP hp (j:=j - 1) (by omega) (by omega)
   obtain ⟨_,_,a,b⟩:=this
   rw [show j - 1+1=j by omega,h] at b
   simp only [List.map_nil,List.map_eq_nil_iff] at b
   exact absurd b a
  ·omega
 have:=qA hp (by rw [hj]; exact h)
 omega
theorem l8 {p j:Nat} (hp:p < (cr π G).length) (h1:(cr π G)[p]! ≤ j) (h2:j < iG π G p):G[j]!.ks.map π=G[(cr π G)[p]!]!.ks.map π:=by
 obtain ⟨m,hm⟩:∃ m,j=(cr π G)[p]! + m:=⟨j - (cr π G)[p]!,by omega⟩
 induction m generalizing j with
 | zero=>rw [hm]; rfl
 | succ m ih =>
  have:=ih (j:=j - 1) (by omega) (by omega) (by omega)
  have q:=(uP hp (j:=j - 1) (by omega) (by omega)).2.2.2
  rw [show j - 1+1=j by omega] at q
  rw [← q,this]
theorem dt:(Vw π G).length=(cr π G).length:=by unfold Vw; simp
theorem kF {p:Nat} (hp:p < (cr π G).length):(Vw π G)[p]! = ⟨G[(cr π G)[p]!]!.s,G[iG π G p - 1]!.e,G[(cr π G)[p]!]!.ks⟩:=by
 rw [aG _ p (by rw [dt]; exact hp)]
 unfold Vw
 simp
end
structure DX where
 a:Nat
 e:Nat
 ord:Int
 β:Type
 dec:DecidableEq β
 π:K→β
 mt:TypeId
 mv:Value
instance (Y:DX):DecidableEq Y.β:=Y.dec
end Go.E
end
section
namespace Go.E
open Go Go.Sort Go.Proofs
theorem Dn {P:Nat→Bool} {N j:Nat} (hj:j≤N) (h1:∀ i,i < j→P i=true) (h2:j < N→P j=false):qa P N=j:=by
 induction N generalizing P j with
 | zero=>unfold qa; omega
 | succ N ih =>
  unfold qa
  cases j with
  | zero=>rw [if_neg (by rw [h2 (by omega)]; simp)]
  | succ j =>
   rw [if_pos (h1 0 (by omega)),ih (j:=j) (by omega) (fun i hi=>h1 (i+1) (by omega)) (fun h=>h2 (by omega))]
theorem vm {G:List Sp} {key:Bytes} {j:Nat} (hj:j≤G.length) (h1:∀ i,i < j→¬ key < G[i]!.e) (h2:j < G.length→key < G[j]!.e):gy G key=j :=
 Dn hj (fun i hi=>by simpa using h1 i hi) (fun h=>by simpa using h2 h)
theorem vq {G:List Sp} {key:Bytes} {j:Nat} (hj:j≤G.length) (h1:∀ i,i < j→G[i]!.s < key) (h2:j < G.length→¬ G[j]!.s < key):jT G key=(j:Int) - 1:=by
 unfold jT
 rw [Dn hj (fun i hi=>by simpa using h1 i hi) (fun h=>by simpa using h2 h)]
section
variable {n:Nat} {F:List K→List K} {L:Nat→List Sp} {B:List Bytes}
theorem cX:(GL F n L B).length=(cP n L B).length:=by unfold GL; simp
theorem ji {j u:Nat} (h:(cP n L B)[j]? = some u):(GL F n L B)[j]! = jh F n L B u:=by
 have hj:=(aP.1 h).1
 rw [aG _ j (by rw [cX]; exact hj)]
 unfold GL
 simp only [iV]
 congr 1
 exact (aP.1 h).2
theorem gB (hB:Bds n L B):∀ x ∈ cP n L B,0 < x∧x < B.length:=fun x hx=>nt hB (eJ.1 hx).1 (eJ.1 hx).2
theorem uR (hB:Bds n L B):Wf (GL F n L B):=by
 have e:∀ j,j < (cP n L B).length→(cP n L B)[j]? = some (cP n L B)[j]! := fun j hj=>by rw [aG _ j hj]; exact aC hj
 refine ⟨fun j hj => ?_,fun i j hij hj => ?_⟩
 ·rw [cX] at hj
  have hm:=gB hB _ (aJ (e j hj))
  rw [ji (e j hj)]
  exact (hB.lt (by omega) hm.2).2 (by omega)
 ·rw [cX] at hj
  have h1:=gB hB _ (aJ (e i (by omega)))
  have h2:=gB hB _ (aJ (e j hj))
  have h3:=(kE fK (e i (by omega)) (e j hj)).2 hij
  rw [ji (e i (by omega)),ji (e j hj)]
  simp only [jh]
  have:=hB.lt (i:=(cP n L B)[j]! - 1) (j:=(cP n L B)[i]!) (by omega) h1.2
  rw [← List.not_lt]
  rw [this]
  omega
def cK (L:List Sp) (key:Bytes):Nat:=qa (fun p=>if p % 2=0 then decide (eg L p < key) else decide (¬ key < eg L p)) (2 * L.length)
theorem qd {L:List Sp} (h:Wf L) {key:Bytes} {p:Nat} (hp:p < 2 * L.length):p < cK L key↔if p % 2=0 then eg L p < key else ¬ key < eg L p:=by
 unfold cK
 rw [nq (fun a b h1 h2 h3 => ?_) hp]
 ·split <;> simp
 ·have m:=kC h h1 h2
  by_cases ha:a % 2=0
  ·rw [if_pos ha,decide_eq_true_eq]
   by_cases hb:b % 2=0
   ·rw [if_pos hb,decide_eq_true_eq] at h3
    exact ct m h3
   ·rw [if_neg hb,decide_eq_true_eq] at h3
    have s:=h.1 (a / 2) (by omega)
    have m2:=kC h (p:=a+1) (q:=b) (by omega) h2
    have ea:eg L a=L[a / 2]!.s:=by unfold eg; rw [if_pos ha]
    have eb:eg L (a+1)=L[a / 2]!.e:=by unfold eg; rw [if_neg (by omega),show (a+1) / 2=a / 2 by omega]
    rw [ea]
    rw [eb] at m2
    have s1:L[a / 2]!.s < eg L b:=cJ s m2
    exact cJ s1 h3
  ·rw [if_neg ha,decide_eq_true_eq]
   by_cases hb:b % 2=0
   ·rw [if_pos hb,decide_eq_true_eq] at h3
    have:=ct m h3
    exact gT this
   ·rw [if_neg hb,decide_eq_true_eq] at h3
    intro h4
    exact h3 (cJ h4 m)
theorem Do (L:List Sp) (key:Bytes):cK L key≤2 * L.length:=kg _ _
theorem Ir {L:List Sp} (h:Wf L) (key:Bytes):cL L key≤cK L key:=by
 rcases aH (cK L key) (cL L key) with h1 | h1
 ·have hp:cK L key < 2 * L.length:=by have:=Dc L key; omega
  have a:=(AY h hp).1 h1
  have b:=(not_congr (qd h (key:=key) hp)).1 (by omega)
  split at b
  ·exact absurd a b
  ·exact absurd (gT a) b
 ·exact h1
theorem Is {L:List Sp} (h:Wf L) (key:Bytes):cK L key≤cE L key:=by
 rcases aH (cE L key) (cK L key) with h1 | h1
 ·have hp:cE L key < 2 * L.length:=by have:=Do L key; omega
  have a:=(qd h (key:=key) hp).1 h1
  have b:=(not_congr (xk h (x:=key) hp)).1 (by omega)
  split at a
  ·exact absurd (gT a) b
  ·exact absurd a b
 ·exact h1
theorem Kx {L:List Sp} (h:Wf L) {key:Bytes} {r:Nat} (hr:r≤L.length) (h1:∀ j,j < r→L[j]!.s < key) (h2:∀ j,r≤j→j < L.length→key≤L[j]!.s) :
    cK L key=if r=0 then 0 else if L[r - 1]!.e≤key then 2 * r else 2 * r - 1:=by
 have even:∀ j,eg L (2 * j)=L[j]!.s:=fun j=>by unfold eg; rw [if_pos (by omega),show 2 * j / 2=j by omega]
 have odd:∀ j,eg L (2 * j+1)=L[j]!.e:=fun j=>by unfold eg; rw [if_neg (by omega),show (2 * j+1) / 2=j by omega]
 have behind:r < L.length→¬ (2 * r < cK L key):=fun hlt=>by
  rw [qd h (by omega),if_pos (by omega),even]
  exact List.not_lt.2 (h2 r (aD _) hlt)
 have hcl:=Do L key
 split
 ·rename_i h0
  subst h0
  rcases bB L.length with h3 | h3
  ·omega
  ·have:=behind h3; omega
 ·have s1:2 * (r - 1) < cK L key:=by
    rw [qd h (by omega),if_pos (by omega),even]
    exact h1 _ (by omega)
  have s2:=qd h (key:=key) (p:=2 * (r - 1)+1) (by omega)
  rw [if_neg (by omega),odd] at s2
  have s3:cK L key≤2 * r:=by
   rcases aH r L.length with h4 | h4
   ·have:=behind h4; omega
   ·omega
  split
  ·rename_i h4
   have:=s2.2 (List.not_lt.2 h4)
   omega
  ·rename_i h4
   have:¬ (2 * (r - 1)+1 < cK L key):=fun h5=>h4 (List.not_lt.1 (s2.1 h5))
   omega
theorem Ky {L:List Sp} (h:Wf L) {key:Bytes} {r:Nat} (hr:r≤L.length) (h1:∀ j,j < r→L[j]!.e≤key) (h2:∀ j,r≤j→j < L.length→key < L[j]!.e) :
    cK L key=if r=L.length then 2 * L.length else if key≤L[r]!.s then 2 * r else 2 * r+1:=by
 have even:∀ j,eg L (2 * j)=L[j]!.s:=fun j=>by unfold eg; rw [if_pos (by omega),show 2 * j / 2=j by omega]
 have odd:∀ j,eg L (2 * j+1)=L[j]!.e:=fun j=>by unfold eg; rw [if_neg (by omega),show (2 * j+1) / 2=j by omega]
 have hcl:=Do L key
 have ahead:2 * r≤cK L key:=by
  rcases bB r with h3 | h3
  ·omega
  ·have:2 * (r - 1)+1 < cK L key:=by
     rw [qd h (by omega),if_neg (by omega),odd]
     exact List.not_lt.2 (h1 _ (by omega))
   omega
 split
 ·rename_i h0
  omega
 ·have s2:=qd h (key:=key) (p:=2 * r+1) (by omega)
  rw [if_neg (by omega),odd] at s2
  have s4:¬ (2 * r+1 < cK L key):=fun h5=>s2.1 h5 (h2 r (aD _) (by omega))
  have s1:=qd h (key:=key) (p:=2 * r) (by omega)
  rw [if_pos (by omega),even] at s1
  split
  ·rename_i h4
   have:¬ (2 * r < cK L key):=fun h5=>List.not_lt.2 h4 (s1.1 h5)
   omega
  ·rename_i h4
   have:=s1.2 (List.not_le.1 h4)
   omega
def uE (B:List Bytes) (key:Bytes):Nat:=qa (fun j=>decide (¬ key < B[j]!)) B.length
def uL (B:List Bytes) (key:Bytes):Nat:=qa (fun j=>decide (B[j]! < key)) B.length
theorem qf (hB:Bds n L B) {key:Bytes} {j:Nat} (hj:j < B.length):j < uE B key↔¬ key < B[j]! := by
 unfold uE
 rw [nq (fun a b h1 h2 h3 => ?_) hj,decide_eq_true_eq]
 rw [decide_eq_true_eq] at h3 ⊢
 intro h4
 rcases cj h1 with h5 | h5
 ·exact h3 (List.lt_trans h4 ((hB.lt (by omega) h2).2 h5))
 ·subst h5; exact h3 h4
theorem Ab (hB:Bds n L B) {key:Bytes} {j:Nat} (hj:j < B.length):j < uL B key↔B[j]! < key:=by
 unfold uL
 rw [nq (fun a b h1 h2 h3 => ?_) hj,decide_eq_true_eq]
 rw [decide_eq_true_eq] at h3 ⊢
 rcases cj h1 with h5 | h5
 ·exact List.lt_trans ((hB.lt (by omega) h2).2 h5) h3
 ·subst h5; exact h3
theorem Ac (B:List Bytes) (key:Bytes):uE B key≤B.length:=kg _ _
theorem It (B:List Bytes) (key:Bytes):uL B key≤B.length:=kg _ _
theorem Dp (hB:Bds n L B) {i:Nat} (hi:i < n) (key:Bytes):cp L B (uE B key) i=cE (L i) key:=by
 refine mY (jS _ i) (Dd _ _) fun p hp => ?_
 obtain ⟨j,hj,e⟩:=hB.at hi hp
 rw [gx hB (Ac _ _) hi hp hj e,xk (hB.wf i hi) hp,qf hB hj,e]
theorem Kz (hB:Bds n L B) {i:Nat} (hi:i < n) (key:Bytes):cp L B (uL B key) i=cL (L i) key:=by
 refine mY (jS _ i) (Dc _ _) fun p hp => ?_
 obtain ⟨j,hj,e⟩:=hB.at hi hp
 rw [gx hB (It _ _) hi hp hj e,AY (hB.wf i hi) hp,Ab hB hj,e]
theorem Gx (hB:Bds n L B) {key:Bytes} {u:Nat} (hu:u ∈ cP n L B) (h1:uE B key≤u) (h2:∀ v ∈ cP n L B,uE B key≤v→¬ v < u) :
    vi (cP n L B) B.length u (gy (GL F n L B) key:Nat)∧(gy (GL F n L B) key:Nat) < (cP n L B).length:=by
 obtain ⟨j,hj,e⟩:=aV hu
 have ej:(cP n L B)[j]? = some u:=by rw [aC hj,e]
 have hub:=gB hB u hu
 have hs:gy (GL F n L B) key=j:=by
  refine vm (by rw [cX]; omega) (fun i hi => ?_) (fun _ => ?_)
  ·have ei:(cP n L B)[i]? = some (cP n L B)[i]:=aC (by omega)
   rw [ji ei]
   have hm:=aJ ei
   have hlt:=(kE fK ei ej).2 hi
   show ¬ key < B[(cP n L B)[i]]!
   rw [← qf hB (gB hB _ hm).2]
   rcases aH (cP n L B)[i] (uE B key) with h3 | h3
   ·exact h3
   ·exact absurd hlt (h2 _ hm h3)
  ·rw [ji ej]
   have:=(not_congr (qf hB (key:=key) hub.2)).1 (by omega)
   exact Classical.not_not.1 this
 rw [hs]
 exact ⟨.inl ⟨j,rfl,ej⟩,hj⟩
theorem H2 (hB:Bds n L B) {key:Bytes} (h2:∀ v ∈ cP n L B,¬ uE B key≤v):gy (GL F n L B) key=(cP n L B).length:=by
 refine vm (by rw [cX]; omega) (fun i hi => ?_) (fun h=>by rw [cX] at h; omega)
 have ei:(cP n L B)[i]? = some (cP n L B)[i]:=aC (by omega)
 rw [ji ei]
 have hm:=aJ ei
 show ¬ key < B[(cP n L B)[i]]!
 rw [← qf hB (gB hB _ hm).2]
 have:=h2 _ hm
 omega
theorem Gy (hB:Bds n L B) {key:Bytes} {u:Nat} (hu:u ∈ cP n L B) (h1:u≤uL B key) (h2:∀ v ∈ cP n L B,v≤uL B key→¬ u < v) :
    vi (cP n L B) B.length u (jT (GL F n L B) key)∧0≤jT (GL F n L B) key:=by
 obtain ⟨j,hj,e⟩:=aV hu
 have ej:(cP n L B)[j]? = some u:=by rw [aC hj,e]
 have hs:jT (GL F n L B) key=(j+1:Nat) - 1:=by
  refine vq (by rw [cX]; omega) (fun i hi => ?_) (fun h => ?_)
  ·have ei:(cP n L B)[i]? = some (cP n L B)[i]:=aC (by omega)
   rw [ji ei]
   have hm:=gB hB _ (aJ ei)
   have hle:(cP n L B)[i]≤u:=by
    rcases cj (show i≤j by omega) with h3 | h3
    ·exact dh ((kE fK ei ej).2 h3)
    ·subst h3; rw [e]; exact aD _
   exact (Ab hB (j:=(cP n L B)[i] - 1) (by omega)).1 (by omega)
  ·rw [cX] at h
   have ei:(cP n L B)[j+1]? = some (cP n L B)[j+1]:=aC h
   rw [ji ei]
   have hm:=aJ ei
   have hb:=gB hB _ hm
   have hlt:=(kE fK ej ei).2 (by omega)
   refine (not_congr (Ab hB (j:=(cP n L B)[j+1] - 1) (by omega))).1 ?_
   have:=h2 _ hm
   omega
 rw [hs]
 exact ⟨.inl ⟨j,by omega,ej⟩,by omega⟩
theorem H3 (hB:Bds n L B) {key:Bytes} (h2:∀ v ∈ cP n L B,¬ v≤uL B key):jT (GL F n L B) key = -1:=by
 have hs:jT (GL F n L B) key=(0:Nat) - 1:=by
  refine vq (aQ _) (fun i hi=>by omega) (fun h => ?_)
  rw [cX] at h
  have ei:(cP n L B)[0]? = some (cP n L B)[0]:=aC h
  rw [ji ei]
  have hm:=aJ ei
  have hb:=gB hB _ hm
  refine (not_congr (Ab hB (j:=(cP n L B)[0] - 1) (by omega))).1 ?_
  have:=h2 _ hm
  omega
 rw [hs]; rfl
end
end Go.E
end
