/- Parts of the proof: Fi, Pg, Pk, Co. -/
import Derived.Test.YtlmoafgebiffaaaGreatDoorV08
set_option linter.all false
set_option maxRecDepth 10000
section
namespace Go.E
open Go Go.Sort Go.Proofs
def JW (v:Value) (Q:Nat→Prop):Prop:=∀ a n c,v = .slice (some a) n c→Q a.block
theorem dR.keep {w w2:World} {v:Value} {l:Bytes} {M:Nat→Nat→Prop} (h:dR w v l) (hk:Keep M w w2) (hm:JW v fun b=>b < w.heap.size→∀ o,¬ M b o):dR w2 v l:=by
 unfold dR at h ⊢
 split at h
 ·exact h
 ·rename_i a n c
  refine ⟨h.1,h.2.1,fun i x hx => ?_⟩
  have h3:=h.2.2 i x hx
  obtain ⟨b,o,s⟩:=a
  have hs:s=none:=h.1
  subst hs
  exact hk.some h3 (hm _ _ _ rfl (aC h3) _)
 ·exact h.elim
def fE (ord:Int) (w:World) (b o:Nat) (x:Sp):Prop :=
 (∃ v,w.cell? ⟨b,o,none⟩=some v∧dR w v x.s)∧(∃ v,w.cell? ⟨b,o+1,none⟩=some v∧dR w v x.e) ∧
 (∃ v,w.cell? ⟨b,o+2,none⟩=some v∧fD jt 3 w v x.ks)∧w.cell? ⟨b,o+3,none⟩=some (.int .i8 ord)
theorem fE.mono (ord:Int):DV (fE ord):=fun _ _ _ _ _ hi ⟨⟨v,h1,h3⟩,⟨u,h4,h6⟩,⟨t,h7,h8⟩,h9⟩ =>
 ⟨⟨v,hi _ _ _ h1,h3.inc hi⟩,⟨u,hi _ _ _ h4,h6.inc hi⟩,⟨t,hi _ _ _ h7,h8.inc jt.mono hi⟩,hi _ _ _ h9⟩
def l8 (pb po:Nat) (G:List Sp) (p:Int):Value:=if 0≤p∧p < G.length then .pointer (some ⟨pb,po,none⟩) else .pointer none
theorem mR {pb po:Nat} {G:List Sp} {p:Int} (h:0≤p) (h2:p < G.length):l8 pb po G p = .pointer (some ⟨pb,po,none⟩):=if_pos ⟨h,h2⟩
theorem jy {pb po:Nat} {G:List Sp} {p:Int} (h:¬ (0≤p∧p < G.length)):l8 pb po G p = .pointer none:=if_neg h
def FK (recv:Value) (pb po:Nat) (G:List Sp) (T:Nat→Nat→Prop) (R:World→(Nat→Prop)→Int→Prop) (w:World) (S:Nat→Prop) (p:Int) (k:aq):Prop :=
 ∀ w' S',R w' S' p→(∀ b,S' b→S b∨w.heap.size≤b)→Keep (fun b x=>T b x∨S b) w w'→k (l8 pb po G p) w'
end Go.E
end
section
namespace Go.E
open Go Go.Sort Go.Proofs
def K.sv (x:K):Bytes × Bytes:=(x.suf,x.val)
def iy {β:Type} (π:K→β) (G:List Sp) (j:Nat):Prop:=j+1 < G.length∧G[j]!.e=G[j+1]!.s∧G[j]!.ks≠[]∧G[j]!.ks.map π=G[j+1]!.ks.map π
section
variable {β:Type} [DecidableEq β] (π:K→β)
instance (G:List Sp) (j:Nat):Decidable (iy π G j):=inferInstanceAs (Decidable (_∧_))
def l9 (G:List Sp) (j:Nat):Bool:=decide (j=0∨¬ iy π G (j - 1))
def dJ (G:List Sp):List Nat:=(List.range G.length).filter (l9 π G)
def kO (G:List Sp) (p:Nat):Nat:=if p+1 < (dJ π G).length then (dJ π G)[p+1]! else G.length
def Vw (G:List Sp):List Sp:=(List.range (dJ π G).length).map fun p=>⟨G[(dJ π G)[p]!]!.s,G[kO π G p - 1]!.e,G[(dJ π G)[p]!]!.ks⟩
end
section
variable {β:Type} [DecidableEq β] {π:K→β} {G:List Sp}
theorem iK:(dJ π G).Pairwise (· < ·):=by
 unfold dJ
 exact List.Pairwise.filter _ List.pairwise_lt_range
theorem vU {j:Nat}:j ∈ dJ π G↔j < G.length∧(j=0∨¬ iy π G (j - 1)):=by
 unfold dJ
 rw [bH,List.mem_range]
 unfold l9
 rw [decide_eq_true_eq]
theorem jl {p:Nat} (hp:p < (dJ π G).length):(dJ π G)[p]? = some (dJ π G)[p]! := by rw [aI (dJ π G) p hp]; exact aD hp
theorem iS {p:Nat} (hp:p < (dJ π G).length):(dJ π G)[p]! < G.length∧((dJ π G)[p]! = 0∨¬ iy π G ((dJ π G)[p]! - 1)):=vU.1 (aO (jl hp))
theorem rl (h:0 < G.length):0 < (dJ π G).length∧(dJ π G)[0]! = 0:=by
 have hm:0 ∈ dJ π G:=vU.2 ⟨h,.inl rfl⟩
 obtain ⟨j,hj,e⟩:=bB hm
 have h0:0 < (dJ π G).length:=by omega
 refine ⟨h0,?_⟩
 rcases bt j with rfl | hj0
 ·rw [aI (dJ π G) 0 h0]; exact e
 ·have:=(mX iK (jl h0) (by rw [aD hj,e])).2 hj0
  omega
theorem xM (h:G.length=0):(dJ π G).length=0:=by
 rcases bt (dJ π G).length with h1 | h1
 ·exact h1
 ·have:=(iS h1).1; omega
theorem fw {p:Nat} (hp:p < (dJ π G).length):(dJ π G)[p]! < kO π G p∧kO π G p≤G.length:=by
 unfold kO
 split
 ·rename_i h
  exact ⟨(mX iK (jl hp) (jl h)).2 (by omega),gG (iS h).1⟩
 ·exact ⟨(iS hp).1,aF _⟩
theorem AP {p j:Nat} (hp:p < (dJ π G).length) (h1:(dJ π G)[p]! ≤ j) (h2:j+1 < kO π G p):iy π G j:=by
 refine Classical.byContradiction fun hn => ?_
 have hl:=(fw hp).2
 have hm:j+1 ∈ dJ π G:=vU.2 ⟨by omega,.inr (by simpa using hn)⟩
 obtain ⟨q,hq,e⟩:=bB hm
 have e':(dJ π G)[q]? = some (j+1):=by rw [aD hq,e]
 have a:=(mX iK (jl hp) e').1 (by omega)
 unfold kO at h2
 split at h2
 ·rename_i hlt
  have:=(mX iK e' (jl hlt)).1 h2
  omega
 ·omega
theorem AQ {p:Nat} (hp:p < (dJ π G).length):¬ iy π G (kO π G p - 1):=by
 intro hj
 have hlt:=hj.1
 have hg:=fw hp
 unfold kO at hj hlt hg
 split at hj
 ·rename_i h
  rcases (iS h).2 with h0 | h0
  ·have:=(mX iK (jl hp) (jl h)).2 (by omega)
   omega
  ·exact h0 hj
 ·rename_i h
  rw [if_neg h] at hlt hg
  omega
theorem jz {p:Nat} (h:p+1 < (dJ π G).length):kO π G p=(dJ π G)[p+1]! := if_pos h
theorem oV {p:Nat} (h:¬ p+1 < (dJ π G).length):kO π G p=G.length:=if_neg h
theorem Hf {j:Nat} (hj:j < G.length):∃ p,p < (dJ π G).length∧(dJ π G)[p]! ≤ j∧j < kO π G p:=by
 induction j with
 | zero =>
  obtain ⟨h0,e⟩:=rl (π:=π) hj
  have:=fw h0
  exact ⟨0,h0,by omega,by omega⟩
 | succ j ih =>
  obtain ⟨p,hp,h1,h2⟩:=ih (by omega)
  rcases aH (j+1) (kO π G p) with h3 | h3
  ·exact ⟨p,hp,by omega,h3⟩
  ·have hlt:p+1 < (dJ π G).length:=by
     refine Classical.byContradiction fun h => ?_
     rw [oV h] at h3
     omega
   have e:=jz hlt
   have:=fw hlt
   exact ⟨p+1,hlt,by omega,by omega⟩
theorem uK {p:Nat} (hp:p < (dJ π G).length) (h:G[(dJ π G)[p]!]!.ks=[]):kO π G p=(dJ π G)[p]! + 1:=by
 have:=fw hp
 rcases aH ((dJ π G)[p]! + 1) (kO π G p) with h1 | h1
 ·exact absurd h (AP hp (aF _) h1).2.2.1
 ·omega
theorem rp {p j:Nat} (hp:p < (dJ π G).length) (h1:(dJ π G)[p]! ≤ j) (h2:j < kO π G p):G[j]!.ks.map π=G[(dJ π G)[p]!]!.ks.map π:=by
 obtain ⟨m,hm⟩:∃ m,j=(dJ π G)[p]! + m:=⟨j - (dJ π G)[p]!,by omega⟩
 induction m generalizing j with
 | zero=>rw [hm]; rfl
 | succ m ih =>
  have:=ih (j:=j - 1) (by omega) (by omega) (by omega)
  have q:=(AP hp (j:=j - 1) (by omega) (by omega)).2.2.2
  rw [show j - 1+1=j by omega] at q
  rw [← q,this]
theorem fL:(Vw π G).length=(dJ π G).length:=by unfold Vw; simp
theorem mj {p:Nat} (hp:p < (dJ π G).length):(Vw π G)[p]! = ⟨G[(dJ π G)[p]!]!.s,G[kO π G p - 1]!.e,G[(dJ π G)[p]!]!.ks⟩:=by
 rw [aI _ p (by rw [fL]; exact hp)]
 unfold Vw
 simp
end
structure DX where
 a:Nat
 e:Nat
 ord:Int
 β:Type
 dec:DecidableEq β
 π:K→β
 mt:TypeId
 mv:Value
instance (Y:DX):DecidableEq Y.β:=Y.dec
end Go.E
end
section
namespace Go.E
open Go Go.Sort Go.Proofs
section
variable {n:Nat} {F:List K→List K} {L:Nat→List Sp} {B:List Bytes}
theorem dX:(GL F n L B).length=(eK n L B).length:=by unfold GL; simp
theorem rq {j u:Nat} (h:(eK n L B)[j]? = some u):(GL F n L B)[j]! = lz F n L B u:=by
 have hj:=(aQ.1 h).1
 rw [aI _ j (by rw [dX]; exact hj)]
 unfold GL
 simp only [iN]
 congr 1
 exact (aQ.1 h).2
theorem mA (hB:Bds n L B):∀ x ∈ eK n L B,0 < x∧x < B.length:=fun x hx=>rh hB (gO.1 hx).1 (gO.1 hx).2
theorem xN (hB:Bds n L B):Wf (GL F n L B):=by
 have e:∀ j,j < (eK n L B).length→(eK n L B)[j]? = some (eK n L B)[j]! := fun j hj=>by rw [aI _ j hj]; exact aD hj
 refine ⟨fun j hj => ?_,fun i j hij hj => ?_⟩
 ·rw [dX] at hj
  have hm:=mA hB _ (aO (e j hj))
  rw [rq (e j hj)]
  exact (hB.lt (by omega) hm.2).2 (by omega)
 ·rw [dX] at hj
  have h1:=mA hB _ (aO (e i (by omega)))
  have h2:=mA hB _ (aO (e j hj))
  have h3:=(mX ja (e i (by omega)) (e j hj)).2 hij
  rw [rq (e i (by omega)),rq (e j hj)]
  simp only [lz]
  have:=hB.lt (i:=(eK n L B)[j]! - 1) (j:=(eK n L B)[i]!) (by omega) h1.2
  rw [← List.not_lt]
  rw [this]
  omega
def uE (B:List Bytes) (key:Bytes):Nat:=uI (fun j=>decide (¬ key < B[j]!)) B.length
theorem xO (hB:Bds n L B) {key:Bytes} {j:Nat} (hj:j < B.length):j < uE B key↔¬ key < B[j]! := by
 unfold uE
 rw [re (fun a b h1 h2 h3 => ?_) hj,decide_eq_true_eq]
 rw [decide_eq_true_eq] at h3 ⊢
 intro h4
 rcases eE h1 with h5 | h5
 ·exact h3 (List.lt_trans h4 ((hB.lt (by omega) h2).2 h5))
 ·subst h5; exact h3 h4
theorem Do (B:List Bytes) (key:Bytes):uE B key≤B.length:=rb _ _
theorem Gj (hB:Bds n L B) {i:Nat} (hi:i < n) (key:Bytes):cp L B (uE B key) i=cE (L i) key:=by
 refine pU (jw _ i) (Dm _ _) fun p hp => ?_
 obtain ⟨j,hj,e⟩:=hB.at hi hp
 rw [iC hB (Do _ _) hi hp hj e,AM (hB.wf i hi) hp,xO hB hj,e]
end
end Go.E
end
section
namespace Go.E
open Go Go.Sort Go.Proofs.Tryz
theorem Dp (a:Nat):a &&& 255=a % 256:=by
 have:=Nat.and_two_pow_sub_one_eq_mod a 8
 simpa using this
theorem aA {w:World} {b o:Nat} {c:Array Value} {t:TypeId} (h:w.heap.size≤b) (h2:b < w.heap.size+1):(w.alloc (.cells c t)).cell? ⟨b,o,none⟩=c[o]? := by
 obtain rfl:b=w.heap.size:=by omega
 exact World.cell?_alloc_new w c t o
def KR.v (x:KR):Value := .agg [.int .u64 x.k.tr,x.sv,x.vv].toArray
theorem KR.good.form {d:World} {x:KR} (h:x.good d):∃ a n b m,x.sv = .slice a x.k.suf.length n∧x.vv = .slice b x.k.val.length m:=by
 obtain ⟨a,n,e⟩:=aY h.2.1
 obtain ⟨b,m,e2⟩:=aY h.2.2
 exact ⟨a,n,b,m,e,e2⟩
theorem Keep.tr {M M1:Nat→Nat→Prop} {w w1 w2:World} (h:Keep M w w1) (h2:Keep M1 w1 w2) (hm:∀ b o,b < w.heap.size→M1 b o→M b o):Keep M w w2 where
 size:=ah h.size h2.size
 cell b o hb hn:=by rw [h2.cell b o (aL hb h.size) fun h1=>hn (hm b o hb h1),h.cell b o hb hn]
 frozen b o hb:=by rw [h2.frozen b o (aL hb h.size),h.frozen b o hb]
 block b hb hn:=by rw [h2.block b (aL hb h.size) fun o h1=>hn o (hm b o hb h1),h.block b hb hn]
 st:=⟨h2.st.1.trans h.st.1,h2.st.2.1.trans h.st.2.1,h2.st.2.2.trans h.st.2.2⟩
end Go.E
namespace Go.Proofs
open Go Go.E Go.Sort Go.Proofs.Tryz
section
variable {k:aq} {d w:World}
theorem oW {x:KR} (h:x.good d) (hk:∀ w',bp w w'→k (.int .u8 (au x.k.tr)) w'):ai prog 79 #[x.v] k w:=by
 obtain ⟨a,n,b,m,e1,e2⟩:=h.form
 have ht:=h.1
 unfold KR.v
 rw [e1,e2]
 have e:∀ {t:TypeId} {xo yo:Operand} {q:Value→Prop},ct prog .and t xo yo (.int .u64 x.k.tr) (.int .u64 255) q=q (.int .u64 (x.k.tr % 256:Nat)):=by
  intro t xo yo q
  have:=mO (P:=prog) (t:=t) (xo:=xo) (yo:=yo) (q:=q) (a:=x.k.tr) (b:=255) ht (by decide)
  rw [Dp] at this
  exact this
 refine al [.tmp 2] func79 ?_
 refine bu @e ?_
 have e8:IntKind.u8.wrap ((x.k.tr % 256:Nat):Int)=(au x.k.tr:Nat):=by
  unfold au
  have:x.k.tr % 256 < 256:=Nat.mod_lt _ (by decide)
  generalize x.k.tr % 256=m at this
  simp [IntKind.wrap,IntKind.bits,IntKind.signed]
  omega
 rw [e8]
 exact hk _ (aJ _)
theorem kg {x:KR} (h:x.good d) (hk:∀ w',bp w w'→k (.int .u64 (x.k.tr / 256:Nat)) w'):ai prog 77 #[x.v] k w:=by
 obtain ⟨a,n,b,m,e1,e2⟩:=h.form
 unfold KR.v
 rw [e1,e2]
 have h8:(0:Int)≤8:=by decide
 have e:=DZ (a:=x.k.tr) (s:=8) (n:=8) (m:=256) rfl rfl
 refine al [.tmp 2] func77 ?_
 simp (disch:=first | exact dZ | fail) only [go_sem,gK h8,e]
 exact hk _ (aJ _)
theorem tR {x:KR} {snap:Nat} (h:x.good d) (hs:snap < 18446744073709551616) (hk:∀ w',bp w w'→k (.bool (ju snap x.k.tr)) w'):ai prog 199 #[x.v,.int .u64 snap] k w:=by
 obtain ⟨a,n,b,m,e1,e2⟩:=h.form
 have hv:x.v = .agg [.int .u64 x.k.tr,.slice a x.k.suf.length n,.slice b x.k.val.length m].toArray:=by unfold KR.v; rw [e1,e2]
 rw [hv]
 have ht:=h.1
 have e:∀ {t:TypeId} {xo yo:Operand} {q:Value→Prop},ct prog .and t xo yo (.int .u64 (x.k.tr / 256:Nat)) (.int .u64 36028797018963968) q=q (.int .u64 (x.k.tr / 256 &&& 36028797018963968:Nat)):=by
  intro t xo yo q
  exact mO (P:=prog) (t:=t) (xo:=xo) (yo:=yo) (q:=q) (a:=x.k.tr / 256) (b:=36028797018963968) (by omega) (by decide)
 refine al [.tmp 4] func199 ?_
 refine bA ?_
 rw [← hv]
 refine kg h fun w2 x2 => ?_
 have x3:bp w w2:=(aJ _).trans x2
 by_cases hl:x.k.tr / 256 < snap
 ·have hl':((x.k.tr / 256:Nat):Int) < snap:=by omega
  refine bu @hl' ?_
  have hv:ju snap x.k.tr=true:=by unfold ju; simp [hl]
  rw [hv] at hk
  exact hk _ x3
 ·have hl':¬ ((x.k.tr / 256:Nat):Int) < snap:=by omega
  refine dO @hl' @e ?_
  have hv:ju snap x.k.tr=(((x.k.tr / 256 &&& 36028797018963968:Nat):Int) != 0):=by
   unfold ju
   rw [bG]
   simp [hl]
  rw [hv] at hk
  exact hk _ x3
end
end Go.Proofs
namespace Go.E
open Go Go.Sort Go.Proofs Go.Proofs.Tryz
theorem BP (snap:Nat) (x:KR) (l:List KR):jk snap (x :: l)=if ju snap x.k.tr then (if au x.k.tr=19 then [] else x :: jk snap l) else jk snap l:=rfl
theorem uN (snap:Nat) (x:KR) (l:List KR):jv snap (x :: l)=if ju snap x.k.tr then (if au x.k.tr=19 then some x else jv snap l) else jv snap l:=rfl
def JX (w:World) (g:Nat) (l:List KR):Prop:=∀ i x,l[i]? = some x→w.cell? ⟨g,i * 3,none⟩=some (.int .u64 x.k.tr)∧w.cell? ⟨g,i * 3+1,none⟩=some x.sv∧w.cell? ⟨g,i * 3+2,none⟩=some x.vv
theorem JX.keep {w w2:World} {g:Nat} {l:List KR} {M:Nat→Nat→Prop} (h:JX w g l) (hk:Keep M w w2) (hm:∀ o,¬ M g o):JX w2 g l:=fun i x hx=>by
 obtain ⟨h1,h2,h3⟩:=h i x hx
 exact ⟨hk.some h1 (hm _),hk.some h2 (hm _),hk.some h3 (hm _)⟩
structure KOwn (d w:World) (Hb ho:Nat) (v:Value) (l:List KR):Prop where
 hd:w.cell? ⟨Hb,ho,none⟩=some v
 own:w.ownsRow 0 117 3 v l.length (dA l)
 good:∀ x ∈ l,x.good d
def jG (Hb ho:Nat) (v:Value):Nat→Nat→Prop:=fun b x=>b=Hb∧x=ho∨v.ownBlock=some b
def cZ (w:World) (v v2:Value):Prop:=∀ g,v2.ownBlock=some g→v.ownBlock=some g∨w.heap.size≤g
theorem cZ.refl (w:World) (v:Value):cZ w v v:=fun _ h => .inl h
theorem cZ.trans {w w2:World} {v v2 v3:Value} (h:cZ w v v2) (h2:cZ w2 v2 v3) (hs:w.heap.size≤w2.heap.size):cZ w v v3:=fun g hg=>by
 rcases h2 g hg with h3 | h3
 ·exact h g h3
 ·exact .inr (by omega)
theorem cZ.m {w:World} {Hb ho:Nat} {v v2:Value} (h:cZ w v v2) (b x:Nat) (hb:b < w.heap.size) (hm:jG Hb ho v2 b x):jG Hb ho v b x:=by
 rcases hm with hm | hm
 ·exact .inl hm
 ·rcases h b hm with h1 | h1
  ·exact .inr h1
  ·omega
theorem gC {d:World} {x:KR} (h:x.good d):∀ u ∈ x.cells,u.oneCell'=true:=by
 obtain ⟨a,n,b,m,e1,e2⟩:=h.form
 intro u hu
 unfold KR.cells at hu
 rw [e1,e2] at hu
 simp only [av,List.not_mem_nil,or_false] at hu
 rcases hu with rfl | rfl | rfl <;> rfl
end Go.E
namespace Go.Proofs
open Go Go.E Go.Sort Go.Proofs.Tryz
section
variable {k:aq} {d w:World}
theorem AR {Hb ho n c:Nat} {a:Option Addr} (h:w.cell? ⟨Hb,ho+1,none⟩=some (.slice a n c)) (hk:k (.int .i64 n) w):ai prog 251 #[.pointer (some ⟨Hb,ho,none⟩)] k w:=by
 refine al [.tmp 2] func251 ?_
 refine bu @h ?_
 exact hk
theorem oX {Hb ho n c:Nat} {a:Option Addr} (h:w.cell? ⟨Hb,ho,none⟩=some (.slice a n c)) (hk:k (.int .i64 n) w):ai prog 162 #[.pointer (some ⟨Hb,ho,none⟩)] k w:=by
 refine al [.tmp 2] func162 ?_
 refine bu @h ?_
 exact hk
theorem cS (va:Option Addr) (i j c:Nat):(Value.slice va i c).ownBlock=(Value.slice va j c).ownBlock:=by
 rcases va with _ | ⟨b,o,s⟩
 ·rfl
 ·cases o <;> cases s <;> rfl
theorem Hg {v:Value} {acc:List KR} {x:KR} {q:aq} (o:w.ownsRow 0 117 3 v acc.length (dA acc)) (hg:x.good d) (hz:acc.length < 1000000)
    (hk:∀ a c w',w'.ownsRow 0 117 3 (.slice a (acc.length+1) c) (acc.length+1) (dA (acc++[x]))→Keep (fun b _=>v.ownBlock=some b) w w'→cZ w v (.slice a (acc.length+1) c)→q (.slice a (acc.length+1) c) w') :
    me prog #[57,57] 57 #[v,.slice (some ⟨w.heap.size,0,none⟩) 1 1] q (w.alloc (.cells x.cells.toArray 117)).drew:=by
 obtain ⟨w4,hw4⟩:∃ w4,w4=w.alloc (.cells x.cells.toArray 117):=⟨_,rfl⟩
 rw [← hw4]
 have k4:bp w w4:=by rw [hw4]; exact aJ _
 simp only [me]
 refine pO (m:=1) (news:=x.cells) rw57 ((aX o k4 (fun _ _ _ h=>h)).drew) (by rfl) ⟨rfl,?_⟩ (gC hg) ?_ fun v5 w5 o5 k5 n5 _ => ?_
 ·intro j u hj
  rw [dS rfl,Nat.zero_add,hw4]
  rw [show (w.alloc (Obj.cells x.cells.toArray 117)).drew.cell? ⟨w.heap.size,j,none⟩=(w.alloc (Obj.cells x.cells.toArray 117)).cell? ⟨w.heap.size,j,none⟩ from rfl]
  refine bA ?_
  simpa using hj
 ·omega
 obtain ⟨a5,cap5,e5,_⟩:=bP o5
 subst e5
 have fl:dA acc++x.cells=dA (acc++[x]):=by rw [ib]; rfl
 rw [fl] at o5
 have kk5:Keep (fun b _=>v.ownBlock=some b) w4 w5:=(Keep.refl _ w4).drew.trans (k5 _ fun b o hb _=>hb)
 refine hk a5 cap5 w5 o5 (k4.keep.trans kk5) fun g hg => ?_
 rcases n5 with h | ⟨g2,h,h',_⟩
 ·exact .inl (by rw [← h]; exact hg)
 ·rw [h] at hg
  simp only [aP] at hg
  subst hg
  have:w4.drew.heap.size=w4.heap.size:=rfl
  have:=k4.size
  exact .inr (by omega)
theorem xP {Hb ho:Nat} {v:Value} {l:List KR} {tag:KR→Nat} (h:KOwn d w Hb (ho+1) v l) (hinc:cM d w) (hne:∀ g,v.ownBlock=some g→g≠Hb∧cj d g) (hc:w.cell? ⟨Hb,ho,none⟩=some (.func (.func 85) #[] #[])) (hO:kN wN tag l.toArray) (hz:l.length < 1000000)
    (hk:∀ w' l',KOwn d w' Hb (ho+1) v l'→Mg wN tag 0 l.length l.toArray l'.toArray→l'.length=l.length→Keep (fun b _=>v.ownBlock=some b) w w'→k (.tuple #[]) w') :
    ai prog 200 #[.iface 306 (.pointer (some ⟨Hb,ho,none⟩))] k w:=by
 have hHb:=aC hc
 rcases cg h.own with ⟨rfl,h0,hf⟩ | ⟨g,cap,rfl,hcap,hg⟩
 ·have hl:l=[]:=ak.1 h0
  subst hl
  have S:Srt prog (.iface 306 (.pointer (some ⟨Hb,ho,none⟩))) wN w.heap.size (fun w' (b:Array KR)=>b = #[]∧bp w w'):=by
   refine ⟨fun h=>h.2.size,fun h=>by rw [h.1]; simp,fun h hi _ _ => ?_,fun h hi _ _ => ?_,fun ob h=>⟨h.1,h.2.alloc ob⟩,fun h hb=>⟨h.1,h.2.set (fun hlt=>by omega)⟩,fun h=>⟨h.1,h.2.drew⟩⟩
   ·rw [h.1] at hi; simp at hi
   ·rw [h.1] at hi; simp at hi
  refine rX S AK (tag:=tag) (d := #[]) ⟨rfl,bp.refl w⟩ hO (fun {w2 d2 k2} hR hk2 => ?_) fun w' d' h1 h2 => ?_
  ·rw [Tryz.iv306_Len]
   obtain ⟨rfl,hx⟩:=hR
   exact AR (hx.cell h.hd) hk2
  ·obtain ⟨rfl,hx⟩:=h1
   exact hk w' [] ⟨hx.cell h.hd,aX h.own hx (fun _ _ _ h=>h),h.good⟩ h2 rfl hx.keep
 ·obtain ⟨hgH,hgo⟩:=hne g rfl
  have K0:KRow d w w Hb (ho+1) g cap l.toArray:=⟨by simpa using h.hd,by simpa using h.own,by simpa using h.good,Keep.refl _ w,hinc,hg,hHb,Ne.symm hgH,hgo⟩
  refine rX (Ha (d:=d) (w0:=w) (g:=g) (cap:=cap) hc) AK (tag:=tag) (d:=l.toArray) ⟨K0,by simpa using hz⟩ hO (fun {w2 d2 k2} hR hk2 => ?_) fun w' d' h1 h2 => ?_
  ·rw [Tryz.iv306_Len]
   exact AR hR.1.hd hk2
  ·have hsz:d'.size=l.length:=by have:=h2.1.1; simpa using this
   have e:=h1.1.own
   have e2:=h1.1.hd
   rw [hsz] at e e2
   refine hk w' d'.toList ⟨e2,by simpa [hsz] using e,h1.1.good⟩ (by simpa using h2) (by simpa using hsz) (h1.1.keep.mono fun b o _ hb=>by rw [hb]; rfl)
theorem BQ {Hb ho:Nat} {v:Value} {l:List KR} (h:KOwn d w Hb ho v l) (hinc:cM d w) (hne:∀ g,v.ownBlock=some g→g≠Hb∧cj d g) (hz:l.length < 1000000)
    (hk:∀ w' l',KOwn d w' Hb ho v l'→l'.Perm l→l'.Pairwise (fun x y=>y.k.tr≤x.k.tr)→Keep (fun b _=>v.ownBlock=some b) w w'→k (.tuple #[]) w') :
    ai prog 93 #[.iface 223 (.pointer (some ⟨Hb,ho,none⟩))] k w:=by
 have hHb:=aC h.hd
 rcases cg h.own with ⟨rfl,h0,hf⟩ | ⟨g,cap,rfl,hcap,hg⟩
 ·have hl:l=[]:=ak.1 h0
  subst hl
  have S:Srt prog (.iface 223 (.pointer (some ⟨Hb,ho,none⟩))) E8 w.heap.size (fun w' (b:Array KR)=>b = #[]∧bp w w'):=by
   refine ⟨fun h=>h.2.size,fun h=>by rw [h.1]; simp,fun h hi _ _ => ?_,fun h hi _ _ => ?_,fun ob h=>⟨h.1,h.2.alloc ob⟩,fun h hb=>⟨h.1,h.2.set (fun hlt=>by omega)⟩,fun h=>⟨h.1,h.2.drew⟩⟩
   ·rw [h.1] at hi; simp at hi
   ·rw [h.1] at hi; simp at hi
  refine oE S AJ (d := #[]) ⟨rfl,bp.refl w⟩ (fun {w2 d2 k2} hR hk2 => ?_) fun w' d' h1 h2 h3 => ?_
  ·rw [Tryz.iv223_Len]
   obtain ⟨rfl,hx⟩:=hR
   exact oX (hx.cell h.hd) hk2
  ·obtain ⟨rfl,hx⟩:=h1
   exact hk w' [] ⟨hx.cell h.hd,aX h.own hx (fun _ _ _ h=>h),h.good⟩ (List.Perm.refl _) List.Pairwise.nil hx.keep
 ·obtain ⟨hgH,hgo⟩:=hne g rfl
  have K0:KRow d w w Hb ho g cap l.toArray:=⟨by simpa using h.hd,by simpa using h.own,by simpa using h.good,Keep.refl _ w,hinc,hg,hHb,Ne.symm hgH,hgo⟩
  refine oE (Fo (d:=d) (w0:=w) (Hb:=Hb) (ho:=ho) (g:=g) (cap:=cap)) AJ (d:=l.toArray) ⟨K0,by simpa using hz⟩ (fun {w2 d2 k2} hR hk2 => ?_) fun w' d' h1 h2 h3 => ?_
  ·rw [Tryz.iv223_Len]
   exact oX hR.1.hd hk2
  ·have hsz:d'.size=l.length:=by have:=h2.1; simpa using this
   have e:=h1.1.own
   have e2:=h1.1.hd
   rw [hsz] at e e2
   refine hk w' d'.toList ⟨e2,by simpa [hsz] using e,h1.1.good⟩ (by simpa using dU h2 (aF _)) ?_ (h1.1.keep.mono fun b o _ hb=>by rw [hb]; rfl)
   rw [bJ]
   intro i j hi hj hij
   simp only [Array.length_toList] at hi hj
   have s:=h3 i j (aT _) hij (by simp; omega)
   rw [aI d' i hi,aI d' j hj] at s
   simp only [E8,decide_eq_false_iff_not] at s
   simp only [Array.getElem_toList]
   omega
def Gl (x y:K):Bool:=decide (y.tr < x.tr)
theorem AS:SWO Gl where
 irrefl x:=by unfold Gl; simp
 trans x y z:=by unfold Gl; simp; omega
 ntrans x y z:=by unfold Gl; simp; omega
def Dq (l:List K):List K:=(Ge Gl l.toArray).toList
theorem pV {a:Array KR} {i:Nat} (h:i < a.size):(a.map KR.k)[i]! = a[i]!.k:=by
 rw [aI (a.map KR.k) i (by simpa using h),aI a i h]
 simp
theorem Fq {a:Array KR} {i j:Nat} (hi:i < a.size) (hj:j < a.size):(swp a i j).map KR.k=swp (a.map KR.k) i j:=by
 have e1:(swp a i j).toList=(a.toList.set i a[j]!).set j a[i]! := by simp [swp]
 have e2:(swp (a.map KR.k) i j).toList=((a.map KR.k).toList.set i (a.map KR.k)[j]!).set j (a.map KR.k)[i]! := by simp [swp]
 apply Array.toList_inj.1
 rw [e2,pV hi,pV hj,Array.toList_map,e1,List.map_set,List.map_set,Array.toList_map]
theorem uO {Hb ho:Nat} {v:Value} {l:List KR} (h:KOwn d w Hb ho v l) (hinc:cM d w) (hne:∀ g,v.ownBlock=some g→g≠Hb∧cj d g) (hz:l.length < 1000000)
    (hk:∀ w' l',KOwn d w' Hb ho v l'→l'.length=l.length→l'.map KR.k=Dq (l.map KR.k)→(l'.map KR.k).Perm (l.map KR.k)→l'.Pairwise (fun x y=>y.k.tr≤x.k.tr)→Keep (fun b _=>v.ownBlock=some b) w w'→k (.tuple #[]) w') :
    ai prog 93 #[.iface 223 (.pointer (some ⟨Hb,ho,none⟩))] k w:=by
 have hHb:=aC h.hd
 rcases cg h.own with ⟨rfl,h0,hf⟩ | ⟨g,cap,rfl,hcap,hg⟩
 ·have hl:l=[]:=ak.1 h0
  subst hl
  have S:Srt prog (.iface 223 (.pointer (some ⟨Hb,ho,none⟩))) Gl w.heap.size (fun w' (b:Array K)=>b = #[]∧bp w w'):=by
   refine ⟨fun h=>h.2.size,fun h=>by rw [h.1]; simp,fun h hi _ _ => ?_,fun h hi _ _ => ?_,fun ob h=>⟨h.1,h.2.alloc ob⟩,fun h hb=>⟨h.1,h.2.set (fun hlt=>by omega)⟩,fun h=>⟨h.1,h.2.drew⟩⟩
   ·rw [h.1] at hi; simp at hi
   ·rw [h.1] at hi; simp at hi
  refine pS S AS (d := #[]) ⟨rfl,bp.refl w⟩ (fun {w2 d2 k2} hR hk2 => ?_) fun w' d' h0 h1 h2 h3 => ?_
  ·rw [Tryz.iv223_Len]
   obtain ⟨rfl,hx⟩:=hR
   exact oX (hx.cell h.hd) hk2
  ·obtain ⟨rfl,hx⟩:=h1
   exact hk w' [] ⟨hx.cell h.hd,aX h.own hx (fun _ _ _ h=>h),h.good⟩ rfl rfl (List.Perm.refl _) List.Pairwise.nil hx.keep
 ·obtain ⟨hgH,hgo⟩:=hne g rfl
  have K0:KRow d w w Hb ho g cap l.toArray:=⟨by simpa using h.hd,by simpa using h.own,by simpa using h.good,Keep.refl _ w,hinc,hg,hHb,Ne.symm hgH,hgo⟩
  have S:Srt prog (.iface 223 (.pointer (some ⟨Hb,ho,none⟩))) Gl w.heap.size (fun w' (b:Array K)=>∃ a:Array KR,KRow d w w' Hb ho g cap a∧a.map KR.k=b∧a.size < 1000000):=by
   refine ⟨fun ⟨a,h,_⟩=>h.keep.size,fun ⟨a,h,e,hz⟩=>by rw [← e]; simp; omega,fun {w' b i j k} ⟨a,h,e,hz⟩ hi hj hk => ?_,fun {w' b i j k} ⟨a,h,e,hz⟩ hi hj hk => ?_,fun ob ⟨a,h,e,hz⟩=>⟨a,h.alloc ob,e,hz⟩,fun ⟨a,h,e,hz⟩ hb=>⟨a,h.set hb,e,hz⟩,fun ⟨a,h,e,hz⟩=>⟨a,h.drew,e,hz⟩⟩
   ·subst e
    have hi:i < a.size:=by simpa using hi
    have hj:j < a.size:=by simpa using hj
    rw [Tryz.iv223_Less]
    refine oK h hi hj ?_
    have:=hk w'.drew ⟨a,h.drew,rfl,hz⟩ rfl
    rwa [pV hi,pV hj] at this
   ·subst e
    have hi:i < a.size:=by simpa using hi
    have hj:j < a.size:=by simpa using hj
    rw [Tryz.iv223_Swap]
    refine oL h hi hj fun w2 h2 h3 h4=>hk w2 ⟨_,h2,Fq hi hj,by rw [swp_size]; exact hz⟩ h3 fun b hb _=>h4 b ?_
    omega
  refine pS S AS (d:=(l.map KR.k).toArray) ⟨l.toArray,K0,by simp,by simpa using hz⟩ (fun {w2 d2 k2} hR hk2 => ?_) fun w' d' h0 h1 h2 h3 => ?_
  ·obtain ⟨a,hR,e,_⟩:=hR
   subst e
   rw [Array.size_map] at hk2
   rw [Tryz.iv223_Len]
   exact oX hR.hd hk2
  ·obtain ⟨a,hR,e,_⟩:=h1
   have hsz:a.size=l.length:=by have:=h2.1; rw [← e] at this; simpa using this
   have e1:=hR.own
   have e2:=hR.hd
   rw [hsz] at e1 e2
   have em:a.toList.map KR.k=d'.toList:=by rw [← e]; simp
   refine hk w' a.toList ⟨e2,by simpa [hsz] using e1,hR.good⟩ (by simpa using hsz) (by rw [em,h0]; rfl) (by rw [em]; simpa using dU h2 (aF _)) ?_ (hR.keep.mono fun b o _ hb=>by rw [hb]; rfl)
   rw [bJ]
   intro i j hi hj hij
   simp only [Array.length_toList] at hi hj
   have s:=h3 i j (aT _) hij (by simp; omega)
   rw [← e,pV hi,pV hj,aI a i hi,aI a j hj] at s
   simp only [Gl,decide_eq_false_iff_not] at s
   simp only [Array.getElem_toList]
   omega
set_option maxHeartbeats 1000000 in
theorem vV {Hb ho gk snap cap:Nat} {ka:Option Addr} {vs:Value} {l:List KR} (hc:w.cell? ⟨Hb,ho,none⟩=some (.func (.func 85) #[] #[])) (ho0:KOwn d w Hb (ho+1) vs []) (hf:∀ x,w.frozen? ⟨Hb,x,none⟩=false)
    (hne:∀ g,vs.ownBlock=some g→g≠Hb∧g≠gk∧cj d g) (hgk:gk≠Hb) (hoH:d.cell? ⟨Hb,ho+1,none⟩=none) (hkv:0 < l.length→ka=some ⟨gk,0,none⟩) (hka:JX w gk l) (hkl:0 < l.length→gk < w.heap.size) (hgood:∀ x ∈ l,x.good d) (hinc:cM d w) (hd:DK l) (hl:l.length < 100000) (hs:snap < 18446744073709551616)
    (hk:∀ w' vs' r,KOwn d w' Hb (ho+1) vs' (r++(jv snap l).toList)→CoR snap l r→r.length≤l.length→Keep (jG Hb (ho+1) vs) w w'→cZ w vs vs'→k .nilIface w') :
    ai prog 193 #[.func (.func 86) #[] #[],.pointer (some ⟨Hb,ho,none⟩),.int .u64 snap,.slice ka l.length cap] k w:=by
 refine al [.tmp 8] func193 ?_
 refine bA ?_
 refine jf (fun di:Int=>[(0,.func (.func 86) #[] #[]),(1,.pointer (some ⟨Hb,ho,none⟩)),(3,.slice ka l.length cap),(9,.int .i64 di)]) (fun di w1=>∃ v1,KOwn d w1 Hb (ho+1) v1 (jk snap l)∧Keep (jG Hb (ho+1) vs) w w1∧cZ w vs v1∧((di = -1∧jv snap l=none)∨∃ i:Nat,di=i∧l[i]? = jv snap l∧i < l.length)) (by kernel_rfl) (fun K hK => ?_) ?_
 ·refine bZ (fun i:Nat=>[(0,.func (.func 86) #[] #[]),(1,.pointer (some ⟨Hb,ho,none⟩)),(2,.int .u64 snap),(3,.slice ka l.length cap),(9,.int .i64 (-1)),(16,.int .i64 l.length),(17,.int .i64 i)])
    (fun i w1=>∃ v1 acc,KOwn d w1 Hb (ho+1) v1 acc∧Keep (jG Hb (ho+1) vs) w w1∧cZ w vs v1∧jk snap l=acc++jk snap (l.drop i)∧jv snap l=jv snap (l.drop i)∧i≤l.length∧acc.length≤i) (fun i _=>l.length - i) 0 (by kernel_rfl) ?_ ⟨vs,[],ho0,Keep.refl _ w,cZ.refl w vs,rfl,rfl,aT _,aT _⟩ ?_
  ·exact bU
  rintro K2 e2 i w1 ⟨v1,acc,h1,h2,h3,h4,h5,h6,h7⟩ hK2
  by_cases hi:i < l.length
  ·have hi':(i:Int) < l.length:=by omega
   obtain ⟨x,hx⟩:∃ x,l[i]? = some x:=⟨l[i],aD hi⟩
   have hxm:x ∈ l:=aO hx
   have hg:=hgood x hxm
   obtain ⟨a,n,b,m,q1,q2⟩:=hg.form
   have hv:x.v = .agg [.int .u64 x.k.tr,.slice a x.k.suf.length n,.slice b x.k.val.length m].toArray:=by unfold KR.v; rw [q1,q2]
   have hgm:∀ o,¬ jG Hb (ho+1) vs gk o:=by
    rintro o (⟨h,_⟩ | h)
    ·exact hgk h
    ·exact (hne _ h).2.1 rfl
   obtain ⟨c1,c2,c3⟩:=(hka.keep h2 hgm) i x hx
   rw [q1] at c2
   rw [q2] at c3
   have hka':=hkv (by omega)
   subst hka'
   have hdrop:l.drop i=x :: l.drop (i+1):=by
    rw [cV hi]
    congr 1
    rw [aD hi] at hx
    exact bk hx
   rw [hdrop,BP] at h4
   rw [hdrop,uN] at h5
   refine bu @hi' ?_
   refine bF (sq [0,1,2,3,4,5,6,7,8] (.read 9 (sq [10,11,12,13,14] (.read 15 (sq [16,17] .done))))) ?_
   refine dQ @c1 @c2 @c3 ?_
   rw [← hv]
   refine tR hg hs fun w2 x2 => ?_
   have x2:bp w1 w2:=(Keep.refl _ w1).drew.trans x2
   have x2':=x2
   cases hvis:ju snap x.k.tr with
   | false =>
    rw [hvis,if_neg (by simp)] at h4 h5
    refine bA ?_
    refine hK2 _ _ (i+1) ?_ ⟨v1,acc,⟨x2.cell h1.hd,aX h1.own x2 (fun _ _ _ h=>h),h1.good⟩,h2.trans x2.keep,h3,h4,h5,by omega,by omega⟩ (by omega)
    exact bU
   | true =>
    rw [hvis,if_pos rfl] at h4 h5
    have c1:=x2.cell c1
    have c2:=x2.cell c2
    have c3:=x2.cell c3
    refine dQ @c1 @c2 @c3 ?_
    rw [← hv]
    refine oW hg fun w3 x3 => ?_
    have x3':bp w1 w3:=x2'.trans x3
    by_cases h9:au x.k.tr=19
    ·have h9':(((au x.k.tr:Nat):Int) == 19)=true:=by rw [h9]; rfl
     rw [if_pos h9] at h4 h5
     refine bu @h9' ?_
     refine hK _ _ (i:Int) ?_ ⟨v1,?_,?_,h3,.inr ⟨i,rfl,by rw [h5,hx],hi⟩⟩
     ·exact bU
     ·rw [h4,ao]
      exact ⟨x3'.cell h1.hd,aX h1.own x3' (fun _ _ _ h=>h),h1.good⟩
     ·exact h2.trans x3'.keep
    ·have h9':(((au x.k.tr:Nat):Int) == 19)=false:=by
       rw [beq_eq_false_iff_ne]; omega
     rw [if_neg h9] at h4 h5
     have c1:=x3.cell c1
     have c2:=x3.cell c2
     have c3:=x3.cell c3
     have c4:=x3'.cell h1.hd
     have hHb:=aC c4
     have o3:=aX h1.own x3' (fun _ _ _ h=>h)
     have fH:∀ x,w3.frozen? ⟨Hb,x,none⟩=false:=fun x=>by rw [x3'.frozen Hb x (aC h1.hd),h2.frozen Hb x (aC hc)]; exact hf x
     have hvH:∀ g,v1.ownBlock=some g→g≠Hb:=fun g hg=>by
      rcases h3 g hg with h | h
      ·exact (hne g h).1
      ·have:=aC hc; omega
     refine bu @h9' ?_
     refine bF (sq [0,1,2,3] (.read 4 (sq [5,6,7] (.read 8 (.eff 9 [4] (.eff 10 [] (sq [11,12] (.eff 13 [] .done)))))))) ?_
     refine eO @c1 @c2 @c3 @c4 ?_
     obtain ⟨w4,hw4⟩:∃ w4,w4=w3.alloc (.cells x.cells.toArray 117):=⟨_,rfl⟩
     have hcells : #[Value.int IntKind.u64 x.k.tr,Value.slice a x.k.suf.length n,Value.slice b x.k.val.length m]=x.cells.toArray:=by unfold KR.cells; rw [q1,q2]
     rw [hcells,← hw4]
     have k4:bp w3 w4:=by rw [hw4]; exact aJ _
     have hz4:w4.heap.size=w3.heap.size+1:=by rw [hw4,World.size_alloc]
     simp only [me]
     refine pO (m:=1) (news:=x.cells) rw57 ((aX o3 k4 (fun _ _ _ h=>h)).drew) (by rfl) ⟨rfl,?_⟩ (gC hg) ?_ fun v5 w5 o5 k5 n5 _ => ?_
     ·intro j u hj
      rw [dS rfl,Nat.zero_add,hw4]
      rw [show (w3.alloc (Obj.cells x.cells.toArray 117)).drew.cell? ⟨w3.heap.size,j,none⟩=(w3.alloc (Obj.cells x.cells.toArray 117)).cell? ⟨w3.heap.size,j,none⟩ from rfl]
      refine bA ?_
      simpa using hj
     ·omega
     have kk5:Keep (fun b _=>v1.ownBlock=some b) w4 w5:=(Keep.refl _ w4).drew.trans (k5 _ fun b o hb _=>hb)
     have k15:Keep (fun b _=>v1.ownBlock=some b) w1 w5:=(x3'.trans k4).keep.trans kk5
     have hvg:∀ g,v1.ownBlock=some g→g≠gk:=fun g hg=>by
      rcases h3 g hg with h | h
      ·exact (hne g h).2.1
      ·have:=hkl (by omega); omega
     have k35:Keep (fun b _=>v1.ownBlock=some b) w3 w5:=k4.keep.trans kk5
     have c1:=k35.some c1 (fun h=>hvg _ h rfl)
     have c2:=k35.some c2 (fun h=>hvg _ h rfl)
     have c3:=k35.some c3 (fun h=>hvg _ h rfl)
     have c4:=k35.some c4 (fun h=>hvH _ h rfl)
     have fH5:∀ x,w5.frozen? ⟨Hb,x,none⟩=false:=fun x=>by rw [k35.frozen Hb x hHb]; exact fH x
     have hxc:Value.agg x.cells.toArray = .agg [.int .u64 x.k.tr,.slice a x.k.suf.length n,.slice b x.k.val.length m].toArray:=by unfold KR.cells; rw [q1,q2]
     rw [hxc]
     obtain ⟨a5,cap5,e5,_⟩:=bP o5
     subst e5
     refine hJ @c1 @c2 @c3 @c4 @fH5 ?_
     have fl:dA acc++x.cells=dA (acc++[x]):=by rw [ib]; rfl
     rw [fl] at o5
     obtain ⟨w6,hw6⟩:∃ w6,w6=w5.setCell ⟨Hb,ho+1,none⟩ (.slice a5 (acc.length+1) cap5):=⟨_,rfl⟩
     rw [← hw6]
     have k56:Keep (fun b o=>b=Hb∧o=ho+1) w5 w6:=by rw [hw6]; exact bY ⟨rfl,rfl⟩
     have n15:cZ w1 v1 (.slice a5 (acc.length+1) cap5):=fun g hg=>by
      rcases n5 with h | ⟨g2,h,h',_⟩
      ·exact .inl (by rw [← h]; exact hg)
      ·rw [h] at hg
       simp only [aP] at hg
       subst hg
       have:w4.drew.heap.size=w4.heap.size:=rfl
       have:=k4.size
       have:=x3'.size
       exact .inr (by omega)
     have n05:=h3.trans n15 h2.size
     have k05:Keep (jG Hb (ho+1) vs) w w5:=h2.tr k15 fun b o hb hm=>h3.m b o hb (.inr hm)
     refine hK2 _ _ (i+1) ?_ ⟨.slice a5 (acc.length+1) cap5,acc++[x],⟨?_,?_,?_⟩,k05.tr k56 fun b o hb hm => .inl hm,n05,?_,h5,by omega,by simp; omega⟩ (by omega)
     ·exact bU
     ·rw [hw6]; exact bX @c4
     ·rw [aE]
      refine aX o5 k56 ?_
      intro g hg o he
      rcases n15 g hg with h | h
      ·exact hvH g h he.1
      ·have:=x3'.size; have:=aC h1.hd; omega
     ·intro y hy
      rcases aS.1 hy with h | h
      ·exact h1.good y h
      ·rw [aM] at h; subst h; exact hg
     ·rw [h4,ax]; rfl
  ·have hi':¬ (i:Int) < l.length:=by omega
   obtain rfl:i=l.length:=by omega
   rw [List.drop_length] at h4 h5
   refine bu @hi' ?_
   refine hK _ _ (-1) ?_ ⟨v1,?_,h2,h3,.inl ⟨rfl,h5⟩⟩
   ·exact bU
   ·rw [h4,show jk snap []=[] from rfl,ao]; exact h1
 rintro e1 di w1 ⟨v1,h1,h2,h3,hdi⟩
 have hv1:∀ g,v1.ownBlock=some g→g≠Hb∧cj d g∧(0 < l.length→g≠gk):=fun g hg=>by
  rcases h3 g hg with h | h
  ·exact ⟨(hne g h).1,(hne g h).2.2,fun _=>(hne g h).2.1⟩
  ·have:=aC hc
   exact ⟨by omega,hinc.out h,fun hl=>by have:=hkl hl; omega⟩
 have hinc1:cM d w1:=hinc.keep h2 fun b o hb=>by
  rcases hb with ⟨rfl,rfl⟩ | h
  ·exact hoH
  ·exact (hne b h).2.2 o
 have hc1:w1.cell? ⟨Hb,ho,none⟩=some (.func (.func 85) #[] #[]):=h2.some hc (by
  rintro (⟨_,h⟩ | h)
  ·omega
  ·exact (hne _ h).1 rfl)
 have hpl:(jk snap l).length≤l.length:=ly.length_le
 refine bA ?_
 refine xP (tag:=fun x=>18446744073709551616 - x.k.tr) h1 hinc1 (fun g hg=>⟨(hv1 g hg).1,(hv1 g hg).2.1⟩) hc1 (Hd (snap:=snap) (l:=l) (by simp) hd fun x hx=>(hgood x hx).1) (by omega) fun w2 s h4 h5 h6 k2 => ?_
 have hcr:CoR snap l (vS none s):=by
  have:=Hc (snap:=snap) (l:=l) (a:=(jk snap l).toArray) (b:=s.toArray) (by simp) (by simpa using h5) fun x hx=>(hgood x hx).1
  simpa using this
 have fH2:∀ x,w2.frozen? ⟨Hb,x,none⟩=false:=fun x=>by rw [k2.frozen Hb x (aC h1.hd),h2.frozen Hb x (aC hc)]; exact hf x
 have h4H:=h4.hd
 have h4o:=h4.own
 obtain ⟨n,hn⟩:∃ n,n=s.length:=⟨_,rfl⟩
 have hnl:n≤l.length:=by omega
 rw [← hn] at h4o
 have hva:0 < n→∃ g c,v1 = .slice (some ⟨g,0,none⟩) n c:=by
  intro h0
  rcases cg h4o with ⟨_,h,_⟩ | ⟨g,c,h,_⟩
  ·omega
  ·exact ⟨g,c,h⟩
 obtain ⟨va,vcap,hv1e,hvcap,hvm⟩:=bP h4o
 subst hv1e
 have k02:Keep (jG Hb (ho+1) vs) w w2:=h2.tr k2 fun b o hb hm=>h3.m b o hb (.inr hm)
 have z0:(0:Int).toNat=0:=rfl
 have zc:(0:Int)≤vcap:=by omega
 simp (disch:=first | exact dZ | fail) only [go_sem,h4H,pG Tryz.es57,z0,zc,fH2]
 obtain ⟨w3,hw3⟩:∃ w3,w3=w2.setCell ⟨Hb,ho+1,none⟩ (.slice va 0 vcap):=⟨_,rfl⟩
 rw [← hw3]
 have k23:Keep (fun b o=>b=Hb∧o=ho+1) w2 w3:=by rw [hw3]; exact bY ⟨rfl,rfl⟩
 have h3H:w3.cell? ⟨Hb,ho+1,none⟩=some (.slice va 0 vcap):=by rw [hw3]; exact bX @h4H
 have o3:w3.ownsRow 0 117 3 (.slice va n vcap) n (dA s):=aX h4o k23 fun g hg o he=>(hv1 g hg).1 he.1
 refine bZ (fun x:Nat × Value × Bool=>[(0,.func (.func 86) #[] #[]),(1,.pointer (some ⟨Hb,ho,none⟩)),(3,.slice ka l.length cap),(9,.int .i64 di),(11,.slice va n vcap),(12,x.2.1),(13,.bool x.2.2),(83,.int .i64 n),(84,.int .i64 x.1)])
  (fun x w'=>∃ c dd,w'.cell? ⟨Hb,ho+1,none⟩=some (.slice va (if x.2.2 then dd.length else 0) vcap)∧w'.ownsRow 0 117 3 (.slice va n vcap) n (dA c)∧(∀ y ∈ c,y.good d)∧c.length=n∧c.take dd.length=dd∧c.drop x.1=s.drop x.1∧dd.length≤x.1∧(x.2.2=false→dd.length=x.1)∧(x.2.2=true→dd.length < x.1) ∧
   vS none s=dd++vS (if x.1=0 then none else some s[x.1 - 1]!.k.suf) (s.drop x.1)∧(0 < x.1→dR d x.2.1 s[x.1 - 1]!.k.suf)∧Keep (jG Hb (ho+1) (.slice va n vcap)) w2 w'∧x.1≤n)
  (fun x _=>n - x.1) (0,.slice none 0 0,false) (by kernel_rfl) ?_ ⟨s,[],h3H,o3,h4.good,hn.symm,rfl,rfl,aF _,fun _=>rfl,fun h=>by simp at h,rfl,fun h=>by simp at h,k23.mono fun b o _ h => .inl h,aT _⟩ ?_
 ·exact bU
 rintro K e2 ⟨i,pv,sh⟩ w4 ⟨c,dd,i1,i2,i3,i4,i5,i6,i7,i8,i9,i10,i11,i12,i13⟩ hK
 simp only at i1 i2 i3 i4 i5 i6 i7 i8 i9 i10 i11 i12 i13
 have fH4:∀ x,w4.frozen? ⟨Hb,x,none⟩=false:=fun x=>by rw [i12.frozen Hb x (aC h4H)]; exact fH2 x
 by_cases hi:i < n
 ·have hi':(i:Int) < n:=by omega
  obtain ⟨g,vcap',hvg⟩:=hva (by omega)
  simp only [aU,true_and] at hvg
  obtain ⟨rfl,rfl⟩:=hvg
  obtain ⟨x,hx⟩:∃ x,s[i]? = some x:=⟨s[i],aD (by omega)⟩
  have hx2:s[i]! = x:=by rw [getElem!_def,hx]
  have hcx:c[i]? = some x:=by
   have:=congrArg (fun l=>l[0]?) i6
   simpa [hx] using this
  have hg:=i3 x (aO hcx)
  obtain ⟨a,na,b,nb,q1,q2⟩:=hg.form
  obtain ⟨f1,f2,f3⟩:=kZ hcx
  have c1:=bW i2 f1
  have c2:=bW i2 f2
  have c3:=bW i2 f3
  rw [q1] at c2
  rw [q2] at c3
  have hgH:g≠Hb:=(hv1 g rfl).1
  have hdrop:s.drop i=x :: s.drop (i+1):=by
   rw [cV (by omega)]
   congr 1
   rw [aD (by omega)] at hx
   exact bk hx
  have hinc4:cM d w4:=(hinc1.keep k2 fun b o hb=>(hv1 b hb).2.1 o).keep i12 fun b o hb=>by
   rcases hb with ⟨rfl,rfl⟩ | h
   ·exact hoH
   ·exact (hv1 b h).2.1 o
  have hd6:c.drop (i+1)=s.drop (i+1):=by
   have:=congrArg (List.drop 1) i6
   simpa [Nat.add_comm] using this
  by_cases h0:i=0
  ·subst h0
   have hsh:sh=false:=by
    cases sh with
    | false=>rfl
    | true=>have:=i9 rfl; omega
   subst hsh
   have hdd:dd=[]:=ak.1 (by omega)
   subst hdd
   have z00:¬ (0:Int) < ((0:Nat):Int):=by decide
   refine hJ @hi' @z00 @c1 @c2 @c3 ?_
   refine hK _ _ (1,.slice a x.k.suf.length na,false) ?_ ⟨c,[x],by simpa using i1,i2,i3,i4,?_,hd6,aF _,fun _=>rfl,fun h=>by simp at h,?_,fun _ => ?_,i12,by simp only; omega⟩ (by simp only; omega)
   ·exact bU
   ·have:c=x :: c.drop 1:=by
      cases c with
      | nil=>simp at hcx
      | cons y c=>simp at hcx; simp [hcx]
    rw [this]; rfl
   ·rw [i10,if_pos rfl,hdrop]
    simp [vS,hx2]
   ·simp only
    rw [show 1 - 1=0 from rfl,hx2,← q1]
    exact hg.2.1
  ·have h0':(0:Int) < i:=by omega
   rw [if_neg h0] at i10
   have i11:=i11 (by omega)
   refine hJ @hi' @h0' @c1 @c2 @c3 ?_
   refine mN (i11.inc hinc4) (by rw [← q1]; exact hg.2.1.inc hinc4) ?_
   by_cases he:s[i - 1]!.k.suf=x.k.suf
   ·rw [aV he]
    rw [hdrop] at i10
    have i10':vS none s=dd++vS (some s[i - 1]!.k.suf) (s.drop (i+1)):=by
     rw [i10]
     congr 1
     conv=>lhs; unfold vS
     rw [if_pos (by rw [he])]
    have e1:i+1 - 1=i:=by omega
    cases sh with
    | false =>
     have hl:=i8 rfl
     have z1:(0:Int)≤i:=by omega
     have z2:(i:Int)≤vcap:=by omega
     simp only [Bool.false_eq_true,if_false] at i1
     simp (disch:=first | exact dZ | fail) only [go_sem,i1,pG Tryz.es57,z1,z2,fH4]
     refine hK _ _ (i+1,pv,true) ?_ ⟨c,dd,?_,?_,i3,i4,i5,hd6,by simp only; omega,fun h=>by simp at h,fun _=>by simp only; omega,?_,fun _ => ?_,i12.set (fun _ => .inl ⟨rfl,rfl⟩),by simp only; omega⟩ (by simp only; omega)
     ·exact bU
     ·rw [hl]; exact bX @i1
     ·exact aX i2 (bY (M:=fun b o=>b=Hb∧o=ho+1) ⟨rfl,rfl⟩) fun g' hg' o h=>(hv1 g' hg').1 h.1
     ·simp only
      rw [if_neg (by omega),e1,hx2,i10',he]
     ·simp only
      rw [e1,hx2,← he]; exact i11
    | true =>
     have hl:=i9 rfl
     refine bA ?_
     refine hK _ _ (i+1,pv,true) ?_ ⟨c,dd,i1,i2,i3,i4,i5,hd6,by simp only; omega,fun h=>by simp at h,fun _=>by simp only; omega,?_,fun _ => ?_,i12,by simp only; omega⟩ (by simp only; omega)
     ·exact bU
     ·simp only
      rw [if_neg (by omega),e1,hx2,i10',he]
     ·simp only
      rw [e1,hx2,← he]; exact i11
   ·rw [aG he]
    rw [hdrop] at i10
    have i10':vS none s=(dd++[x])++vS (some x.k.suf) (s.drop (i+1)):=by
     rw [i10,ax]
     congr 1
     conv=>lhs; unfold vS
     rw [if_neg (by simpa using he)]
     rfl
    have e1:i+1 - 1=i:=by omega
    cases sh with
    | false =>
     have hl:=i8 rfl
     simp only [Bool.false_eq_true,if_false] at i1
     refine dQ @c1 @c2 @c3 ?_
     refine hK _ _ (i+1,.slice a x.k.suf.length na,false) ?_ ⟨c,dd++[x],by simpa using i1,i2,i3,i4,?_,hd6,by simp; omega,fun _=>by simp; omega,fun h=>by simp at h,?_,fun _ => ?_,i12,by simp only; omega⟩ (by simp only; omega)
     ·exact bU
     ·rw [aE,ar,List.take_add_one,i5,hl,hcx]; rfl
     ·simp only
      rw [if_neg (by omega),e1,hx2,i10']
     ·simp only
      rw [e1,hx2,← q1]; exact hg.2.1
    | true =>
     have hl:=i9 rfl
     simp only [if_true] at i1
     have hHb4:=aC i1
     have hg4:=aC c1
     refine dQ @c1 @c2 @c3 ?_
     refine bF (sq [0,1,2,3] (.read 4 (sq [5,6,7] (.read 8 (.eff 9 [4] (.eff 10 [] (sq [11,12] (.eff 13 [] .done)))))))) ?_
     refine eO @c1 @c2 @c3 @i1 ?_
     have hcells : #[Value.int IntKind.u64 x.k.tr,Value.slice a x.k.suf.length na,Value.slice b x.k.val.length nb]=x.cells.toArray:=by unfold KR.cells; rw [q1,q2]
     obtain ⟨w5,hw5⟩:∃ w5,w5=w4.alloc (.cells x.cells.toArray 117):=⟨_,rfl⟩
     rw [hcells,← hw5]
     have k5:bp w4 w5:=by rw [hw5]; exact aJ _
     obtain ⟨w6,hw6⟩:∃ w6,w6=(((w5.setCell ⟨g,dd.length * 3,none⟩ (.int .u64 x.k.tr)).setCell ⟨g,dd.length * 3+1,none⟩ x.sv).setCell ⟨g,dd.length * 3+2,none⟩ x.vv):=⟨_,rfl⟩
     have hclen:(dA c).length=n * 3:=by rw [ic,i4]
     have bridge:∀ q:aq,me prog #[57,57] 57 #[.slice (some ⟨g,0,none⟩) dd.length vcap,.slice (some ⟨w4.heap.size,0,none⟩) 1 1] q w5.drew=q (.slice (some ⟨g,0,none⟩) (dd.length+1) vcap) w6.drew:=by
      intro q
      have:=qz (k:=q) (w:=w5.drew) (by_:=56) (ty:=57) (news:=x.cells) (m:=1) (c:=1) (cap:=vcap) (b:=g) (off:=0) (n:=dd.length) (a:=⟨w4.heap.size,0,none⟩) rw57 rfl ?_ (gC hg) (by omega) ?_ ?_
      ·rw [Nat.zero_add] at this
       rw [hw6]; exact this
      ·intro j u hu
       rw [dS rfl,Nat.zero_add,hw5]
       rw [show (w4.alloc (Obj.cells x.cells.toArray 117)).drew.cell? ⟨w4.heap.size,j,none⟩=(w4.alloc (Obj.cells x.cells.toArray 117)).cell? ⟨w4.heap.size,j,none⟩ from rfl]
       refine bA ?_
       simpa using hu
      ·intro j hj
       have hj:j < 3:=hj
       have:(dA c)[dd.length * 3+j]? = some (dA c)[dd.length * 3+j]:=aD (by omega)
       rw [Nat.zero_add]
       exact ⟨_,(k5.cell (bW i2 this):w5.drew.cell? _=_)⟩
      ·intro o
       have:=cl (aX i2 k5 (fun _ _ _ h=>h)) rfl o
       exact this
     rw [bridge]
     have l1:=k5.cell c1
     have l2:=k5.cell c2
     have l3:=k5.cell c3
     have l4:=k5.cell i1
     have l5:∀ o,w5.frozen? ⟨Hb,o,none⟩=false:=fun o=>by rw [k5.frozen Hb o hHb4]; exact fH4 o
     have d1:dd.length * 3≠i * 3:=by omega
     have hxc:Value.agg x.cells.toArray = .agg [.int .u64 x.k.tr,.slice a x.k.suf.length na,.slice b x.k.val.length nb].toArray:=by unfold KR.cells; rw [q1,q2]
     rw [hxc]
     have m1:w6.cell? ⟨g,i * 3,none⟩=some (.int .u64 x.k.tr):=by rw [hw6]; exact bX @l1
     have m2:w6.cell? ⟨g,i * 3+1,none⟩=some (.slice a x.k.suf.length na):=by rw [hw6]; exact bX @l2
     have m3:w6.cell? ⟨g,i * 3+2,none⟩=some (.slice b x.k.val.length nb):=by rw [hw6]; exact bX @l3
     have m4:w6.cell? ⟨Hb,ho+1,none⟩=some (.slice (some ⟨g,0,none⟩) dd.length vcap):=by rw [hw6]; exact bX @l4
     have m5:∀ o,w6.frozen? ⟨Hb,o,none⟩=false:=fun o=>by rw [hw6]; exact bX @l5
     refine hJ @m1 @m2 @m3 @m4 @m5 ?_
     obtain ⟨w7,hw7⟩:∃ w7,w7=w6.setCell ⟨Hb,ho+1,none⟩ (.slice (some ⟨g,0,none⟩) (dd.length+1) vcap):=⟨_,rfl⟩
     rw [← hw7]
     have o6:w6.ownsRow 0 117 3 (.slice (some ⟨g,0,none⟩) n vcap) n (dA (c.set dd.length x)):=by
      have:=cR (cR (cR (aX i2 k5 (fun _ _ _ h=>h)) (dd.length * 3) (.int .u64 x.k.tr)) (dd.length * 3+1) x.sv) (dd.length * 3+2) x.vv
      rw [lx c dd.length x (by omega),← hw6] at this
      exact this
     have k56:Keep (fun b _=>b=g) w5 w6:=by
      rw [hw6]
      exact (((Keep.refl (fun b _=>b=g) w5).set (fun _=>rfl)).set (fun _=>rfl)).set (fun _=>rfl)
     have k67:Keep (fun b o=>b=Hb∧o=ho+1) w6 w7.drew:=by rw [hw7]; exact (bY ⟨rfl,rfl⟩).drew
     have k46:Keep (jG Hb (ho+1) (.slice (some ⟨g,0,none⟩) n vcap)) w4 w6:=k5.keep.trans (k56.mono fun b o _ h => .inr (by rw [h]; rfl))
     have kall:Keep (jG Hb (ho+1) (.slice (some ⟨g,0,none⟩) n vcap)) w2 w7.drew:=(i12.trans k46).trans (k67.mono fun b o _ h => .inl h)
     refine hK _ _ (i+1,.slice a x.k.suf.length na,true) ?_ ⟨c.set dd.length x,dd++[x],?_,aX o6 k67 fun g' hg' o h=>(hv1 g' hg').1 h.1,fun y hy => ?_,by simp [i4],?_,?_,by simp; omega,fun h=>by simp at h,fun _=>by simp; omega,?_,fun _ => ?_,kall,by simp only; omega⟩ (by simp only; omega)
     ·exact bU
     ·simp only [if_true,aE,ar]
      rw [hw7]; exact bX @m4
     ·rcases List.mem_or_eq_of_mem_set hy with h | h
      ·exact i3 y h
      ·subst h; exact hg
     ·rw [aE,ar,List.take_add_one,List.take_set_of_le (aF _),i5,List.getElem?_set_self (by omega)]; rfl
     ·simp only
      rw [List.drop_set_of_lt (by omega)]; exact hd6
     ·simp only
      rw [if_neg (by omega),e1,hx2,i10']
     ·simp only
      rw [e1,hx2,← q1]; exact hg.2.1
 ·have hi':¬ (i:Int) < n:=by omega
  obtain rfl:i=n:=by omega
  rw [hn,List.drop_length,show ∀ q,vS q []=[] from fun q=>by cases q <;> rfl,ao] at i10
  have hvb:∀ g',(Value.slice va i vcap).ownBlock=some g'→g'≠Hb:=fun g' hg'=>(hv1 g' hg').1
  have k24:Keep (jG Hb (ho+1) vs) w w4:=k02.tr i12 fun b o hb hm=>h3.m b o hb hm
  refine bu @hi' ?_
  refine mW (fun _:Unit=>[(1,.pointer (some ⟨Hb,ho,none⟩)),(3,.slice ka l.length cap),(9,.int .i64 di)]) (fun _ w'=>KOwn d w' Hb (ho+1) (.slice va dd.length vcap) dd∧Keep (jG Hb (ho+1) vs) w w') (by kernel_rfl) (by kernel_rfl) (fun K2 hK2 => ?_) ?_
  ·have gd:∀ x ∈ dd,x.good d:=fun x hx=>i3 x (by rw [← i5] at hx; exact List.mem_of_mem_take hx)
   have od:w4.ownsRow 0 117 3 (.slice va dd.length vcap) dd.length (dA dd):=by
    have:=rT i2 (show dd.length≤i by omega)
    rw [BO,i5] at this
    exact this
   cases sh with
   | true =>
    simp only [if_true] at i1
    refine bA ?_
    refine hK2 _ _ () ?_ ⟨⟨i1,od,gd⟩,k24⟩
    exact bU
   | false =>
    simp only [Bool.false_eq_true,if_false] at i1
    have hl:=i8 rfl
    refine dO @i1 @fH4 ?_
    refine hK2 _ _ () ?_ ⟨⟨?_,aX od (bY (M:=fun b o=>b=Hb∧o=ho+1) ⟨rfl,rfl⟩) fun g' hg' o h=>hvb g' (by rw [cS va i dd.length]; exact hg') h.1,gd⟩,k24.set (fun _ => .inl ⟨rfl,rfl⟩)⟩
    ·exact bU
    ·rw [hl]; exact bX @i1
  ·rintro e5 _ w5 ⟨t1,t2⟩
   have hcr':CoR snap l dd:=by rw [← i10]; exact hcr
   have hddl:dd.length≤l.length:=by
    have:dd.length=(c.take dd.length).length:=by rw [i5]
    rw [bE] at this
    omega
   rcases hdi with ⟨rfl,hdn⟩ | ⟨q,rfl,hdq,hql⟩
   ·refine bA ?_
    rw [hdn] at hk
    refine hk w5 (.slice va dd.length vcap) dd (by simpa using t1) hcr' hddl t2 fun g' hg'=>h3 g' ?_
    rw [cS va i dd.length]; exact hg'
   ·obtain ⟨x,hx⟩:∃ x,l[q]? = some x:=⟨l[q],aD hql⟩
    rw [hx] at hdq
    have hg:=hgood x (aO hx)
    have hka':=hkv (by omega)
    subst hka'
    have hgm:∀ o,¬ jG Hb (ho+1) vs gk o:=by
     rintro o (⟨h,_⟩ | h)
     ·exact hgk h
     ·exact (hne _ h).2.1 rfl
    obtain ⟨c1,c2,c3⟩:=(hka.keep t2 hgm) q x hx
    obtain ⟨a,na,b,nb,q1,q2⟩:=hg.form
    rw [q1] at c2
    rw [q2] at c3
    have hq0:(0:Int)≤q:=by omega
    have hq':(q:Int) < l.length:=by omega
    have c4:=t1.hd
    have hHb5:=aC c4
    have hgk5:=aC c1
    have fH5:∀ x,w5.frozen? ⟨Hb,x,none⟩=false:=fun x=>by rw [t2.frozen Hb x (aC hc)]; exact hf x
    refine bu @hq0 ?_
    refine bF (sq [0,1,2,3] (.read 4 (sq [5,6,7] (.read 8 (.eff 9 [4] (.eff 10 [] (sq [11,12] (.eff 13 [] .done)))))))) ?_
    refine hJ @c1 @c2 @c3 @c4 @hq' ?_
    have hcells : #[Value.int IntKind.u64 x.k.tr,Value.slice a x.k.suf.length na,Value.slice b x.k.val.length nb]=x.cells.toArray:=by unfold KR.cells; rw [q1,q2]
    have hxc:Value.agg x.cells.toArray = .agg [.int .u64 x.k.tr,.slice a x.k.suf.length na,.slice b x.k.val.length nb].toArray:=by unfold KR.cells; rw [q1,q2]
    rw [hcells]
    have hdl:dd.length < 1000000:=by
     have:dd.length=(c.take dd.length).length:=by rw [i5]
     rw [bE] at this
     omega
    have hvv:∀ g',(Value.slice va dd.length vcap).ownBlock=some g'→g'≠Hb∧g'≠gk:=fun g' hg'=>by
     have:=hv1 g' (by rw [cS va i dd.length]; exact hg')
     exact ⟨this.1,this.2.2 (by omega)⟩
    refine Hg t1.own hg hdl fun a6 cap6 w6 o6 k6 n6 => ?_
    have c1:=k6.some c1 (fun h=>(hvv _ h).2 rfl)
    have c2:=k6.some c2 (fun h=>(hvv _ h).2 rfl)
    have c3:=k6.some c3 (fun h=>(hvv _ h).2 rfl)
    have c4:=k6.some c4 (fun h=>(hvv _ h).1 rfl)
    have fH6:∀ x,w6.frozen? ⟨Hb,x,none⟩=false:=fun x=>by rw [k6.frozen Hb x hHb5]; exact fH5 x
    rw [hxc]
    refine hJ @c1 @c2 @c3 @c4 @fH6 ?_
    have n06:cZ w vs (.slice a6 (dd.length+1) cap6):=by
     refine cZ.trans (v2 := .slice va dd.length vcap) (fun g' hg'=>h3 g' ?_) n6 t2.size
     rw [cS va i dd.length]; exact hg'
    refine hk _ (.slice a6 (dd.length+1) cap6) dd ⟨?_,?_,?_⟩ hcr' hddl ?_ n06
    ·exact bX @c4
    ·rw [← hdq]
     simp only [Option.toList_some,aE,ar]
     refine aX o6 ((bY (M:=fun b o=>b=Hb∧o=ho+1) ⟨rfl,rfl⟩)) fun g' hg' o h => ?_
     rcases n6 g' hg' with h' | h'
     ·exact (hvv g' h').1 h.1
     ·have:=h.1; omega
    ·intro y hy
     rw [← hdq] at hy
     rcases aS.1 hy with h | h
     ·exact t1.good y h
     ·simp only [Option.toList_some,aM] at h
      subst h; exact hg
    ·exact (t2.tr k6 fun b o hb hm=>h3.m b o hb (.inr (by rw [cS va i dd.length]; exact hm))).set (fun _ => .inl ⟨rfl,rfl⟩)
end
end Go.Proofs
end
