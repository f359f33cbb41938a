/- Parts of the proof: I, H, L, Q. -/
import Derived.Test.YtlmoafgebiffaaaGreatDoorV06
set_option linter.all false
set_option maxRecDepth 10000
section
namespace Go.E
open Go Go.Proofs.Tryz
structure K where
 tr:Nat
 suf:Bytes
 val:Bytes
 deriving DecidableEq,Inhabited
structure Sp where
 s:Bytes
 e:Bytes
 ks:List K
 deriving DecidableEq,Inhabited
def rY:Value→Bool
 | .slice (some _) _ _=>true
 | _=>false
def jt (w:World) (b o:Nat) (x:K):Prop :=
 w.cell? ⟨b,o,none⟩=some (.int .u64 x.tr)∧x.tr < 18446744073709551616∧(∃ v,w.cell? ⟨b,o+1,none⟩=some v∧dR w v x.suf)∧∃ v,w.cell? ⟨b,o+2,none⟩=some v∧dR w v x.val
def xC (w:World) (b o:Nat) (x:Sp):Prop :=
 (∃ v,w.cell? ⟨b,o,none⟩=some v∧rY v=true∧dR w v x.s)∧(∃ v,w.cell? ⟨b,o+1,none⟩=some v∧rY v=true∧dR w v x.e) ∧
 (∃ v,w.cell? ⟨b,o+2,none⟩=some v∧fD jt 3 w v x.ks)∧w.cell? ⟨b,o+3,none⟩=some (.int .i8 0)
theorem jt.mono:DV jt:=fun _ _ _ _ _ hi ⟨h1,h2,⟨v,h3,h4⟩,u,h5,h6⟩=>⟨hi _ _ _ h1,h2,⟨v,hi _ _ _ h3,h4.inc hi⟩,u,hi _ _ _ h5,h6.inc hi⟩
theorem xC.mono:DV xC:=fun _ _ _ _ _ hi ⟨⟨v,h1,h2,h3⟩,⟨u,h4,h5,h6⟩,⟨t,h7,h8⟩,h9⟩ =>
 ⟨⟨v,hi _ _ _ h1,h2,h3.inc hi⟩,⟨u,hi _ _ _ h4,h5,h6.inc hi⟩,⟨t,hi _ _ _ h7,h8.inc jt.mono hi⟩,hi _ _ _ h9⟩
def kW (w:World) (b o:Nat) (L:List Sp):Prop:=∀ j,j < L.length→xC w b (o+j * 4) L[j]!
theorem kW.inc {w w2:World} {b o:Nat} {L:List Sp} (h:kW w b o L) (hi:cM w w2):kW w2 b o L:=fun j hj=>xC.mono _ _ _ _ _ hi (h j hj)
structure IterAt (w:World) (I b o n:Nat) (idx:Int):Prop where
 c0:w.cell? ⟨I,0,none⟩=some (.func (.func 85) #[] #[])
 c1:∃ p c,w.cell? ⟨I,1,none⟩=some (.slice p n c)∧(0 < n→p=some ⟨b,o,none⟩)
 c2:w.cell? ⟨I,2,none⟩=some (.int .i64 idx)
 fz:∀ o,w.frozen? ⟨I,o,none⟩=false
def Da (I:Nat):Nat→Nat→Prop:=fun b o=>b=I∧o=2
theorem IterAt.keep {w w2:World} {I b o n:Nat} {idx:Int} {M:Nat→Nat→Prop} (h:IterAt w I b o n idx) (hk:Keep M w w2) (hm:∀ o,¬ M I o):IterAt w2 I b o n idx where
 c0:=hk.some h.c0 (hm _)
 c1:=by obtain ⟨p,c,h1,h2⟩:=h.c1; exact ⟨p,c,hk.some h1 (hm _),h2⟩
 c2:=hk.some h.c2 (hm _)
 fz o:=by rw [hk.frozen I o (aC h.c0)]; exact h.fz o
theorem IterAt.set {w:World} {I b o n:Nat} {idx:Int} (h:IterAt w I b o n idx) (i:Int):IterAt (w.setCell ⟨I,2,none⟩ (.int .i64 i)) I b o n i where
 c0:=by rw [fk (by decide)]; exact h.c0
 c1:=by obtain ⟨p,c,h1,h2⟩:=h.c1; exact ⟨p,c,by rw [fk (by decide)]; exact h1,h2⟩
 c2:=by rw [cJ,h.c2]; rfl
 fz o:=by rw [World.frozen?_setCell]; exact h.fz o
theorem IterAt.drew {w:World} {I b o n:Nat} {idx:Int} (h:IterAt w I b o n idx):IterAt w.drew I b o n idx:=⟨h.c0,h.c1,h.c2,h.fz⟩
def AI (b o j:Nat):Value := .pointer (some ⟨b,o+j * 4,none⟩)
end Go.E
namespace Go.Proofs
open Go Go.E Go.Proofs.Tryz
section
variable {k:aq} {w:World} {I b o n:Nat} {idx:Int}
def lq (n:Nat) (idx:Int):Int:=if (n:Int)≤idx then idx else idx+1
def qL (b o n:Nat) (idx:Int):Value:=if 0≤idx∧idx < n then AI b o idx.toNat else .pointer none
theorem vO (h:IterAt w I b o n idx) (h0 : -1≤idx) (hn:n < 4611686018427387904) (h1:idx≤n)
    (hk:∀ w',IterAt w' I b o n (lq n idx)→Keep (Da I) w w'→k (qL b o n (lq n idx)) w'):ai prog 242 #[.pointer (some ⟨I,0,none⟩)] k w:=by
 obtain ⟨p,c,e1,e2⟩:=h.c1
 have e3:=h.c2
 have hf:=h.fz
 refine al [.tmp 2] func242 ?_
 refine bA ?_
 refine bF (sq [0,1,2] (.read 3 (sq [4,5,6] (.read 7 (sq [8,9] .done))))) ?_
 by_cases hc:(n:Int)≤idx
 ·refine dQ @e1 @e3 @hc ?_
  have e:lq n idx=idx:=by unfold lq; rw [if_pos hc]
  rw [e] at hk
  have:=hk w.drew h.drew (Keep.refl _ w).drew
  rwa [qL,if_neg (by omega)] at this
 ·have e:lq n idx=idx+1:=by unfold lq; rw [if_neg hc]
  rw [e] at hk
  refine eO @e1 @e3 @hc @hf ?_
  refine bF (sq [0,1,2] (.read 3 (sq [4,5,6] (.read 7 (sq [8,9] .done))))) ?_
  by_cases hc2:(n:Int)≤idx+1
  ·refine eO @e1 @e3 @hc2 @hf ?_
   have:=hk _ (h.set (idx+1)).drew.drew ((Keep.refl (Da I) w).set (fun _=>⟨rfl,rfl⟩)).drew.drew
   rwa [qL,if_neg (by omega)] at this
  ·have hp:=e2 (by omega)
   subst hp
   refine eO @e1 @e3 @hc2 @hf ?_
   refine bF (sq [0,1,2] (.read 3 (sq [4,5,6] (.read 7 (sq [8,9] .done))))) ?_
   obtain ⟨j,hj⟩:∃ j:Nat,idx+1=j:=⟨(idx+1).toNat,by omega⟩
   refine hJ @e1 @e3 @hc2 @hf @hj ?_
   have:=hk _ (h.set (idx+1)).drew.drew.drew ((Keep.refl (Da I) w).set (fun _=>⟨rfl,rfl⟩)).drew.drew.drew
   rw [qL,if_pos (by omega),AI] at this
   rw [hj,cH] at this
   exact this
theorem tP (h:IterAt w I b o n idx) (hn:n < 4611686018427387904)
    (hk:∀ w',IterAt w' I b o n (if n=0 then idx else 0)→Keep (Da I) w w'→k (if n=0 then .pointer none else AI b o 0) w'):ai prog 240 #[.pointer (some ⟨I,0,none⟩)] k w:=by
 obtain ⟨p,c,e1,e2⟩:=h.c1
 have e3:=h.c2
 have hf:=h.fz
 refine al [.tmp 2] func240 ?_
 by_cases hc:n=0
 ·have hc':((n:Int) == 0)=true:=by simp [hc]
  refine dQ @e1 @e3 @hc' ?_
  have:=hk w (by simpa [hc] using h) (Keep.refl _ w)
  simpa only [hc,if_true] using this
 ·have hc':((n:Int) == 0)=false:=by simp [hc]
  have hp:=e2 (by omega)
  subst hp
  refine eO @e1 @e3 @hc' @hf ?_
  refine bF (sq [0,1,2] (.read 3 (sq [4,5,6] (.read 7 (sq [8,9] .done))))) ?_
  have z:(0:Int).toNat=0:=rfl
  refine qh @e1 @e3 @hf @z @Nat.zero_mul @Nat.add_zero ?_
  have:=hk _ (by simp only [hc,if_false]; exact (h.set 0).drew) ((Keep.refl (Da I) w).set (fun _=>⟨rfl,rfl⟩)).drew
  simpa only [hc,if_false,AI,Nat.zero_mul,Nat.add_zero] using this
theorem jj (hk:k .nilIface w):ai prog 239 #[.pointer (some ⟨I,0,none⟩)] k w:=by
 refine al [.tmp 2] func239 ?_
 refine bA ?_
 exact hk
def Wf (L:List Sp):Prop:=(∀ i,i < L.length→L[i]!.s < L[i]!.e)∧∀ i j,i < j→j < L.length→L[i]!.e≤L[j]!.s
theorem Wf.ends {L:List Sp} (h:Wf L) {i j:Nat} (hij:i≤j) (hj:j < L.length):L[i]!.e≤L[j]!.e:=by
 rcases aH i j with h1 | h1
 ·have:=h.2 i j h1 hj
  have:=h.1 j hj
  grind
 ·obtain rfl:i=j:=by omega
  grind
theorem Wf.starts {L:List Sp} (h:Wf L) {i j:Nat} (hij:i≤j) (hj:j < L.length):L[i]!.s≤L[j]!.s:=by
 rcases aH i j with h1 | h1
 ·have:=h.2 i j h1 hj
  have:=h.1 i (by omega)
  grind
 ·obtain rfl:i=j:=by omega
  grind
end
end Go.Proofs
end
section
namespace Go.E
open Go Go.Sort Go.Proofs.Tryz
theorem pG {P:Program} {t:TypeId} {n:Nat} (h:jn P t=some n) {a:Option Addr} {len cap:Nat} {kd:IntKind} {i:Int} {q:Value→Prop} (c1:0≤i) (c2:i≤cap) :
    cz P t (.slice a len cap) none (some (.int kd i)) none q=q (.slice a i.toNat cap):=by
 rw [qH h rfl rfl (by simpa [bd] using c1) (by simpa [bd] using c2) (by simp [bd]) (by simp)]
 simp [bd]
structure HeapAt (w:World) (H h U o:Nat) (rev:Bool) (hp:Array Nat):Prop where
 c0:w.cell? ⟨H,h,none⟩=some (.func (.func 85) #[] #[])
 c1:w.cell? ⟨H,h+1,none⟩=some (.bool rev)
 c2:w.cell? ⟨H,h+2,none⟩=some (.slice (some ⟨U,o+50,none⟩) hp.size 10)
 ptr:∀ j,j < hp.size→w.cell? ⟨U,o+50+j * 2,none⟩=some (.pointer (some ⟨U,o+10+hp[j]! * 4+1,none⟩))
 ix:∀ j,j < hp.size→w.cell? ⟨U,o+50+j * 2+1,none⟩=some (.int .i64 hp[j]!)
 room:hp.size≤10
 lv:∀ j,j < hp.size→hp[j]! < 10
 fU:∀ o,w.frozen? ⟨U,o,none⟩=false
 fH:∀ o,w.frozen? ⟨H,o,none⟩=false
 ne:H≠U
 ex:∀ x,o+50≤x→x < o+70→∃ v,w.cell? ⟨U,x,none⟩=some v
theorem eX {w:World} {b o b2 o2:Nat} {u:Value} (h:∃ v,w.cell? ⟨b,o,none⟩=some v):∃ v,(w.setCell ⟨b2,o2,none⟩ u).cell? ⟨b,o,none⟩=some v:=by
 obtain ⟨v,h⟩:=h
 by_cases he:b2=b∧o2=o
 ·obtain ⟨rfl,rfl⟩:=he
  exact ⟨u,by rw [cJ,h]; rfl⟩
 ·refine ⟨v,?_⟩
  rw [World.cell?_setCell_other w _ _ u (fun e=>he (by cases e; exact ⟨rfl,rfl⟩)),h]
def gv (d w:World) (U o:Nat) (κ:Nat→Bytes) (hp:Array Nat) (n:Nat):Prop:=∀ j,j < n→∃ v,w.cell? ⟨U,o+10+hp[j]! * 4+2,none⟩=some v∧dR d v (κ hp[j]!)
def BJ (U o:Nat):Nat→Nat→Prop:=fun b x=>b=U∧o+50≤x∧x < o+70
def jm (rev:Bool) (κ:Nat→Bytes) (x y:Nat):Bool:=if rev then decide (κ x < κ y) else decide (κ y < κ x)
theorem qu (rev:Bool) (κ:Nat→Bytes):SWO (jm rev κ) where
 irrefl x:=by unfold jm; cases rev <;> simp <;> grind
 trans x y z:=by unfold jm; cases rev <;> simp <;> grind
 ntrans x y z:=by unfold jm; cases rev <;> simp <;> grind
theorem HeapAt.drew {w:World} {H h U o:Nat} {rev:Bool} {hp:Array Nat} (g:HeapAt w H h U o rev hp):HeapAt w.drew H h U o rev hp:=⟨g.c0,g.c1,g.c2,g.ptr,g.ix,g.room,g.lv,g.fU,g.fH,g.ne,g.ex⟩
theorem gv.keep {d w w2:World} {U o n:Nat} {κ:Nat→Bytes} {hp:Array Nat} {M:Nat→Nat→Prop} (g:gv d w U o κ hp n) (hk:Keep M w w2) (hm:∀ j,j < n→¬ M U (o+10+hp[j]! * 4+2)):gv d w2 U o κ hp n:=fun j hj=>by
 obtain ⟨v,h1,h2⟩:=g j hj
 exact ⟨v,hk.some h1 (hm j hj),h2⟩
theorem gv.swp {d w:World} {U o n:Nat} {κ:Nat→Bytes} {hp:Array Nat} (g:gv d w U o κ hp n) {i j:Nat} (hi:i < n) (hj:j < n) (hn:n≤hp.size):gv d w U o κ (swp hp i j) n:=fun k hk=>by
 rw [swp_get hp (aL hi hn) (aL hj hn)]
 split
 ·exact g i hi
 ·split
  ·exact g j hj
  ·exact g k hk
end Go.E
namespace Go.Proofs
open Go Go.E Go.Sort Go.Proofs.Tryz
section
variable {k:aq} {w d:World} {H h U o:Nat} {rev:Bool} {hp:Array Nat} {κ:Nat→Bytes}
theorem iY (g:HeapAt w H h U o rev hp) (hk:k (.int .i64 hp.size) w):ai prog 177 #[.pointer (some ⟨H,h,none⟩)] k w:=by
 have c2:=g.c2
 refine al [.tmp 2] func177 ?_
 refine bu @c2 ?_
 exact hk
theorem jD {n:Nat} (g:HeapAt w H h U o rev hp) (gk:gv d w U o κ hp n) (hn:n≤hp.size) (hd:cM d w) {x y:Int} (i j:Nat) (hx:x=i) (hy:y=j) (hi:i < n) (hj:j < n)
    (hk:k (.bool (jm rev κ hp[j]! hp[i]!)) w.drew):ai prog 205 #[.pointer (some ⟨H,h,none⟩),.int .i64 x,.int .i64 y] k w:=by
 subst hx; subst hy
 have c0:=g.c0
 have c1:=g.c1
 have c2:=g.c2
 have hi2:i < hp.size:=by omega
 have hj2:j < hp.size:=by omega
 have p1:=g.ptr i hi2
 have p2:=g.ptr j hj2
 obtain ⟨v1,k1,b1⟩:=gk i hi
 obtain ⟨v2,k2,b2⟩:=gk j hj
 refine al [.tmp 6] func205 ?_
 refine bA ?_
 refine bF (sq [0,1,2] (.read 3 (sq [4,5,6] (.read 7 (sq [8,9] (.read 10 (sq [11,12,13] (.read 14 (sq [15,16,17] (.read 18 (sq [19,20] (.read 21 (sq [22,23] .done))))))))))))) ?_
 refine vJ @c0 @c1 @c2 @p1 @p2 @k1 @k2 ?_
 refine dG (b1.inc hd) (b2.inc hd) ?_
 refine dQ @c0 @c1 @c2 ?_
 cases rev with
 | true =>
  refine bA ?_
  have e:decide ((0:Int) < eH (κ hp[i]!) (κ hp[j]!))=jm true κ hp[j]! hp[i]! := by unfold jm; simp [nq]
  rw [e]; exact hk
 | false =>
  refine bA ?_
  have e:decide (eH (κ hp[i]!) (κ hp[j]!) < 0)=jm false κ hp[j]! hp[i]! := by unfold jm; simp [fS]
  rw [e]; exact hk
theorem jE (g:HeapAt w H h U o rev hp) {x y:Int} (i j:Nat) (hx:x=i) (hy:y=j) (hi:i < hp.size) (hj:j < hp.size)
    (hk:∀ w',HeapAt w' H h U o rev (swp hp i j)→Keep (BJ U o) w w'→k (.tuple #[]) w'):ai prog 202 #[.pointer (some ⟨H,h,none⟩),.int .i64 x,.int .i64 y] k w:=by
 subst hx; subst hy
 have c2:=g.c2
 have fU:=g.fU
 have p1:=g.ptr i hi
 have p2:=g.ptr j hj
 have x1:=g.ix i hi
 have x2:=g.ix j hj
 have ne:=g.ne
 have hr:=g.room
 refine al [] func202 ?_
 refine bF (sq [0,1,2] (.read 3 (sq [4,5,6,7] (.read 8 (sq [9,10,11,12] (.read 13 (sq [14,15] (.read 16 (sq [17,18,19] (.read 20 (sq [21,22] (.read 23 (sq [24] (.eff 25 [] (sq [26] (.eff 27 [] .done)))))))))))))))) ?_
 have rest:∀ W:World,(∀ x o',x≠U→W.cell? ⟨x,o',none⟩=w.cell? ⟨x,o',none⟩)→(∀ x o',W.frozen? ⟨x,o',none⟩=w.frozen? ⟨x,o',none⟩) →
     (∀ t,t < hp.size→W.cell? ⟨U,o+50+t * 2,none⟩=some (.pointer (some ⟨U,o+10+(swp hp i j)[t]! * 4+1,none⟩))∧W.cell? ⟨U,o+50+t * 2+1,none⟩=some (.int .i64 (swp hp i j)[t]!))→(∀ x,o+50≤x→x < o+70→∃ v,W.cell? ⟨U,x,none⟩=some v) →
     HeapAt W H h U o rev (swp hp i j):=by
  intro W h1 h2 h3 h4
  refine ⟨by rw [h1 _ _ ne]; exact g.c0,by rw [h1 _ _ ne]; exact g.c1,by rw [h1 _ _ ne,swp_size]; exact g.c2,fun t ht=>(h3 t (by rw [swp_size] at ht; exact ht)).1,fun t ht=>(h3 t (by rw [swp_size] at ht; exact ht)).2,by rw [swp_size]; exact hr,?_,fun o'=>by rw [h2]; exact g.fU _,fun o'=>by rw [h2]; exact g.fH _,ne,h4⟩
  intro t ht
  rw [swp_size] at ht
  rw [swp_get hp hi hj]
  split
  ·exact g.lv i hi
  ·split
   ·exact g.lv j hj
   ·exact g.lv t ht
 by_cases hij:i=j
 ·subst hij
  refine eO @c2 @p1 @x1 @fU ?_
  refine hk _ (rest _ ?_ ?_ ?_ ?_) ?_
  rotate_left 3
  ·intro x h1 h2
   simp only [World.cell?_drew]
   exact eX (eX (eX (eX (g.ex x h1 h2))))
  rotate_left 1
  ·intro x o' hx
   have hx:=Ne.symm hx
   exact bX @hx
  ·intro x o'; simp (disch:=first | exact dZ | fail) only [go_sem]
  ·intro t ht
   rw [swp_get hp hi hi]
   by_cases t1:t=i
   ·subst t1
    constructor
    ·exact bX @p1
    ·exact bX @x1
   ·have q1:=g.ptr t ht
    have q2:=g.ix t ht
    rw [if_neg t1,if_neg t1]
    constructor
    ·exact bX @q1
    ·exact bX @q2
  ·exact ((((((Keep.refl (BJ U o) w).set (fun _=>⟨rfl,by omega,by omega⟩)).set (fun _=>⟨rfl,by omega,by omega⟩)).set (fun _=>⟨rfl,by omega,by omega⟩)).set (fun _=>⟨rfl,by omega,by omega⟩))).drew
 ·have d1:o+50+i * 2≠o+50+j * 2:=by omega
  refine qh @c2 @p1 @p2 @x1 @x2 @fU ?_
  refine hk _ (rest _ ?_ ?_ ?_ ?_) ?_
  rotate_left 3
  ·intro x h1 h2
   simp only [World.cell?_drew]
   exact eX (eX (eX (eX (g.ex x h1 h2))))
  rotate_left 1
  ·intro x o' hx
   have hx:=Ne.symm hx
   exact bX @hx
  ·intro x o'; simp (disch:=first | exact dZ | fail) only [go_sem]
  ·intro t ht
   rw [swp_get hp hi hj]
   by_cases t1:t=j
   ·subst t1
    rw [if_pos rfl]
    constructor
    ·exact bX @p2
    ·exact bX @x2
   ·rw [if_neg t1]
    by_cases t2:t=i
    ·subst t2
     rw [if_pos rfl]
     constructor
     ·exact bX @p1
     ·exact bX @x1
    ·have q1:=g.ptr t ht
     have q2:=g.ix t ht
     rw [if_neg t2]
     constructor
     ·exact bX @q1
     ·exact bX @q2
  ·exact ((((((Keep.refl (BJ U o) w).set (fun _=>⟨rfl,by omega,by omega⟩)).set (fun _=>⟨rfl,by omega,by omega⟩)).set (fun _=>⟨rfl,by omega,by omega⟩)).set (fun _=>⟨rfl,by omega,by omega⟩))).drew
theorem kX (g:HeapAt w H h U o rev hp) {n:Nat} (gk:gv d w U o κ hp n) (hd:cM d w) (hU:cj d U) {x y:Int} (i:Nat) (hx:x=i) (hy:y=n) (hi:i≤hp.size) (hn:n≤hp.size)
    (hk:∀ w' b,HeapAt w' H h U o rev (siftDown (jm rev κ) n 0 i hp)→gv d w' U o κ (siftDown (jm rev κ) n 0 i hp) n→Keep (BJ U o) w w'→k (.bool b) w') :
    ai prog 201 #[.pointer (some ⟨H,h,none⟩),.int .i64 x,.int .i64 y] k w:=by
 subst hx; subst hy
 have hr:=g.room
 refine al [.tmp 6] func201 ?_
 refine bA ?_
 refine jf (fun j:Nat=>[(1,.int .i64 i),(7,.int .i64 j)]) (fun _ w'=>HeapAt w' H h U o rev (siftDown (jm rev κ) n 0 i hp)∧gv d w' U o κ (siftDown (jm rev κ) n 0 i hp) n∧Keep (BJ U o) w w') (by kernel_rfl) (fun K hK => ?_) ?_
 ·refine bZ (fun x:Nat × Array Nat=>[(0,.pointer (some ⟨H,h,none⟩)),(1,.int .i64 i),(2,.int .i64 n),(7,.int .i64 x.1)]) (fun x w'=>HeapAt w' H h U o rev x.2∧gv d w' U o κ x.2 n∧Keep (BJ U o) w w'∧x.2.size=hp.size∧x.1≤hp.size∧siftDown (jm rev κ) n 0 x.1 x.2=siftDown (jm rev κ) n 0 i hp) (fun x _=>n - x.1) (i,hp) (by kernel_rfl) ?_ ⟨g,gk,Keep.refl _ _,rfl,hi,rfl⟩ ?_
  ·exact bU
  rintro K2 e2 ⟨r,h1⟩ w1 ⟨g1,g2,g3,g4,g5,g6⟩ hK2
  simp only at g1 g2 g3 g4 g5 g6
  have hinc:cM d w1:=hd.keep g3 (fun x o' hx=>by rw [hx.1]; exact hU o')
  by_cases hc:2 * r+1 < n
  ·have hc':¬ (n:Int)≤2 * r+1:=by omega
   have hc0:¬ (2 * r+1:Int) < 0:=by omega
   by_cases hc2:2 * r+2 < n
   ·have hc2':(2 * r+1+1:Int) < n:=by omega
    refine dQ @hc' @hc0 @hc2' ?_
    refine jD g1 g2 (by omega) hinc (2 * r+2) (2 * r+1) (by omega) (by omega) (by omega) (by omega) ?_
    cases hl:jm rev κ h1[2 * r+1]! h1[2 * r+2]! with
    | true =>
     refine bA ?_
     refine jD (hp:=h1) (U:=U) (o:=o) (rev:=rev) (κ:=κ) (d:=d) (by first | exact g1 | exact g1.drew) (n:=n) (by exact g2) (by omega) (by exact hinc) (2 * r+2) r (by omega) (by omega) (by omega) (by omega) ?_
     cases hs:jm rev κ h1[r]! h1[2 * r+2]! with
     | true =>
      refine bA ?_
      refine jE (hp:=h1) (U:=U) (o:=o) (rev:=rev) (by first | exact g1.drew.drew | exact g1.drew) r (2 * r+2) (by omega) (by omega) (by omega) (by omega) fun w3 q1 q2 => ?_
      refine bA ?_
      have q3:Keep (BJ U o) w1 w3:=by first | exact ((Keep.refl _ w1).drew.drew.trans q2) | exact ((Keep.refl _ w1).drew.trans q2)
      refine hK2 _ _ (2 * r+2,swp h1 r (2 * r+2)) ?_ ⟨q1,(g2.swp (by omega) (by omega) (by omega)).keep q3 (fun t ht hx => ?_),g3.trans q3,by simp [swp,g4],by simp only; omega,?_⟩ (by simp only; omega)
      ·exact bU
      ·have:=q1.lv t (by rw [swp_size]; omega)
       have hx1:=hx.2.1
       omega
      ·rw [← g6]
       conv=>rhs; unfold siftDown
       have hne:¬ 2 * r+1 ≥ n:=by omega
       simp [hne,hs,hc2,hl]
     | false =>
      refine bA ?_
      have e1:siftDown (jm rev κ) n 0 r h1=h1:=by
       unfold siftDown
       have hne:¬ 2 * r+1 ≥ n:=by omega
       simp [hne,hs,hc2,hl]
      refine hK _ _ r ?_ ?_
      ·exact bU
      ·rw [← g6,e1]; first | exact ⟨g1.drew.drew,g2,g3.drew.drew⟩ | exact ⟨g1.drew,g2,g3.drew⟩
    | false =>
     refine bA ?_
     refine jD (hp:=h1) (U:=U) (o:=o) (rev:=rev) (κ:=κ) (d:=d) (by first | exact g1 | exact g1.drew) (n:=n) (by exact g2) (by omega) (by exact hinc) (2 * r+1) r (by omega) (by omega) (by omega) (by omega) ?_
     cases hs:jm rev κ h1[r]! h1[2 * r+1]! with
     | true =>
      refine bA ?_
      refine jE (hp:=h1) (U:=U) (o:=o) (rev:=rev) (by first | exact g1.drew.drew | exact g1.drew) r (2 * r+1) (by omega) (by omega) (by omega) (by omega) fun w3 q1 q2 => ?_
      refine bA ?_
      have q3:Keep (BJ U o) w1 w3:=by first | exact ((Keep.refl _ w1).drew.drew.trans q2) | exact ((Keep.refl _ w1).drew.trans q2)
      refine hK2 _ _ (2 * r+1,swp h1 r (2 * r+1)) ?_ ⟨q1,(g2.swp (by omega) (by omega) (by omega)).keep q3 (fun t ht hx => ?_),g3.trans q3,by simp [swp,g4],by simp only; omega,?_⟩ (by simp only; omega)
      ·exact bU
      ·have:=q1.lv t (by rw [swp_size]; omega)
       have hx1:=hx.2.1
       omega
      ·rw [← g6]
       conv=>rhs; unfold siftDown
       have hne:¬ 2 * r+1 ≥ n:=by omega
       simp [hne,hs,hc2,hl]
     | false =>
      refine bA ?_
      have e1:siftDown (jm rev κ) n 0 r h1=h1:=by
       unfold siftDown
       have hne:¬ 2 * r+1 ≥ n:=by omega
       simp [hne,hs,hc2,hl]
      refine hK _ _ r ?_ ?_
      ·exact bU
      ·rw [← g6,e1]; first | exact ⟨g1.drew.drew,g2,g3.drew.drew⟩ | exact ⟨g1.drew,g2,g3.drew⟩
   ·have hc2':¬ (2 * r+1+1:Int) < n:=by omega
    have hc3:¬ (2 * r+1+1 < n):=by omega
    refine dQ @hc' @hc0 @hc2' ?_
    refine jD (hp:=h1) (U:=U) (o:=o) (rev:=rev) (κ:=κ) (d:=d) (by first | exact g1 | exact g1.drew) (n:=n) (by exact g2) (by omega) (by exact hinc) (2 * r+1) r (by omega) (by omega) (by omega) (by omega) ?_
    cases hs:jm rev κ h1[r]! h1[2 * r+1]! with
    | true =>
     refine bA ?_
     refine jE (hp:=h1) (U:=U) (o:=o) (rev:=rev) (by first | exact g1.drew.drew | exact g1.drew) r (2 * r+1) (by omega) (by omega) (by omega) (by omega) fun w3 q1 q2 => ?_
     refine bA ?_
     have q3:Keep (BJ U o) w1 w3:=by first | exact ((Keep.refl _ w1).drew.drew.trans q2) | exact ((Keep.refl _ w1).drew.trans q2)
     refine hK2 _ _ (2 * r+1,swp h1 r (2 * r+1)) ?_ ⟨q1,(g2.swp (by omega) (by omega) (by omega)).keep q3 (fun t ht hx => ?_),g3.trans q3,by simp [swp,g4],by simp only; omega,?_⟩ (by simp only; omega)
     ·exact bU
     ·have:=q1.lv t (by rw [swp_size]; omega)
      have hx1:=hx.2.1
      omega
     ·rw [← g6]
      conv=>rhs; unfold siftDown
      have hne:¬ 2 * r+1 ≥ n:=by omega
      simp [hne,hs,hc3]
    | false =>
     refine bA ?_
     have e1:siftDown (jm rev κ) n 0 r h1=h1:=by
      unfold siftDown
      have hne:¬ 2 * r+1 ≥ n:=by omega
      simp [hne,hs,hc3]
     refine hK _ _ r ?_ ?_
     ·exact bU
     ·rw [← g6,e1]; first | exact ⟨g1.drew.drew,g2,g3.drew.drew⟩ | exact ⟨g1.drew,g2,g3.drew⟩
  ·have hc':(n:Int)≤2 * r+1:=by omega
   refine bu @hc' ?_
   have e1:siftDown (jm rev κ) n 0 r h1=h1:=by
    unfold siftDown
    simp [show n≤2 * r+1 by omega]
   refine hK _ _ r ?_ ?_
   ·exact bU
   ·rw [← g6,e1]; exact ⟨g1,g2,g3⟩
 rintro e3 j w1 ⟨g1,g2,g3⟩
 refine bA ?_
 exact hk _ _ g1 g2 g3
def Fi (rev:Bool) (κ:Nat→Bytes) (hp:Array Nat):Prop:=∀ i,i < hp.size→Ok (jm rev κ) 0 hp.size hp i
theorem Fi.root {rev:Bool} {κ:Nat→Bytes} {hp:Array Nat} (h:Fi rev κ hp) {j:Nat} (hj:j < hp.size):jm rev κ hp[0]! hp[j]! = false:=by
 have:=root_max (F:=0) (hi:=hp.size) (d:=hp) (qu rev κ) h j j (aF _) hj
 simpa using this
theorem xD (g:HeapAt w H h U o rev hp) (gk:gv d w U o κ hp hp.size) (hd:cM d w) (hU:cj d U) (h0:0 < hp.size)
    (hk:∀ w',HeapAt w' H h U o rev (siftDown (jm rev κ) hp.size 0 0 hp)→gv d w' U o κ (siftDown (jm rev κ) hp.size 0 0 hp) hp.size→Keep (BJ U o) w w'→k (.tuple #[]) w') :
    ai prog 198 #[.pointer (some ⟨H,h,none⟩),.int .i64 0] k w:=by
 refine al [] func198 ?_
 refine bA ?_
 refine iY g ?_
 refine bA ?_
 refine kX (κ:=κ) g gk hd hU 0 rfl rfl (aT _) (aF _) fun w2 b g1 g2 g3 => ?_
 cases b with
 | true =>
  refine bA ?_
  exact hk _ g1 g2 g3
 | false =>
  refine bA ?_
  refine al [] func203 ?_
  refine bA ?_
  refine bZ (fun _:Unit=>[(0,.pointer (some ⟨H,h,none⟩)),(1,.int .i64 0)]) (fun _ w'=>w'=w2) (fun _ _=>0) () (by kernel_rfl) ?_ rfl ?_
  ·exact bU
  rintro K e _ w3 hw hK
  have hw:=hw.symm
  subst hw
  have two:(2:Int)≠0:=by decide
  have z:((0:Int) - 1).tdiv 2=0:=rfl
  simp (disch:=first | exact dZ | fail) only [go_sem,fu two,z]
  exact hk _ g1 g2 g3
theorem vP (g:HeapAt w H h U o rev hp) (gk:gv d w U o κ hp hp.size) (hd:cM d w) (hU:cj d U)
    (hk:∀ w' hp',HeapAt w' H h U o rev hp'→gv d w' U o κ hp' hp.size→Fi rev κ hp'→PermIn 0 hp.size hp hp'→Keep (BJ U o) w w'→k (.tuple #[]) w') :
    ai prog 196 #[.pointer (some ⟨H,h,none⟩)] k w:=by
 have hr:=g.room
 have two:(2:Int)≠0:=by decide
 have z:((hp.size:Int)).tdiv 2=(hp.size / 2:Nat):=oC _ 2
 have hb:=build (qu rev κ) hp.size 0 (hp.size / 2) hp (by omega) (fun i h1 h2 c hc hc2=>by omega)
 refine al [] func196 ?_
 refine bA ?_
 refine iY g ?_
 simp (disch:=first | exact dZ | fail) only [go_sem,fu two,z]
 refine bZ (fun x:Nat × Array Nat=>[(0,.pointer (some ⟨H,h,none⟩)),(2,.int .i64 hp.size),(3,.int .i64 ((x.1:Int) - 1))]) (fun x w'=>HeapAt w' H h U o rev x.2∧gv d w' U o κ x.2 hp.size∧Keep (BJ U o) w w'∧x.2.size=hp.size∧x.1≤hp.size∧heapBuild (jm rev κ) hp.size 0 x.1 x.2=heapBuild (jm rev κ) hp.size 0 (hp.size / 2) hp) (fun x _=>x.1) (hp.size / 2,hp) (by kernel_rfl) ?_ ⟨g,gk,Keep.refl _ _,rfl,by simp only; omega,rfl⟩ ?_
 ·exact bU
 rintro K e ⟨r,h1⟩ w1 ⟨g1,g2,g3,g4,g5,g6⟩ hK
 simp only at g1 g2 g3 g4 g5 g6
 have hinc:cM d w1:=hd.keep g3 (fun x o' hx=>by rw [hx.1]; exact hU o')
 cases r with
 | zero =>
  have hc:¬ (0:Int)≤((0:Nat):Int) - 1:=by omega
  refine bu @hc ?_
  have e1:h1=heapBuild (jm rev κ) hp.size 0 (hp.size / 2) hp:=g6
  refine hk _ h1 g1 g2 ?_ ?_ g3
  ·intro i hi
   have:=hb.1 i (by omega)
   rw [← e1] at this
   rw [g4]; exact this
  ·rw [e1]
   have:=hb.2
   rwa [Nat.zero_add] at this
 | succ r =>
  have hc:(0:Int)≤((r+1:Nat):Int) - 1:=by omega
  refine bu @hc ?_
  refine kX (κ:=κ) g1 g2 hinc hU r (by omega) rfl (by omega) (by omega) fun w2 b q1 q2 q3 => ?_
  refine bA ?_
  refine hK _ _ (r,siftDown (jm rev κ) hp.size 0 r h1) ?_ ⟨q1,q2,g3.trans q3,by simp only; rw [iR _ _ _ _ _ _ (aF _)]; exact g4,by simp only; omega,g6⟩ (by simp)
  exact bU
theorem xE (g:HeapAt w H h U o rev hp) (gk:∀ j,0 < j→j < hp.size→∃ v,w.cell? ⟨U,o+10+hp[j]! * 4+2,none⟩=some v∧dR d v (κ hp[j]!)) (hd:cM d w) (hU:cj d U) (h0:0 < hp.size)
    (hk:∀ w' hp' v,HeapAt w' H h U o rev hp'→hp'=(siftDown (jm rev κ) (hp.size - 1) 0 0 (swp hp 0 (hp.size - 1))).pop→Keep (fun b x=>BJ U o b x∨b=H∧x=h+2) w w'→k v w') :
    ai prog 197 #[.pointer (some ⟨H,h,none⟩)] k w:=by
 have hr:=g.room
 obtain ⟨n,hn⟩:∃ n,hp.size=n+1:=⟨hp.size - 1,by omega⟩
 have hn':(hp.size:Int) - 1=n:=by omega
 rw [show hp.size - 1=n by omega] at hk
 refine al [.tmp 2] func197 ?_
 refine bA ?_
 refine iY g ?_
 refine bu @hn' ?_
 refine jE g 0 n rfl rfl h0 (by omega) fun w1 g1 k1 => ?_
 have gk0:gv d w U o κ (swp hp 0 n) n:=by
  intro j hj
  rw [swp_get hp h0 (by omega),if_neg (by omega)]
  by_cases hj0:j=0
  ·rw [if_pos hj0]; exact gk n (by omega) (by omega)
  ·rw [if_neg hj0]; exact gk j (by omega) (by omega)
 have gk1:gv d w1 U o κ (swp hp 0 n) n:=gk0.keep k1 (fun j hj hx=>by have:=g1.lv j (by rw [swp_size]; omega); have:=hx.2.1; omega)
 have i1:cM d w1:=hd.keep k1 (fun x o' hx=>by rw [hx.1]; exact hU o')
 refine bA ?_
 refine kX (κ:=κ) g1 gk1 i1 hU 0 rfl rfl (aT _) (by rw [swp_size]; omega) fun w2 b g2 gk2 k2 => ?_
 obtain ⟨h2,hh2⟩:∃ h2,h2=siftDown (jm rev κ) n 0 0 (swp hp 0 n):=⟨_,rfl⟩
 rw [← hh2] at g2 hk
 have hz:h2.size=n+1:=by rw [hh2,iR _ _ _ _ _ _ (aF _),swp_size,hn]
 have c2:=g2.c2
 have fH:=g2.fH
 rw [hz] at c2
 simp (disch:=first | exact dZ | fail) only [go_sem,c2,pG Tryz.es189,fH]
 have ne:=g2.ne
 have ne':=Ne.symm ne
 have pz:h2.pop.size=n:=by simp [hz]
 have pg:∀ j,j < n→h2.pop[j]! = h2[j]! := by
  intro j hj
  rw [aI _ j (by omega),aI _ j (by omega)]
  simp
 refine hk _ h2.pop _ ⟨?_,?_,?_,?_,?_,by omega,?_,?_,?_,ne,fun x h1 h2=>eX (g2.ex x h1 h2)⟩ rfl ?_
 ·have:=g2.c0
  exact bX @this
 ·have:=g2.c1
  exact bX @this
 ·rw [pz]
  exact bX @c2
 ·intro j hj
  rw [pz] at hj
  rw [pg j hj]
  have:=g2.ptr j (by omega)
  exact bX @this
 ·intro j hj
  rw [pz] at hj
  rw [pg j hj]
  have:=g2.ix j (by omega)
  exact bX @this
 ·intro j hj
  rw [pz] at hj
  rw [pg j hj]
  exact g2.lv j (by omega)
 ·intro o'
  have:=g2.fU o'
  exact bX @this
 ·intro o'
  have:=g2.fH o'
  exact bX @this
 ·exact ((k1.trans k2).mono fun b x _ hx => .inl hx).set (fun _ => .inr ⟨rfl,rfl⟩)
end
end Go.Proofs
end
section
namespace Go.E
open Go Go.Sort
theorem iZ {v:Value} (h:rY v=true):∃ a n c,v = .slice (some a) n c:=by
 unfold rY at h
 split at h
 ·exact ⟨_,_,_,rfl⟩
 ·simp at h
def iA (L:List Sp) (p:Nat):Bytes:=if p % 2=0 then L[p / 2]!.s else L[p / 2]!.e
def gY (L:List Sp) (p:Int):Prop:=0≤p∧p < 2 * L.length
instance (L:List Sp) (p:Int):Decidable (gY L p):=inferInstanceAs (Decidable (_∧_))
def ia (L:List Sp) (p:Int):Int:=if gY L p then (if p % 2=0 then 1 else 2) else 0
theorem rZ {L:List Sp} {p:Int} (h:gY L p) (h2:p % 2=0):ia L p=1:=by unfold ia; rw [if_pos h,if_pos h2]
theorem xF {L:List Sp} {p:Int} (h:gY L p) (h2:p % 2=1):ia L p=2:=by unfold ia; rw [if_pos h,if_neg (by omega)]
theorem mQ {L:List Sp} {p:Int} (h:¬ gY L p):ia L p=0:=by unfold ia; rw [if_neg h]
structure LvAt (d w:World) (U a I b o:Nat) (L:List Sp) (p:Int):Prop where
 it:w.cell? ⟨U,a,none⟩=some (.iface 236 (.pointer (some ⟨I,0,none⟩)))
 kd:w.cell? ⟨U,a+1,none⟩=some (.int .i8 (ia L p))
 ky:∃ v,w.cell? ⟨U,a+2,none⟩=some v∧v.cells = #[v]∧(gY L p→rY v=true∧dR d v (iA L p.toNat))
 sp:∃ v,w.cell? ⟨U,a+3,none⟩=some v∧v.cells = #[v]∧(gY L p→v=AI b o (p.toNat / 2))
 iter:IterAt w I b o L.length (p / 2)
 rg : -1≤p∧p≤2 * L.length
 fU:∀ x,w.frozen? ⟨U,x,none⟩=false
def Gf (U a I:Nat):Nat→Nat→Prop:=fun b x=>b=U∧a+1≤x∧x≤a+3∨b=I∧x=2
def lu (L:List Sp) (p:Int):Int:=if p=2 * L.length then p else p+1
def LQ (p:Int):Int:=if p = -1 then p else p - 1
theorem LvAt.keep {d w w2:World} {U a I b o:Nat} {L:List Sp} {p:Int} {M:Nat→Nat→Prop} (g:LvAt d w U a I b o L p) (hk:Keep M w w2) (h1:∀ x,a≤x→x≤a+3→¬ M U x) (h2:∀ x,¬ M I x):LvAt d w2 U a I b o L p where
 it:=hk.some g.it (h1 _ (by omega) (by omega))
 kd:=hk.some g.kd (h1 _ (by omega) (by omega))
 ky:=by obtain ⟨v,q1,q2⟩:=g.ky; exact ⟨v,hk.some q1 (h1 _ (by omega) (by omega)),q2⟩
 sp:=by obtain ⟨v,q1,q2⟩:=g.sp; exact ⟨v,hk.some q1 (h1 _ (by omega) (by omega)),q2⟩
 iter:=g.iter.keep hk h2
 rg:=g.rg
 fU x:=by rw [hk.frozen U x (aC g.it)]; exact g.fU x
theorem LvAt.drew {d w:World} {U a I b o:Nat} {L:List Sp} {p:Int} (g:LvAt d w U a I b o L p):LvAt d w.drew U a I b o L p:=⟨g.it,g.kd,g.ky,g.sp,g.iter.drew,g.rg,g.fU⟩
theorem LvAt.mk' {d w w2:World} {U a I b o:Nat} {L:List Sp} {p q:Int} (g:LvAt d w U a I b o L p) (hUI:U≠I) (hq : -1≤q∧q≤2 * L.length) {x:Int} {y z:Value} (hit:IterAt w2 I b o L.length (q / 2)) (hk:Keep (Da I) w w2) (hx:x=ia L q)
    (hyc:y.cells = #[y]) (hzc:z.cells = #[z]) (hy:gY L q→rY y=true∧dR d y (iA L q.toNat)) (hz:gY L q→z=AI b o (q.toNat / 2)) :
    LvAt d (((w2.setCell ⟨U,a+1,none⟩ (.int .i8 x)).setCell ⟨U,a+2,none⟩ y).setCell ⟨U,a+3,none⟩ z) U a I b o L q:=by
 have hm:∀ x,¬ Da I U x:=fun x h=>hUI h.1
 have k1:∃ v,w2.cell? ⟨U,a+1,none⟩=some v:=⟨_,hk.some g.kd (hm _)⟩
 have k2:∃ v,w2.cell? ⟨U,a+2,none⟩=some v:=by obtain ⟨v,q1,q2⟩:=g.ky; exact ⟨v,hk.some q1 (hm _)⟩
 have k3:∃ v,w2.cell? ⟨U,a+3,none⟩=some v:=by obtain ⟨v,q1,q2⟩:=g.sp; exact ⟨v,hk.some q1 (hm _)⟩
 obtain ⟨v1,k1⟩:=k1
 obtain ⟨v2,k2⟩:=k2
 obtain ⟨v3,k3⟩:=k3
 have k0:=hk.some g.it (hm _)
 refine ⟨?_,?_,⟨y,?_,hyc,hy⟩,⟨z,?_,hzc,hz⟩,?_,hq,?_⟩
 ·exact bX @k0
 ·subst hx
  exact bX @k1
 ·exact bX @k2
 ·exact bX @k3
 ·have hkk:Keep (fun b _=>b=U) w2 (((w2.setCell ⟨U,a+1,none⟩ (.int .i8 x)).setCell ⟨U,a+2,none⟩ y).setCell ⟨U,a+3,none⟩ z) :=
    (((Keep.refl (fun b _=>b=U) w2).set (b:=U) (fun _=>rfl)).set (b:=U) (fun _=>rfl)).set (b:=U) (fun _=>rfl)
  exact hit.keep hkk (fun o' h=>hUI h.symm)
 ·intro x
  have:=hk.frozen U x (aC g.it)
  rw [g.fU] at this
  exact bX @this
theorem oH {w w2:World} {U a I:Nat} {x y z:Value} (hk:Keep (Da I) w w2):Keep (Gf U a I) w (((w2.setCell ⟨U,a+1,none⟩ x).setCell ⟨U,a+2,none⟩ y).setCell ⟨U,a+3,none⟩ z) :=
 (((hk.mono (fun b o _ h => .inr ⟨h.1,h.2⟩)).set (fun _ => .inl ⟨rfl,by omega,by omega⟩)).set (fun _ => .inl ⟨rfl,by omega,by omega⟩)).set (fun _ => .inl ⟨rfl,by omega,by omega⟩)
end Go.E
namespace Go.Proofs
open Go Go.E Go.Sort
section
variable {k:aq} {w d:World} {U a I b o:Nat} {L:List Sp} {p:Int}
theorem mf (g:LvAt d w U a I b o L p) (hd:cM d w) (hU:cj d U) (hI:cj d I) (hUI:U≠I) (hs:kW d b o L) (hn:L.length < 1000000)
    (hk:∀ w',LvAt d w' U a I b o L (lu L p)→Keep (Gf U a I) w w'→k (.tuple #[]) w'):ai Tryz.prog 191 #[.pointer (some ⟨U,a,none⟩)] k w:=by
 have c0:=g.it
 have c1:=g.kd
 obtain ⟨v2,c2,_,y2⟩:=g.ky
 obtain ⟨v3,c3,_,y3⟩:=g.sp
 have fU:=g.fU
 obtain ⟨r1,r2⟩:=g.rg
 refine al [] Tryz.func191 ?_
 by_cases hv:gY L p∧p % 2=0
 ·obtain ⟨hv1,hv2⟩:=hv
  have e1:ia L p=1:=by unfold ia; rw [if_pos hv1,if_pos hv2]
  rw [e1] at c1
  have e3:=y3 hv1
  subst e3
  obtain ⟨j,hj⟩:∃ j:Nat,p=2 * j:=⟨(p / 2).toNat,by unfold gY at hv1; omega⟩
  subst hj
  have hj2:((2 * j:Int)).toNat / 2=j:=by omega
  rw [hj2] at c3
  unfold gY at hv1
  obtain ⟨_,⟨ve,se1,se2,se3⟩,_⟩:=hs j (by omega)
  have se:=hd _ _ _ se1
  obtain ⟨ea,en,ec,rfl⟩:=iZ se2
  have e4:lu L (2 * j)=2 * j+1:=by unfold lu; rw [if_neg (by omega)]
  rw [e4] at hk
  refine bu @c1 ?_
  refine bF (sq [0,1,2,3,4] (.read 5 (sq [6,7] (.read 8 (sq [9,10,11,12] (.read 13 (sq [14,15,16] (.eff 17 [] .done)))))))) ?_
  simp (disch:=first | exact dZ | fail) only [go_sem,c3,AI,se,c1,c2,fU]
  refine hk _ ?_ ?_
  ·refine (g.mk' (q:=2 * j+1) hUI (by omega) (by have:=g.iter; rwa [show (2 * (j:Int)+1) / 2=2 * (j:Int) / 2 by omega]) (Keep.refl _ w) ?_ rfl rfl (fun _=>⟨rfl,?_⟩) (fun _ => ?_)).drew
   ·exact (xF ⟨by omega,by omega⟩ (by omega)).symm
   ·unfold iA
    rw [if_neg (by omega),show (2 * (j:Int)+1).toNat / 2=j by omega]; exact se3
   ·rw [show (2 * (j:Int)+1).toNat / 2=j by omega]; rfl
  ·exact (oH (Keep.refl _ w)).drew
 ·have e1:((ia L p) == 1)=false:=by
    unfold ia
    split
    ·split
     ·exact absurd ⟨by assumption,by assumption⟩ hv
     ·rfl
    ·rfl
  refine dQ @c0 @c1 @e1 ?_
  have hit:=g.iter
  refine vO hit (by omega) (by omega) (by omega) fun w2 i2 k2 => ?_
  have ei:lq L.length (p / 2)=lu L p / 2:=by
   unfold lq lu
   unfold gY at hv
   split <;> split <;> omega
  rw [ei] at i2 ⊢
  have hm:∀ x,¬ Da I U x:=fun x h=>hUI h.1
  have f2:∀ x,w2.frozen? ⟨U,x,none⟩=false:=fun x=>by rw [k2.frozen U x (aC c0)]; exact fU x
  have q0:=k2.some c0 (hm _)
  have q1:=k2.some c1 (hm _)
  have q2:=k2.some c2 (hm _)
  have q3:=k2.some c3 (hm _)
  have nr : -1≤lu L p∧lu L p≤2 * L.length:=by unfold lu; split <;> omega
  have hd2:cM d w2:=hd.keep k2 (fun x o' hx=>by rw [hx.1]; exact hI o')
  by_cases hv2:gY L (lu L p)
  ·have ev:lu L p % 2=0:=by
     unfold gY lu at *
     split at hv2 <;> split <;> omega
   obtain ⟨j,hj⟩:∃ j:Nat,lu L p=2 * j:=⟨(lu L p / 2).toNat,by unfold gY at hv2; omega⟩
   have hjl:j < L.length:=by unfold gY at hv2; omega
   have er:qL b o L.length (lu L p / 2)=AI b o j:=by
    unfold qL
    rw [if_pos (by omega),show (lu L p / 2).toNat=j by omega]
   rw [er]
   obtain ⟨⟨vs,se1,se2,se3⟩,_⟩:=hs j hjl
   have se:=hd2 _ _ _ se1
   obtain ⟨ea,en,ec,rfl⟩:=iZ se2
   simp (disch:=first | exact dZ | fail) only [go_sem,AI,Option.isNone_some,se,q1,q2,q3,f2]
   refine hk _ ?_ ?_
   ·refine g.mk' hUI nr i2 k2 ?_ rfl rfl (fun _=>⟨rfl,?_⟩) (fun _ => ?_)
    ·unfold ia; rw [if_pos hv2,if_pos ev]
    ·unfold iA
     rw [if_pos (by omega),show (lu L p).toNat / 2=j by omega]; exact se3
    ·rw [show (lu L p).toNat / 2=j by omega]; rfl
   ·exact oH k2
  ·have er:qL b o L.length (lu L p / 2) = .pointer none:=by
     unfold qL
     rw [if_neg (by unfold gY at hv2; omega)]
   rw [er]
   simp (disch:=first | exact dZ | fail) only [go_sem,Option.isNone_none,q1,q2,q3,f2]
   refine hk _ ?_ ?_
   ·refine g.mk' hUI nr i2 k2 ?_ rfl rfl (fun h=>absurd h hv2) (fun h=>absurd h hv2)
    unfold ia; rw [if_neg hv2]
   ·exact oH k2
end
end Go.Proofs
end
section
namespace Go.E
open Go Go.Sort Go.Proofs Go.Proofs.Tryz
structure Lvl where
 I:Nat
 b:Nat
 o:Nat
 L:List Sp
 deriving Inhabited
structure MC (d:World) (U Bf:Nat) (Ls:Array Lvl):Prop where
 oU:cj d U
 oB:cj d Bf
 ne:Bf≠U
 n10:Ls.size≤10
 oI:∀ i,i < Ls.size→cj d Ls[i]!.I
 iU:∀ i,i < Ls.size→Ls[i]!.I≠U
 iB:∀ i,i < Ls.size→Ls[i]!.I≠Bf
 sp:∀ i,i < Ls.size→kW d Ls[i]!.b Ls[i]!.o Ls[i]!.L
 wf:∀ i,i < Ls.size→Wf Ls[i]!.L
 sz:∀ i,i < Ls.size→Ls[i]!.L.length < 1000000
 inj:∀ i j,i < Ls.size→j < Ls.size→i≠j→Ls[i]!.I≠Ls[j]!.I
 kn:∀ i,i < Ls.size→∀ j,j < Ls[i]!.L.length→Ls[i]!.L[j]!.ks≠[]
structure MB (d w:World) (U o Bf f:Nat) (Ls:Array Lvl) (pos:Nat→Int):Prop where
 bufs:w.cell? ⟨U,o,none⟩=some (.pointer (some ⟨Bf,f,none⟩))
 lvls:w.cell? ⟨Bf,f+1,none⟩=some (.slice (some ⟨U,o+10,none⟩) Ls.size 10)
 lv:∀ i,i < Ls.size→LvAt d w U (o+10+i * 4) Ls[i]!.I Ls[i]!.b Ls[i]!.o Ls[i]!.L (pos i)
 err:w.cell? ⟨U,o+8,none⟩=some .nilIface
 fU:∀ x,w.frozen? ⟨U,x,none⟩=false
 fB:∀ x,w.frozen? ⟨Bf,x,none⟩=false
 inc:cM d w
def qw (U o Bf f:Nat) (Ls:Array Lvl):Nat→Nat→Prop:=fun b x=>b=U∧o+10≤x∧x < o+70∨b=Bf∧f+3≤x∧x≤f+4∨∃ i,i < Ls.size∧b=Ls[i]!.I∧x=2
def pT (pos:Nat→Int) (r:Nat) (p:Int):Nat→Int:=fun i=>if i=r then p else pos i
def Gg (Ls:Array Lvl) (pos:Nat→Int) (i:Nat):Bytes:=iA Ls[i]!.L (pos i).toNat
structure MH (w:World) (U o Bf f:Nat) (Ls:Array Lvl) (pos:Nat→Int) (rev:Bool) (hp:Array Nat):Prop where
 at_:HeapAt w Bf (f+2) U o rev hp
 ok:Fi rev (Gg Ls pos) hp
 mem:∀ x,x ∈ hp.toList↔x < Ls.size∧gY Ls[x]!.L (pos x)
 nd:hp.toList.Nodup
section
variable {d w w2:World} {U o Bf f:Nat} {Ls:Array Lvl} {pos:Nat→Int} {rev:Bool} {hp:Array Nat}
theorem MB.drew (g:MB d w U o Bf f Ls pos):MB d w.drew U o Bf f Ls pos:=⟨g.bufs,g.lvls,fun i hi=>(g.lv i hi).drew,g.err,g.fU,g.fB,g.inc⟩
theorem MH.drew (g:MH w U o Bf f Ls pos rev hp):MH w.drew U o Bf f Ls pos rev hp:=⟨g.at_.drew,g.ok,g.mem,g.nd⟩
theorem HeapAt.keep {H h:Nat} {M:Nat→Nat→Prop} (g:HeapAt w H h U o rev hp) (hk:Keep M w w2) (h1:∀ x,h≤x→x≤h+2→¬ M H x) (h2:∀ x,o+50≤x→x < o+70→¬ M U x) (hU:U < w.heap.size):HeapAt w2 H h U o rev hp where
 ex x q1 q2:=by obtain ⟨v,hv⟩:=g.ex x q1 q2; exact ⟨v,hk.some hv (h2 x q1 q2)⟩
 c0:=hk.some g.c0 (h1 _ (by omega) (by omega))
 c1:=hk.some g.c1 (h1 _ (by omega) (by omega))
 c2:=hk.some g.c2 (h1 _ (by omega) (by omega))
 ptr j hj:=hk.some (g.ptr j hj) (h2 _ (by omega) (by have:=g.room; omega))
 ix j hj:=hk.some (g.ix j hj) (h2 _ (by omega) (by have:=g.room; omega))
 room:=g.room
 lv:=g.lv
 fU x:=by rw [hk.frozen U x hU]; exact g.fU x
 fH x:=by rw [hk.frozen H x (aC g.c0)]; exact g.fH x
 ne:=g.ne
theorem MB.hkeys (g:MB d w U o Bf f Ls pos) (h:∀ x,x ∈ hp.toList→x < Ls.size∧gY Ls[x]!.L (pos x)):gv d w U o (Gg Ls pos) hp hp.size:=by
 intro j hj
 have hm:hp[j]! ∈ hp.toList:=by rw [aI hp j hj]; simp
 obtain ⟨h1,h2⟩:=h _ hm
 obtain ⟨v,q1,_,q2⟩:=(g.lv _ h1).ky
 exact ⟨v,q1,(q2 h2).2⟩
theorem MB.keep {M:Nat→Nat→Prop} (c:MC d U Bf Ls) (g:MB d w U o Bf f Ls pos) (hk:Keep M w w2) (h1:¬ M U o) (h2:¬ M Bf (f+1)) (h3:¬ M U (o+8)) (h4:∀ x,o+10≤x→x < o+50→¬ M U x) (h5:∀ i,i < Ls.size→∀ x,¬ M Ls[i]!.I x)
    (h6:∀ x y,M x y→d.cell? ⟨x,y,none⟩=none):MB d w2 U o Bf f Ls pos where
 bufs:=hk.some g.bufs h1
 lvls:=hk.some g.lvls h2
 lv i hi:=(g.lv i hi).keep hk (fun x hx hx2=>h4 x (by omega) (by have:=c.n10; omega)) (h5 i hi)
 err:=hk.some g.err h3
 fU x:=by rw [hk.frozen U x (aC g.bufs)]; exact g.fU x
 fB x:=by rw [hk.frozen Bf x (aC g.lvls)]; exact g.fB x
 inc:=g.inc.keep hk h6
theorem qy {r:Nat} (c:MC d U Bf Ls) (hr:r < Ls.size) (b x:Nat) (h:Gf U (o+10+r * 4) Ls[r]!.I b x):qw U o Bf f Ls b x:=by
 have:=c.n10
 rcases h with ⟨h1,h2,h3⟩ | ⟨h1,h2⟩
 ·exact .inl ⟨h1,by omega,by omega⟩
 ·exact .inr (.inr ⟨r,hr,h1,h2⟩)
theorem Fj (c:MC d U Bf Ls) (x y:Nat) (h:qw U o Bf f Ls x y):d.cell? ⟨x,y,none⟩=none:=by
 rcases h with ⟨rfl,_⟩ | ⟨rfl,_⟩ | ⟨i,hi,rfl,_⟩
 ·exact c.oU _
 ·exact c.oB _
 ·exact c.oI i hi _
theorem MB.step (c:MC d U Bf Ls) (g:MB d w U o Bf f Ls pos) {r:Nat} (hr:r < Ls.size) {p:Int} (hl:LvAt d w2 U (o+10+r * 4) Ls[r]!.I Ls[r]!.b Ls[r]!.o Ls[r]!.L p) (hk:Keep (Gf U (o+10+r * 4) Ls[r]!.I) w w2) :
    MB d w2 U o Bf f Ls (pT pos r p) where
 bufs:=hk.some g.bufs (by rintro (⟨_,h,_⟩ | ⟨h,_⟩); omega; exact c.iU r hr h.symm)
 lvls:=hk.some g.lvls (by rintro (⟨h,_⟩ | ⟨h,_⟩); exact c.ne h; exact c.iB r hr h.symm)
 lv i hi:=by
  unfold pT
  by_cases hir:i=r
  ·subst hir; rw [if_pos rfl]; exact hl
  ·rw [if_neg hir]
   refine (g.lv i hi).keep hk ?_ ?_
   ·rintro x h1 h2 (⟨_,h3,h4⟩ | ⟨h,_⟩)
    ·omega
    ·exact c.iU r hr h.symm
   ·rintro x (⟨h,_⟩ | ⟨h,_⟩)
    ·exact c.iU i hi h
    ·exact c.inj i r hi hr hir h
 err:=hk.some g.err (by rintro (⟨_,h,_⟩ | ⟨h,_⟩); omega; exact c.iU r hr h.symm)
 fU x:=by rw [hk.frozen U x (aC g.bufs)]; exact g.fU x
 fB x:=by rw [hk.frozen Bf x (aC g.lvls)]; exact g.fB x
 inc:=g.inc.keep hk fun x y h=>Fj (f:=f) (o:=o) c x y (qy c hr x y h)
end
theorem dU {α:Type} [Inhabited α] {n:Nat} {x y:Array α} (h:PermIn 0 n x y) (hn:n≤x.size):y.toList.Perm x.toList:=by
 obtain ⟨h1,h2,h3⟩:=h
 have e1:∀ z:Array α,z.toList=(z.extract 0 n).toList++z.toList.drop n:=by
  intro z
  simp [Array.toList_extract]
 have e2:y.toList.drop n=x.toList.drop n:=by
  apply List.ext_getElem
  ·simp [h1]
  ·intro i q1 q2
   have:=h2 (n+i) (.inr (by omega))
   simp only [List.length_drop,Array.length_toList] at q1 q2
   rw [aI y (n+i) (by omega),aI x (n+i) (by omega)] at this
   simpa using this
 rw [e1 y,e1 x,e2]
 exact h3.append_right _
section
variable {rev:Bool} {κ κ2:Nat→Bytes} {hp:Array Nat}
theorem kY {i:Nat} (hi:i < hp.size):hp[i]! ∈ hp.toList:=by rw [aI hp i hi]; simp
theorem Db (nd:hp.toList.Nodup) {i:Nat} (hi:i < hp.size) (h0:0 < i):hp[i]! ≠ hp[0]! := by
 rw [aI hp i hi,aI hp 0 (by omega)]
 intro e
 have:=(List.getElem_inj (i:=i) (j:=0) (h₀:=by simpa using hi) (h₁:=by simp; omega) nd).1 (by simpa using e)
 omega
theorem qM (h:Fi rev κ hp) (nd:hp.toList.Nodup) (hs:∀ x,x ∈ hp.toList→x≠hp[0]! → κ2 x=κ x) (i:Nat) (hi:i < hp.size) (h0:i≠0):Ok (jm rev κ2) 0 hp.size hp i:=by
 intro c hc hcs
 have:=h i hi c hc hcs
 simp only [Nat.zero_add] at this ⊢
 unfold jm at this ⊢
 rw [hs _ (kY hi) (Db nd hi (by omega)),hs _ (kY hcs) (Db nd hcs (by omega))]
 exact this
theorem Dc (h:Fi rev κ hp) (nd:hp.toList.Nodup) (h0:0 < hp.size) (hs:∀ x,x ∈ hp.toList→x≠hp[0]! → κ2 x=κ x) :
    Fi rev κ2 (siftDown (jm rev κ2) hp.size 0 0 hp)∧(siftDown (jm rev κ2) hp.size 0 0 hp).toList.Perm hp.toList:=by
 obtain ⟨q1,q2⟩:=sift (qu rev κ2) hp.size 0 0 hp.size 0 hp (by omega) (by omega) (aF _) (fun i _ hi h0=>qM h nd hs i hi h0) (fun p _ hp2=>by omega)
 rw [Nat.zero_add] at q2
 refine ⟨fun i hi => ?_,dU q2 (aF _)⟩
 rw [q2.1] at hi ⊢
 exact q1 i (aT _) hi
theorem Dd (h:Fi rev κ hp) (nd:hp.toList.Nodup) (h0:0 < hp.size) (hs:∀ x,x ∈ hp.toList→x≠hp[0]! → κ2 x=κ x) :
    Fi rev κ2 (siftDown (jm rev κ2) (hp.size - 1) 0 0 (swp hp 0 (hp.size - 1))).pop∧(hp[0]! :: (siftDown (jm rev κ2) (hp.size - 1) 0 0 (swp hp 0 (hp.size - 1))).pop.toList).Perm hp.toList:=by
 obtain ⟨n,hn⟩:∃ n,hp.size=n+1:=⟨hp.size - 1,by omega⟩
 rw [show hp.size - 1=n by omega]
 have hz:(swp hp 0 n).size=n+1:=by rw [swp_size,hn]
 have hsw:∀ k,0 < k→k < n→(swp hp 0 n)[k]! = hp[k]! := fun k h1 h2=>swp_other hp 0 n k (by omega) (by omega)
 obtain ⟨q1,q2⟩:=sift (qu rev κ2) n 0 0 n 0 (swp hp 0 n) (by omega) (by omega) (aF _) (fun i _ hi h0=>by
  intro c hc hcs
  have:=qM h nd hs i (by omega) h0 c hc (by omega)
  simp only [Nat.zero_add] at this ⊢
  rw [hsw i (by omega) hi,hsw c (by omega) hcs]
  exact this) (fun p _ hp2=>by omega)
 rw [Nat.zero_add] at q2
 obtain ⟨D,hD⟩:∃ D,D=siftDown (jm rev κ2) n 0 0 (swp hp 0 n):=⟨_,rfl⟩
 rw [← hD] at q1 q2 ⊢
 have hDz:D.size=n+1:=by rw [q2.1,hz]
 have pz:D.pop.size=n:=by simp [hDz]
 have pg:∀ j,j < n→D.pop[j]! = D[j]! := by
  intro j hj
  rw [aI _ j (by omega),aI _ j (by omega)]
  simp
 refine ⟨fun i hi => ?_,?_⟩
 ·rw [pz] at hi ⊢
  intro c hc hcs
  have:=q1 i (aT _) hi c hc hcs
  simp only [Nat.zero_add] at this ⊢
  rw [pg i hi,pg c hcs]; exact this
 ·have hlast:D[n]! = hp[0]! := by
    rw [q2.2.1 n (.inr (aF _))]
    by_cases h1:n=0
    ·subst h1; exact swp_right hp 0 0 (by omega)
    ·exact swp_right hp 0 n (by omega)
  have e:D.toList=D.pop.toList++[hp[0]!]:=by
   rw [← hlast]
   apply List.ext_getElem
   ·simp [hDz]
   ·intro i a1 a2
    simp only [Array.length_toList] at a1
    by_cases hi:i < n
    ·rw [List.getElem_append_left (by simp [hDz]; omega)]
     simp
    ·obtain rfl:i=n:=by omega
     rw [List.getElem_append_right (by simp [hDz])]
     simp [aI D i (by omega)]
  have p1:=dU q2 (by omega)
  have p2:(swp hp 0 n).toList.Perm hp.toList:=dU (n:=n+1) (swp_permIn hp 0 (n+1) 0 n (by omega) (by omega) (by omega) (by omega) (by omega)) (by omega)
  have p3:=p1.trans p2
  rw [e] at p3
  exact (List.perm_append_comm (l₁:=[hp[0]!])).trans p3
end
end Go.E
namespace Go.Proofs
open Go Go.E Go.Sort Go.Proofs.Tryz
section
variable {k:aq} {d w:World} {U o Bf f:Nat} {Ls:Array Lvl} {pos:Nat→Int} {rev:Bool} {hp:Array Nat}
theorem BK {n:Int} {x y:Value} (hx:x.cells = #[x]) (hy:y.cells = #[y]) (hk:∀ w',bp w w'→k (.bool (n != 0)) w'):ai prog 155 #[.agg [.int .i8 n,x,y].toArray] k w:=by
 refine al [.tmp 2] func155 ?_
 refine bA ?_
 exact hk _ (aJ _)
theorem mh (c:MC d U Bf Ls) (g:MB d w U o Bf f Ls pos) (g2:MH w U o Bf f Ls pos rev hp) (h0:0 < hp.size)
    (hk:∀ w' hp',MB d w' U o Bf f Ls (pT pos hp[0]! (lu Ls[hp[0]!]!.L (pos hp[0]!)))→MH w' U o Bf f Ls (pT pos hp[0]! (lu Ls[hp[0]!]!.L (pos hp[0]!))) rev hp'→Keep (qw U o Bf f Ls) w w'→k (.tuple #[]) w') :
    ai prog 188 #[.pointer (some ⟨U,o,none⟩)] k w:=by
 have hr:=(g2.mem _).1 (kY h0)
 obtain ⟨r,hre⟩:∃ r,r=hp[0]! := ⟨_,rfl⟩
 rw [← hre] at hr hk
 obtain ⟨p',hpe⟩:∃ p',p'=lu Ls[r]!.L (pos r):=⟨_,rfl⟩
 rw [← hpe] at hk
 have c1:=g.bufs
 have c2:=g.lvls
 have c3:=g2.at_.c2
 have c4:=g2.at_.ix 0 h0
 rw [← hre,Nat.zero_mul,Nat.add_zero] at c4
 have z0:(0:Int).toNat=0:=rfl
 have z1:(0:Int)≤0:=by decide
 have z2:(0:Int) < hp.size:=by omega
 have r1:(r:Int) < Ls.size:=by omega
 refine al [] func188 ?_
 refine bA ?_
 refine bF (sq [0,1,2] (.read 3 (sq [4,5] (.read 6 (sq [7,8,9] (.read 10 (sq [11,12,13] (.read 14 (sq [15,16] (.read 17 (sq [18,19] .done))))))))))) ?_
 refine vJ @c1 @c2 @c3 @c4 @z0 @Nat.zero_mul @Nat.add_zero ?_
 have l0:=g.lv r hr.1
 refine mf l0.drew g.inc.drew c.oU (c.oI r hr.1) (Ne.symm (c.iU r hr.1)) (c.sp r hr.1) (c.sz r hr.1) fun w2 l1 k1 => ?_
 rw [← hpe] at l1
 have k1:Keep (Gf U (o+10+r * 4) Ls[r]!.I) w w2:=by first | exact k1 | exact (Keep.refl _ w).drew.trans k1
 have k1':Keep (qw U o Bf f Ls) w w2:=k1.mono fun b x _ h=>qy c hr.1 b x h
 have b2:MB d w2 U o Bf f Ls (pT pos r p'):=g.step c hr.1 l1 k1
 have a2:HeapAt w2 Bf (f+2) U o rev hp:=g2.at_.keep k1 (by
     rintro x _ _ (⟨h,_⟩ | ⟨h,_⟩)
     ·exact c.ne h
     ·exact c.iB r hr.1 h.symm) (by
     rintro x h1 h2 (⟨_,h3,h4⟩ | ⟨h,_⟩)
     ·have:=c.n10; omega
     ·exact c.iU r hr.1 h.symm) (aC c1)
 have same:∀ x,x ∈ hp.toList→x≠hp[0]! → Gg Ls (pT pos r p') x=Gg Ls pos x:=by
  intro x _ hx
  unfold Gg pT
  rw [if_neg (by rw [hre]; exact hx)]
 have mem':∀ x,x≠r→(x ∈ hp.toList↔x < Ls.size∧gY Ls[x]!.L (pT pos r p' x)):=by
  intro x hx
  rw [g2.mem x]
  unfold pT
  rw [if_neg hx]
 have d0:=l1.it
 have d1:=l1.kd
 obtain ⟨v2,d2,cells2,y2⟩:=l1.ky
 obtain ⟨v3,d3,cells3,y3⟩:=l1.sp
 have d8:=b2.err
 have fU:=b2.fU
 have e1:=b2.bufs
 have er:=b2.err
 have d0:=l1.it
 refine dQ @d1 @d2 @d3 ?_
 refine BK cells2 cells3 fun w3 x3 => ?_
 have f0:=x3.cell d0
 have f8:=x3.cell er
 have fe:=x3.cell e1
 have ff:∀ x,w3.frozen? ⟨U,x,none⟩=false:=fun x=>by rw [x3.frozen U x (aC e1)]; exact fU x
 have b3:MB d w3 U o Bf f Ls (pT pos r p'):=b2.keep c x3 id id id (fun _ _ _ h=>h) (fun _ _ _ h=>h) (fun _ _ h=>h.elim)
 have a3:HeapAt w3 Bf (f+2) U o rev hp:=a2.keep x3 (fun _ _ _ h=>h) (fun _ _ _ h=>h) (aC e1)
 have k3:Keep (qw U o Bf f Ls) w w3:=k1'.trans x3.keep
 by_cases hv:gY Ls[r]!.L p'
 ·have e5:(ia Ls[r]!.L p' != 0)=true:=by
    unfold ia
    rw [if_pos hv]
    split <;> rfl
  have mem3:∀ x,x ∈ hp.toList↔x < Ls.size∧gY Ls[x]!.L (pT pos r p' x):=by
   intro x
   by_cases hx:x=r
   ·subst hx
    unfold pT
    rw [if_pos rfl]
    exact ⟨fun _=>⟨hr.1,hv⟩,fun _=>by rw [hre]; exact kY h0⟩
   ·exact mem' x hx
  refine dO @e5 @fe ?_
  refine iY a3 ?_
  by_cases h1:1 < hp.size
  ·have h1':(1:Int) < hp.size:=by omega
   refine dO @h1' @fe ?_
   refine xD a3 (b3.hkeys fun x hx=>(mem3 x).1 hx) b3.inc c.oU h0 fun w4 a4 q4 k4 => ?_
   refine bA ?_
   have fp:=Dc g2.ok g2.nd h0 same
   refine hk w4 _ ?_ ⟨a4,fp.1,fun x=>(fp.2.mem_iff).trans (mem3 x),fp.2.nodup_iff.2 g2.nd⟩ (k3.trans (k4.mono fun b x _ h => .inl ⟨h.1,by have:=h.2.1; omega,h.2.2⟩))
   refine b3.keep c k4 (by rintro ⟨_,h,_⟩; omega) (by rintro ⟨h,_⟩; exact c.ne h) (by rintro ⟨_,h,_⟩; omega) (by rintro x _ h2 ⟨_,h,_⟩; omega) (by rintro i hi x ⟨h,_⟩; exact c.iU i hi h) (by rintro x y ⟨rfl,_⟩; exact c.oU _)
  ·have h1':¬ (1:Int) < hp.size:=by omega
   refine dO @h1' @fe ?_
   refine hk w3 hp b3 ⟨a3,?_,mem3,g2.nd⟩ k3
   intro i hi x hx hx2
   omega
 ·have e5:(ia Ls[r]!.L p' != 0)=false:=by rw [mQ hv]; rfl
  have fp:=Dd g2.ok g2.nd h0 same
  have hnr:hp[0]! = r:=hre.symm
  refine dO @e5 @f0 ?_
  refine jj ?_
  refine dQ @f8 @ff @fe ?_
  obtain ⟨w4,hw4⟩:∃ w4,w4=w3.setCell ⟨U,o+8,none⟩ .nilIface:=⟨_,rfl⟩
  rw [← hw4]
  have x4:Keep (fun b x=>b=U∧x=o+8) w3 w4:=by rw [hw4]; exact (Keep.refl _ w3).set (fun _=>⟨rfl,rfl⟩)
  have a4:HeapAt w4 Bf (f+2) U o rev hp:=a3.keep x4 (by rintro x _ _ ⟨h,_⟩; exact c.ne h) (by rintro x _ _ ⟨_,h⟩; omega) (aC fe)
  have er4:w4.cell? ⟨U,o+8,none⟩=some .nilIface:=by rw [hw4]; exact bX @f8
  have b4:MB d w4 U o Bf f Ls (pT pos r p'):=by
   have hb:=b3
   refine ⟨x4.some hb.bufs (by rintro ⟨_,h⟩; omega),x4.some hb.lvls (by rintro ⟨h,_⟩; exact c.ne h),fun i hi=>(hb.lv i hi).keep x4 (by rintro x _ _ ⟨_,h⟩; have:=c.n10; omega) (by rintro x ⟨h,_⟩; exact c.iU i hi h),er4,?_,?_,hb.inc.keep x4 (by rintro x y ⟨rfl,_⟩; exact c.oU _)⟩
   ·intro x; rw [x4.frozen U x (aC fe)]; exact ff x
   ·intro x; rw [x4.frozen Bf x (aC hb.lvls)]; exact hb.fB x
  have x4':Keep (qw U o Bf f Ls) w3 w4:=by
   refine ⟨x4.size,fun b x hb hm => ?_,x4.frozen,fun b hb hm=>x4.block b hb (by rintro x ⟨rfl,_⟩; exact hm (o+10) (.inl ⟨rfl,by omega,by omega⟩)),x4.st⟩
   by_cases hx:b=U∧x=o+8
   ·obtain ⟨rfl,rfl⟩:=hx
    rw [er4,f8]
   ·exact x4.cell b x hb hx
  refine xE (κ:=Gg Ls (pT pos r p')) a4 (fun j hj hj2 => ?_) b4.inc c.oU h0 fun w5 hp' v a5 he5 k5 => ?_
  ·have hne:hp[j]! ≠ r:=by rw [hre]; exact Db g2.nd hj2 hj
   obtain ⟨q1,q2⟩:=(mem' _ hne).1 (kY hj2)
   obtain ⟨v,t1,_,t2⟩:=(b4.lv _ q1).ky
   exact ⟨v,t1,(t2 q2).2⟩
  refine bA ?_
  rw [← he5] at fp
  have k5':Keep (qw U o Bf f Ls) w4 w5:=k5.mono fun b x _ h=>by
   rcases h with ⟨h1,h2,h3⟩ | ⟨h1,h2⟩
   ·exact .inl ⟨h1,by omega,h3⟩
   ·exact .inr (.inl ⟨h1,by omega,by omega⟩)
  refine hk w5 hp' ?_ ⟨a5,fp.1,fun x => ?_,?_⟩ ((k3.trans x4').trans k5')
  ·refine b4.keep c k5 ?_ ?_ ?_ ?_ ?_ ?_
   ·rintro (⟨_,h,_⟩ | ⟨h,_⟩)
    ·omega
    ·exact c.ne h.symm
   ·rintro (⟨h,_⟩ | ⟨_,h⟩)
    ·exact c.ne h
    ·omega
   ·rintro (⟨_,h,_⟩ | ⟨h,_⟩)
    ·omega
    ·exact c.ne h.symm
   ·rintro x _ h2 (⟨_,h,_⟩ | ⟨h,_⟩)
    ·omega
    ·exact c.ne h.symm
   ·rintro i hi x (⟨h,_⟩ | ⟨h,_⟩)
    ·exact c.iU i hi h
    ·exact c.iB i hi h
   ·rintro x y (⟨rfl,_⟩ | ⟨rfl,_⟩)
    ·exact c.oU _
    ·exact c.oB _
  ·have hnd:=fp.2.nodup_iff.2 g2.nd
   rw [hnr] at hnd fp
   by_cases hx:x=r
   ·subst hx
    constructor
    ·intro h; exact absurd h (List.nodup_cons.1 hnd).1
    ·rintro ⟨_,h⟩
     unfold pT at h
     rw [if_pos rfl] at h
     exact absurd h hv
   ·rw [← mem' x hx,← fp.2.mem_iff,av]
    constructor
    ·exact .inr
    ·rintro (h | h)
     ·exact absurd h hx
     ·exact h
  ·exact (List.nodup_cons.1 (fp.2.nodup_iff.2 g2.nd)).2
end
end Go.Proofs
end
