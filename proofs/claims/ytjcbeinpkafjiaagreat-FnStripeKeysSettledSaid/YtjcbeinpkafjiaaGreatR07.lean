/- Parts of the proof: I, H, L. -/
import Derived.Test.YtjcbeinpkafjiaaGreatR06
set_option linter.all false
set_option maxRecDepth 10000
section
namespace Go.E
open Go Go.Proofs.Tryz
structure K where
 tr:Nat
 suf:Bytes
 val:Bytes
 deriving DecidableEq,Inhabited
structure Sp where
 s:Bytes
 e:Bytes
 ks:List K
 deriving DecidableEq,Inhabited
def rK:Value→Bool
 | .slice (some _) _ _=>true
 | _=>false
def mh (w:World) (b o:Nat) (x:K):Prop :=
 w.cell? ⟨b,o,none⟩=some (.int .u64 x.tr)∧x.tr < 18446744073709551616∧(∃ v,w.cell? ⟨b,o+1,none⟩=some v∧fV w v x.suf)∧∃ v,w.cell? ⟨b,o+2,none⟩=some v∧fV w v x.val
def xY (w:World) (b o:Nat) (x:Sp):Prop :=
 (∃ v,w.cell? ⟨b,o,none⟩=some v∧rK v=true∧fV w v x.s)∧(∃ v,w.cell? ⟨b,o+1,none⟩=some v∧rK v=true∧fV w v x.e) ∧
 (∃ v,w.cell? ⟨b,o+2,none⟩=some v∧fI mh 3 w v x.ks)∧w.cell? ⟨b,o+3,none⟩=some (.int .i8 0)
theorem mh.mono:DS mh:=fun _ _ _ _ _ hi ⟨h1,h2,⟨v,h3,h4⟩,u,h5,h6⟩=>⟨hi _ _ _ h1,h2,⟨v,hi _ _ _ h3,h4.inc hi⟩,u,hi _ _ _ h5,h6.inc hi⟩
theorem xY.mono:DS xY:=fun _ _ _ _ _ hi ⟨⟨v,h1,h2,h3⟩,⟨u,h4,h5,h6⟩,⟨t,h7,h8⟩,h9⟩ =>
 ⟨⟨v,hi _ _ _ h1,h2,h3.inc hi⟩,⟨u,hi _ _ _ h4,h5,h6.inc hi⟩,⟨t,hi _ _ _ h7,h8.inc mh.mono hi⟩,hi _ _ _ h9⟩
def jf (w:World) (b o:Nat) (L:List Sp):Prop:=∀ j,j < L.length→xY w b (o+j * 4) L[j]!
theorem jf.inc {w w2:World} {b o:Nat} {L:List Sp} (h:jf w b o L) (hi:bz w w2):jf w2 b o L:=fun j hj=>xY.mono _ _ _ _ _ hi (h j hj)
structure IterAt (w:World) (I b o n:Nat) (idx:Int):Prop where
 c0:w.cell? ⟨I,0,none⟩=some (.func (.func 102) #[] #[])
 c1:∃ p c,w.cell? ⟨I,1,none⟩=some (.slice p n c)∧(0 < n→p=some ⟨b,o,none⟩)
 c2:w.cell? ⟨I,2,none⟩=some (.int .i64 idx)
 fz:∀ o,w.frozen? ⟨I,o,none⟩=false
def zM (I:Nat):Nat→Nat→Prop:=fun b o=>b=I∧o=2
theorem IterAt.keep {w w2:World} {I b o n:Nat} {idx:Int} {M:Nat→Nat→Prop} (h:IterAt w I b o n idx) (hk:Keep M w w2) (hm:∀ o,¬ M I o):IterAt w2 I b o n idx where
 c0:=hk.some h.c0 (hm _)
 c1:=by obtain ⟨p,c,h1,h2⟩:=h.c1; exact ⟨p,c,hk.some h1 (hm _),h2⟩
 c2:=hk.some h.c2 (hm _)
 fz o:=by rw [hk.frozen I o (aE h.c0)]; exact h.fz o
theorem IterAt.set {w:World} {I b o n:Nat} {idx:Int} (h:IterAt w I b o n idx) (i:Int):IterAt (w.setCell ⟨I,2,none⟩ (.int .i64 i)) I b o n i where
 c0:=by rw [gq (by decide)]; exact h.c0
 c1:=by obtain ⟨p,c,h1,h2⟩:=h.c1; exact ⟨p,c,by rw [gq (by decide)]; exact h1,h2⟩
 c2:=by rw [cC,h.c2]; rfl
 fz o:=by rw [World.frozen?_setCell]; exact h.fz o
theorem IterAt.drew {w:World} {I b o n:Nat} {idx:Int} (h:IterAt w I b o n idx):IterAt w.drew I b o n idx:=⟨h.c0,h.c1,h.c2,h.fz⟩
def uN (b o j:Nat):Value := .pointer (some ⟨b,o+j * 4,none⟩)
end Go.E
namespace Go.Proofs
open Go Go.E Go.Proofs.Tryz
section
variable {k:aq} {w:World} {I b o n:Nat} {idx:Int}
def lq (n:Nat) (idx:Int):Int:=if (n:Int)≤idx then idx else idx+1
def lu (idx:Int):Int:=if idx < 0 then idx else idx - 1
def iv (b o n:Nat) (idx:Int):Value:=if 0≤idx∧idx < n then uN b o idx.toNat else .pointer none
theorem vW (h:IterAt w I b o n idx) (h0 : -1≤idx) (hn:n < 4611686018427387904) (h1:idx≤n)
    (hk:∀ w',IterAt w' I b o n (lq n idx)→Keep (zM I) w w'→k (iv b o n (lq n idx)) w'):aX prog 263 #[.pointer (some ⟨I,0,none⟩)] k w:=by
 obtain ⟨p,c,e1,e2⟩:=h.c1
 have e3:=h.c2
 have hf:=h.fz
 refine ai [.tmp 2] func263 ?_
 refine al ?_
 refine ay (sq [0,1,2] (.read 3 (sq [4,5,6] (.read 7 (sq [8,9] .done))))) ?_
 by_cases hc:(n:Int)≤idx
 ·refine eI @e1 @e3 @hc ?_
  have e:lq n idx=idx:=by unfold lq; rw [if_pos hc]
  rw [e] at hk
  have:=hk w.drew h.drew (Keep.refl _ w).drew
  rwa [iv,if_neg (by omega)] at this
 ·have e:lq n idx=idx+1:=by unfold lq; rw [if_neg hc]
  rw [e] at hk
  refine fW @e1 @e3 @hc @hf ?_
  refine ay (sq [0,1,2] (.read 3 (sq [4,5,6] (.read 7 (sq [8,9] .done))))) ?_
  by_cases hc2:(n:Int)≤idx+1
  ·refine fW @e1 @e3 @hc2 @hf ?_
   have:=hk _ (h.set (idx+1)).drew.drew ((Keep.refl (zM I) w).set (fun _=>⟨rfl,rfl⟩)).drew.drew
   rwa [iv,if_neg (by omega)] at this
  ·have hp:=e2 (by omega)
   subst hp
   refine fW @e1 @e3 @hc2 @hf ?_
   refine ay (sq [0,1,2] (.read 3 (sq [4,5,6] (.read 7 (sq [8,9] .done))))) ?_
   obtain ⟨j,hj⟩:∃ j:Nat,idx+1=j:=⟨(idx+1).toNat,by omega⟩
   refine gH @e1 @e3 @hc2 @hf @hj ?_
   have:=hk _ (h.set (idx+1)).drew.drew.drew ((Keep.refl (zM I) w).set (fun _=>⟨rfl,rfl⟩)).drew.drew.drew
   rw [iv,if_pos (by omega),uN] at this
   rw [hj,bm] at this
   exact this
theorem vX (h:IterAt w I b o n idx) (h0 : -1≤idx) (hn:n < 4611686018427387904) (h1:idx≤n)
    (hk:∀ w',IterAt w' I b o n (lu idx)→Keep (zM I) w w'→k (iv b o n (lu idx)) w'):aX prog 264 #[.pointer (some ⟨I,0,none⟩)] k w:=by
 obtain ⟨p,c,e1,e2⟩:=h.c1
 have e3:=h.c2
 have hf:=h.fz
 refine ai [.tmp 2] func264 ?_
 by_cases hc:idx < 0
 ·refine eI @e1 @e3 @hc ?_
  have e:lu idx=idx:=by unfold lu; rw [if_pos hc]
  rw [e] at hk
  have:=hk w h (Keep.refl _ w)
  rwa [iv,if_neg (by omega)] at this
 ·have e:lu idx=idx - 1:=by unfold lu; rw [if_neg hc]
  rw [e] at hk
  by_cases hc2:idx - 1 < 0
  ·refine gH @e1 @e3 @hc @hc2 @hf ?_
   have:=hk _ (h.set (idx - 1)) ((Keep.refl (zM I) w).set (fun _=>⟨rfl,rfl⟩))
   rwa [iv,if_neg (by omega)] at this
  ·have hp:=e2 (by omega)
   subst hp
   refine gH @e1 @e3 @hc @hc2 @hf ?_
   refine ay (sq [0,1,2] (.read 3 (sq [4,5,6] (.read 7 (sq [8,9] .done))))) ?_
   obtain ⟨j,hj⟩:∃ j:Nat,idx - 1=j:=⟨(idx - 1).toNat,by omega⟩
   refine gH @e1 @e3 @hc2 @hf @hj ?_
   have:=hk _ (h.set (idx - 1)).drew ((Keep.refl (zM I) w).set (fun _=>⟨rfl,rfl⟩)).drew
   rw [iv,if_pos (by omega),uN] at this
   rw [hj,bm] at this
   exact this
theorem tR (h:IterAt w I b o n idx) (hn:n < 4611686018427387904)
    (hk:∀ w',IterAt w' I b o n (if n=0 then idx else 0)→Keep (zM I) w w'→k (if n=0 then .pointer none else uN b o 0) w'):aX prog 261 #[.pointer (some ⟨I,0,none⟩)] k w:=by
 obtain ⟨p,c,e1,e2⟩:=h.c1
 have e3:=h.c2
 have hf:=h.fz
 refine ai [.tmp 2] func261 ?_
 by_cases hc:n=0
 ·have hc':((n:Int) == 0)=true:=by simp [hc]
  refine eI @e1 @e3 @hc' ?_
  have:=hk w (by simpa [hc] using h) (Keep.refl _ w)
  simpa only [hc,if_true] using this
 ·have hc':((n:Int) == 0)=false:=by simp [hc]
  have hp:=e2 (by omega)
  subst hp
  refine fW @e1 @e3 @hc' @hf ?_
  refine ay (sq [0,1,2] (.read 3 (sq [4,5,6] (.read 7 (sq [8,9] .done))))) ?_
  have z:(0:Int).toNat=0:=rfl
  refine rA @e1 @e3 @hf @z @Nat.zero_mul @Nat.add_zero ?_
  have:=hk _ (by simp only [hc,if_false]; exact (h.set 0).drew) ((Keep.refl (zM I) w).set (fun _=>⟨rfl,rfl⟩)).drew
  simpa only [hc,if_false,uN,Nat.zero_mul,Nat.add_zero] using this
theorem ia (hk:k .nilIface w):aX prog 260 #[.pointer (some ⟨I,0,none⟩)] k w:=by
 refine ai [.tmp 2] func260 ?_
 refine al ?_
 exact hk
def Wf (L:List Sp):Prop:=(∀ i,i < L.length→L[i]!.s < L[i]!.e)∧∀ i j,i < j→j < L.length→L[i]!.e≤L[j]!.s
theorem Wf.ends {L:List Sp} (h:Wf L) {i j:Nat} (hij:i≤j) (hj:j < L.length):L[i]!.e≤L[j]!.e:=by
 rcases aH i j with h1 | h1
 ·have:=h.2 i j h1 hj
  have:=h.1 j hj
  grind
 ·obtain rfl:i=j:=by omega
  grind
theorem Wf.starts {L:List Sp} (h:Wf L) {i j:Nat} (hij:i≤j) (hj:j < L.length):L[i]!.s≤L[j]!.s:=by
 rcases aH i j with h1 | h1
 ·have:=h.2 i j h1 hj
  have:=h.1 i (by omega)
  grind
 ·obtain rfl:i=j:=by omega
  grind
end
end Go.Proofs
end
section
namespace Go.E
open Go Go.Sort Go.Proofs.Tryz
theorem sD {P:Program} {t:TypeId} {n:Nat} (h:lS P t=some n) {a:Option Addr} {len cap:Nat} {kd:IntKind} {i:Int} {q:Value→Prop} (c1:0≤i) (c2:i≤cap) :
    dW P t (.slice a len cap) none (some (.int kd i)) none q=q (.slice a i.toNat cap):=by
 rw [qS h rfl rfl (by simpa [bd] using c1) (by simpa [bd] using c2) (by simp [bd]) (by simp)]
 simp [bd]
structure HeapAt (w:World) (H h U o:Nat) (rev:Bool) (hp:Array Nat):Prop where
 c0:w.cell? ⟨H,h,none⟩=some (.func (.func 102) #[] #[])
 c1:w.cell? ⟨H,h+1,none⟩=some (.bool rev)
 c2:w.cell? ⟨H,h+2,none⟩=some (.slice (some ⟨U,o+50,none⟩) hp.size 10)
 ptr:∀ j,j < hp.size→w.cell? ⟨U,o+50+j * 2,none⟩=some (.pointer (some ⟨U,o+10+hp[j]! * 4+1,none⟩))
 ix:∀ j,j < hp.size→w.cell? ⟨U,o+50+j * 2+1,none⟩=some (.int .i64 hp[j]!)
 room:hp.size≤10
 lv:∀ j,j < hp.size→hp[j]! < 10
 fU:∀ o,w.frozen? ⟨U,o,none⟩=false
 fH:∀ o,w.frozen? ⟨H,o,none⟩=false
 ne:H≠U
 ex:∀ x,o+50≤x→x < o+70→∃ v,w.cell? ⟨U,x,none⟩=some v
theorem eQ {w:World} {b o b2 o2:Nat} {u:Value} (h:∃ v,w.cell? ⟨b,o,none⟩=some v):∃ v,(w.setCell ⟨b2,o2,none⟩ u).cell? ⟨b,o,none⟩=some v:=by
 obtain ⟨v,h⟩:=h
 by_cases he:b2=b∧o2=o
 ·obtain ⟨rfl,rfl⟩:=he
  exact ⟨u,by rw [cC,h]; rfl⟩
 ·refine ⟨v,?_⟩
  rw [World.cell?_setCell_other w _ _ u (fun e=>he (by cases e; exact ⟨rfl,rfl⟩)),h]
def gv (d w:World) (U o:Nat) (κ:Nat→Bytes) (hp:Array Nat) (n:Nat):Prop:=∀ j,j < n→∃ v,w.cell? ⟨U,o+10+hp[j]! * 4+2,none⟩=some v∧fV d v (κ hp[j]!)
def BZ (U o:Nat):Nat→Nat→Prop:=fun b x=>b=U∧o+50≤x∧x < o+70
def jw (rev:Bool) (κ:Nat→Bytes) (x y:Nat):Bool:=if rev then decide (κ x < κ y) else decide (κ y < κ x)
theorem rL (rev:Bool) (κ:Nat→Bytes):SWO (jw rev κ) where
 irrefl x:=by unfold jw; cases rev <;> simp <;> grind
 trans x y z:=by unfold jw; cases rev <;> simp <;> grind
 ntrans x y z:=by unfold jw; cases rev <;> simp <;> grind
theorem HeapAt.drew {w:World} {H h U o:Nat} {rev:Bool} {hp:Array Nat} (g:HeapAt w H h U o rev hp):HeapAt w.drew H h U o rev hp:=⟨g.c0,g.c1,g.c2,g.ptr,g.ix,g.room,g.lv,g.fU,g.fH,g.ne,g.ex⟩
theorem gv.keep {d w w2:World} {U o n:Nat} {κ:Nat→Bytes} {hp:Array Nat} {M:Nat→Nat→Prop} (g:gv d w U o κ hp n) (hk:Keep M w w2) (hm:∀ j,j < n→¬ M U (o+10+hp[j]! * 4+2)):gv d w2 U o κ hp n:=fun j hj=>by
 obtain ⟨v,h1,h2⟩:=g j hj
 exact ⟨v,hk.some h1 (hm j hj),h2⟩
theorem gv.swp {d w:World} {U o n:Nat} {κ:Nat→Bytes} {hp:Array Nat} (g:gv d w U o κ hp n) {i j:Nat} (hi:i < n) (hj:j < n) (hn:n≤hp.size):gv d w U o κ (swp hp i j) n:=fun k hk=>by
 rw [swp_get hp (aI hi hn) (aI hj hn)]
 split
 ·exact g i hi
 ·split
  ·exact g j hj
  ·exact g k hk
end Go.E
namespace Go.Proofs
open Go Go.E Go.Sort Go.Proofs.Tryz
section
variable {k:aq} {w d:World} {H h U o:Nat} {rev:Bool} {hp:Array Nat} {κ:Nat→Bytes}
theorem fm (g:HeapAt w H h U o rev hp) (hk:k (.int .i64 hp.size) w):aX prog 211 #[.pointer (some ⟨H,h,none⟩)] k w:=by
 have c2:=g.c2
 refine ai [.tmp 2] func211 ?_
 refine bf @c2 ?_
 exact hk
theorem jD {n:Nat} (g:HeapAt w H h U o rev hp) (gk:gv d w U o κ hp n) (hn:n≤hp.size) (hd:bz d w) {x y:Int} (i j:Nat) (hx:x=i) (hy:y=j) (hi:i < n) (hj:j < n)
    (hk:k (.bool (jw rev κ hp[j]! hp[i]!)) w.drew):aX prog 227 #[.pointer (some ⟨H,h,none⟩),.int .i64 x,.int .i64 y] k w:=by
 subst hx; subst hy
 have c0:=g.c0
 have c1:=g.c1
 have c2:=g.c2
 have hi2:i < hp.size:=by omega
 have hj2:j < hp.size:=by omega
 have p1:=g.ptr i hi2
 have p2:=g.ptr j hj2
 obtain ⟨v1,k1,b1⟩:=gk i hi
 obtain ⟨v2,k2,b2⟩:=gk j hj
 refine ai [.tmp 6] func227 ?_
 refine al ?_
 refine ay (sq [0,1,2] (.read 3 (sq [4,5,6] (.read 7 (sq [8,9] (.read 10 (sq [11,12,13] (.read 14 (sq [15,16,17] (.read 18 (sq [19,20] (.read 21 (sq [22,23] .done))))))))))))) ?_
 refine vR @c0 @c1 @c2 @p1 @p2 @k1 @k2 ?_
 refine fG (b1.inc hd) (b2.inc hd) ?_
 refine eI @c0 @c1 @c2 ?_
 cases rev with
 | true =>
  refine al ?_
  have e:decide ((0:Int) < eY (κ hp[i]!) (κ hp[j]!))=jw true κ hp[j]! hp[i]! := by unfold jw; simp [vO]
  rw [e]; exact hk
 | false =>
  refine al ?_
  have e:decide (eY (κ hp[i]!) (κ hp[j]!) < 0)=jw false κ hp[j]! hp[i]! := by unfold jw; simp [kW]
  rw [e]; exact hk
theorem jE (g:HeapAt w H h U o rev hp) {x y:Int} (i j:Nat) (hx:x=i) (hy:y=j) (hi:i < hp.size) (hj:j < hp.size)
    (hk:∀ w',HeapAt w' H h U o rev (swp hp i j)→Keep (BZ U o) w w'→k (.tuple #[]) w'):aX prog 225 #[.pointer (some ⟨H,h,none⟩),.int .i64 x,.int .i64 y] k w:=by
 subst hx; subst hy
 have c2:=g.c2
 have fU:=g.fU
 have p1:=g.ptr i hi
 have p2:=g.ptr j hj
 have x1:=g.ix i hi
 have x2:=g.ix j hj
 have ne:=g.ne
 have hr:=g.room
 refine ai [] func225 ?_
 refine ay (sq [0,1,2] (.read 3 (sq [4,5,6,7] (.read 8 (sq [9,10,11,12] (.read 13 (sq [14,15] (.read 16 (sq [17,18,19] (.read 20 (sq [21,22] (.read 23 (sq [24] (.eff 25 [] (sq [26] (.eff 27 [] .done)))))))))))))))) ?_
 have rest:∀ W:World,(∀ x o',x≠U→W.cell? ⟨x,o',none⟩=w.cell? ⟨x,o',none⟩)→(∀ x o',W.frozen? ⟨x,o',none⟩=w.frozen? ⟨x,o',none⟩) →
     (∀ t,t < hp.size→W.cell? ⟨U,o+50+t * 2,none⟩=some (.pointer (some ⟨U,o+10+(swp hp i j)[t]! * 4+1,none⟩))∧W.cell? ⟨U,o+50+t * 2+1,none⟩=some (.int .i64 (swp hp i j)[t]!))→(∀ x,o+50≤x→x < o+70→∃ v,W.cell? ⟨U,x,none⟩=some v) →
     HeapAt W H h U o rev (swp hp i j):=by
  intro W h1 h2 h3 h4
  refine ⟨by rw [h1 _ _ ne]; exact g.c0,by rw [h1 _ _ ne]; exact g.c1,by rw [h1 _ _ ne,swp_size]; exact g.c2,fun t ht=>(h3 t (by rw [swp_size] at ht; exact ht)).1,fun t ht=>(h3 t (by rw [swp_size] at ht; exact ht)).2,by rw [swp_size]; exact hr,?_,fun o'=>by rw [h2]; exact g.fU _,fun o'=>by rw [h2]; exact g.fH _,ne,h4⟩
  intro t ht
  rw [swp_size] at ht
  rw [swp_get hp hi hj]
  split
  ·exact g.lv i hi
  ·split
   ·exact g.lv j hj
   ·exact g.lv t ht
 by_cases hij:i=j
 ·subst hij
  refine fW @c2 @p1 @x1 @fU ?_
  refine hk _ (rest _ ?_ ?_ ?_ ?_) ?_
  rotate_left 3
  ·intro x h1 h2
   simp only [World.cell?_drew]
   exact eQ (eQ (eQ (eQ (g.ex x h1 h2))))
  rotate_left 1
  ·intro x o' hx
   have hx:=Ne.symm hx
   exact bb @hx
  ·intro x o'; simp (disch:=first | exact dZ | fail) only [go_sem]
  ·intro t ht
   rw [swp_get hp hi hi]
   by_cases t1:t=i
   ·subst t1
    constructor
    ·exact bb @p1
    ·exact bb @x1
   ·have q1:=g.ptr t ht
    have q2:=g.ix t ht
    rw [if_neg t1,if_neg t1]
    constructor
    ·exact bb @q1
    ·exact bb @q2
  ·exact ((((((Keep.refl (BZ U o) w).set (fun _=>⟨rfl,by omega,by omega⟩)).set (fun _=>⟨rfl,by omega,by omega⟩)).set (fun _=>⟨rfl,by omega,by omega⟩)).set (fun _=>⟨rfl,by omega,by omega⟩))).drew
 ·have d1:o+50+i * 2≠o+50+j * 2:=by omega
  refine rA @c2 @p1 @p2 @x1 @x2 @fU ?_
  refine hk _ (rest _ ?_ ?_ ?_ ?_) ?_
  rotate_left 3
  ·intro x h1 h2
   simp only [World.cell?_drew]
   exact eQ (eQ (eQ (eQ (g.ex x h1 h2))))
  rotate_left 1
  ·intro x o' hx
   have hx:=Ne.symm hx
   exact bb @hx
  ·intro x o'; simp (disch:=first | exact dZ | fail) only [go_sem]
  ·intro t ht
   rw [swp_get hp hi hj]
   by_cases t1:t=j
   ·subst t1
    rw [if_pos rfl]
    constructor
    ·exact bb @p2
    ·exact bb @x2
   ·rw [if_neg t1]
    by_cases t2:t=i
    ·subst t2
     rw [if_pos rfl]
     constructor
     ·exact bb @p1
     ·exact bb @x1
    ·have q1:=g.ptr t ht
     have q2:=g.ix t ht
     rw [if_neg t2]
     constructor
     ·exact bb @q1
     ·exact bb @q2
  ·exact ((((((Keep.refl (BZ U o) w).set (fun _=>⟨rfl,by omega,by omega⟩)).set (fun _=>⟨rfl,by omega,by omega⟩)).set (fun _=>⟨rfl,by omega,by omega⟩)).set (fun _=>⟨rfl,by omega,by omega⟩))).drew
theorem kY (g:HeapAt w H h U o rev hp) {n:Nat} (gk:gv d w U o κ hp n) (hd:bz d w) (hU:cq d U) {x y:Int} (i:Nat) (hx:x=i) (hy:y=n) (hi:i≤hp.size) (hn:n≤hp.size)
    (hk:∀ w' b,HeapAt w' H h U o rev (siftDown (jw rev κ) n 0 i hp)→gv d w' U o κ (siftDown (jw rev κ) n 0 i hp) n→Keep (BZ U o) w w'→k (.bool b) w') :
    aX prog 224 #[.pointer (some ⟨H,h,none⟩),.int .i64 x,.int .i64 y] k w:=by
 subst hx; subst hy
 have hr:=g.room
 refine ai [.tmp 6] func224 ?_
 refine al ?_
 refine gm (fun j:Nat=>[(1,.int .i64 i),(7,.int .i64 j)]) (fun _ w'=>HeapAt w' H h U o rev (siftDown (jw rev κ) n 0 i hp)∧gv d w' U o κ (siftDown (jw rev κ) n 0 i hp) n∧Keep (BZ U o) w w') (by kernel_rfl) (fun K hK => ?_) ?_
 ·refine bO (fun x:Nat × Array Nat=>[(0,.pointer (some ⟨H,h,none⟩)),(1,.int .i64 i),(2,.int .i64 n),(7,.int .i64 x.1)]) (fun x w'=>HeapAt w' H h U o rev x.2∧gv d w' U o κ x.2 n∧Keep (BZ U o) w w'∧x.2.size=hp.size∧x.1≤hp.size∧siftDown (jw rev κ) n 0 x.1 x.2=siftDown (jw rev κ) n 0 i hp) (fun x _=>n - x.1) (i,hp) (by kernel_rfl) ?_ ⟨g,gk,Keep.refl _ _,rfl,hi,rfl⟩ ?_
  ·exact bE
  rintro K2 e2 ⟨r,h1⟩ w1 ⟨g1,g2,g3,g4,g5,g6⟩ hK2
  simp only at g1 g2 g3 g4 g5 g6
  have hinc:bz d w1:=hd.keep g3 (fun x o' hx=>by rw [hx.1]; exact hU o')
  by_cases hc:2 * r+1 < n
  ·have hc':¬ (n:Int)≤2 * r+1:=by omega
   have hc0:¬ (2 * r+1:Int) < 0:=by omega
   by_cases hc2:2 * r+2 < n
   ·have hc2':(2 * r+1+1:Int) < n:=by omega
    refine eI @hc' @hc0 @hc2' ?_
    refine jD g1 g2 (by omega) hinc (2 * r+2) (2 * r+1) (by omega) (by omega) (by omega) (by omega) ?_
    cases hl:jw rev κ h1[2 * r+1]! h1[2 * r+2]! with
    | true =>
     refine al ?_
     refine jD (hp:=h1) (U:=U) (o:=o) (rev:=rev) (κ:=κ) (d:=d) (by first | exact g1 | exact g1.drew) (n:=n) (by exact g2) (by omega) (by exact hinc) (2 * r+2) r (by omega) (by omega) (by omega) (by omega) ?_
     cases hs:jw rev κ h1[r]! h1[2 * r+2]! with
     | true =>
      refine al ?_
      refine jE (hp:=h1) (U:=U) (o:=o) (rev:=rev) (by first | exact g1.drew.drew | exact g1.drew) r (2 * r+2) (by omega) (by omega) (by omega) (by omega) fun w3 q1 q2 => ?_
      refine al ?_
      have q3:Keep (BZ U o) w1 w3:=by first | exact ((Keep.refl _ w1).drew.drew.trans q2) | exact ((Keep.refl _ w1).drew.trans q2)
      refine hK2 _ _ (2 * r+2,swp h1 r (2 * r+2)) ?_ ⟨q1,(g2.swp (by omega) (by omega) (by omega)).keep q3 (fun t ht hx => ?_),g3.trans q3,by simp [swp,g4],by simp only; omega,?_⟩ (by simp only; omega)
      ·exact bE
      ·have:=q1.lv t (by rw [swp_size]; omega)
       have hx1:=hx.2.1
       omega
      ·rw [← g6]
       conv=>rhs; unfold siftDown
       have hne:¬ 2 * r+1 ≥ n:=by omega
       simp [hne,hs,hc2,hl]
     | false =>
      refine al ?_
      have e1:siftDown (jw rev κ) n 0 r h1=h1:=by
       unfold siftDown
       have hne:¬ 2 * r+1 ≥ n:=by omega
       simp [hne,hs,hc2,hl]
      refine hK _ _ r ?_ ?_
      ·exact bE
      ·rw [← g6,e1]; first | exact ⟨g1.drew.drew,g2,g3.drew.drew⟩ | exact ⟨g1.drew,g2,g3.drew⟩
    | false =>
     refine al ?_
     refine jD (hp:=h1) (U:=U) (o:=o) (rev:=rev) (κ:=κ) (d:=d) (by first | exact g1 | exact g1.drew) (n:=n) (by exact g2) (by omega) (by exact hinc) (2 * r+1) r (by omega) (by omega) (by omega) (by omega) ?_
     cases hs:jw rev κ h1[r]! h1[2 * r+1]! with
     | true =>
      refine al ?_
      refine jE (hp:=h1) (U:=U) (o:=o) (rev:=rev) (by first | exact g1.drew.drew | exact g1.drew) r (2 * r+1) (by omega) (by omega) (by omega) (by omega) fun w3 q1 q2 => ?_
      refine al ?_
      have q3:Keep (BZ U o) w1 w3:=by first | exact ((Keep.refl _ w1).drew.drew.trans q2) | exact ((Keep.refl _ w1).drew.trans q2)
      refine hK2 _ _ (2 * r+1,swp h1 r (2 * r+1)) ?_ ⟨q1,(g2.swp (by omega) (by omega) (by omega)).keep q3 (fun t ht hx => ?_),g3.trans q3,by simp [swp,g4],by simp only; omega,?_⟩ (by simp only; omega)
      ·exact bE
      ·have:=q1.lv t (by rw [swp_size]; omega)
       have hx1:=hx.2.1
       omega
      ·rw [← g6]
       conv=>rhs; unfold siftDown
       have hne:¬ 2 * r+1 ≥ n:=by omega
       simp [hne,hs,hc2,hl]
     | false =>
      refine al ?_
      have e1:siftDown (jw rev κ) n 0 r h1=h1:=by
       unfold siftDown
       have hne:¬ 2 * r+1 ≥ n:=by omega
       simp [hne,hs,hc2,hl]
      refine hK _ _ r ?_ ?_
      ·exact bE
      ·rw [← g6,e1]; first | exact ⟨g1.drew.drew,g2,g3.drew.drew⟩ | exact ⟨g1.drew,g2,g3.drew⟩
   ·have hc2':¬ (2 * r+1+1:Int) < n:=by omega
    have hc3:¬ (2 * r+1+1 < n):=by omega
    refine eI @hc' @hc0 @hc2' ?_
    refine jD (hp:=h1) (U:=U) (o:=o) (rev:=rev) (κ:=κ) (d:=d) (by first | exact g1 | exact g1.drew) (n:=n) (by exact g2) (by omega) (by exact hinc) (2 * r+1) r (by omega) (by omega) (by omega) (by omega) ?_
    cases hs:jw rev κ h1[r]! h1[2 * r+1]! with
    | true =>
     refine al ?_
     refine jE (hp:=h1) (U:=U) (o:=o) (rev:=rev) (by first | exact g1.drew.drew | exact g1.drew) r (2 * r+1) (by omega) (by omega) (by omega) (by omega) fun w3 q1 q2 => ?_
     refine al ?_
     have q3:Keep (BZ U o) w1 w3:=by first | exact ((Keep.refl _ w1).drew.drew.trans q2) | exact ((Keep.refl _ w1).drew.trans q2)
     refine hK2 _ _ (2 * r+1,swp h1 r (2 * r+1)) ?_ ⟨q1,(g2.swp (by omega) (by omega) (by omega)).keep q3 (fun t ht hx => ?_),g3.trans q3,by simp [swp,g4],by simp only; omega,?_⟩ (by simp only; omega)
     ·exact bE
     ·have:=q1.lv t (by rw [swp_size]; omega)
      have hx1:=hx.2.1
      omega
     ·rw [← g6]
      conv=>rhs; unfold siftDown
      have hne:¬ 2 * r+1 ≥ n:=by omega
      simp [hne,hs,hc3]
    | false =>
     refine al ?_
     have e1:siftDown (jw rev κ) n 0 r h1=h1:=by
      unfold siftDown
      have hne:¬ 2 * r+1 ≥ n:=by omega
      simp [hne,hs,hc3]
     refine hK _ _ r ?_ ?_
     ·exact bE
     ·rw [← g6,e1]; first | exact ⟨g1.drew.drew,g2,g3.drew.drew⟩ | exact ⟨g1.drew,g2,g3.drew⟩
  ·have hc':(n:Int)≤2 * r+1:=by omega
   refine bf @hc' ?_
   have e1:siftDown (jw rev κ) n 0 r h1=h1:=by
    unfold siftDown
    simp [show n≤2 * r+1 by omega]
   refine hK _ _ r ?_ ?_
   ·exact bE
   ·rw [← g6,e1]; exact ⟨g1,g2,g3⟩
 rintro e3 j w1 ⟨g1,g2,g3⟩
 refine al ?_
 exact hk _ _ g1 g2 g3
def FU (rev:Bool) (κ:Nat→Bytes) (hp:Array Nat):Prop:=∀ i,i < hp.size→Ok (jw rev κ) 0 hp.size hp i
theorem FU.root {rev:Bool} {κ:Nat→Bytes} {hp:Array Nat} (h:FU rev κ hp) {j:Nat} (hj:j < hp.size):jw rev κ hp[0]! hp[j]! = false:=by
 have:=root_max (F:=0) (hi:=hp.size) (d:=hp) (rL rev κ) h j j (aD _) hj
 simpa using this
theorem qX (g:HeapAt w H h U o rev hp) (gk:gv d w U o κ hp hp.size) (hd:bz d w) (hU:cq d U) (h0:0 < hp.size)
    (hk:∀ w',HeapAt w' H h U o rev (siftDown (jw rev κ) hp.size 0 0 hp)→gv d w' U o κ (siftDown (jw rev κ) hp.size 0 0 hp) hp.size→Keep (BZ U o) w w'→k (.tuple #[]) w') :
    aX prog 221 #[.pointer (some ⟨H,h,none⟩),.int .i64 0] k w:=by
 refine ai [] func221 ?_
 refine al ?_
 refine fm g ?_
 refine al ?_
 refine kY (κ:=κ) g gk hd hU 0 rfl rfl (aQ _) (aD _) fun w2 b g1 g2 g3 => ?_
 cases b with
 | true =>
  refine al ?_
  exact hk _ g1 g2 g3
 | false =>
  refine al ?_
  refine ai [] func226 ?_
  refine al ?_
  refine bO (fun _:Unit=>[(0,.pointer (some ⟨H,h,none⟩)),(1,.int .i64 0)]) (fun _ w'=>w'=w2) (fun _ _=>0) () (by kernel_rfl) ?_ rfl ?_
  ·exact bE
  rintro K e _ w3 hw hK
  have hw:=hw.symm
  subst hw
  have two:(2:Int)≠0:=by decide
  have z:((0:Int) - 1).tdiv 2=0:=rfl
  simp (disch:=first | exact dZ | fail) only [go_sem,fi two,z]
  exact hk _ g1 g2 g3
theorem vY (g:HeapAt w H h U o rev hp) (gk:gv d w U o κ hp hp.size) (hd:bz d w) (hU:cq d U)
    (hk:∀ w' hp',HeapAt w' H h U o rev hp'→gv d w' U o κ hp' hp.size→FU rev κ hp'→PermIn 0 hp.size hp hp'→Keep (BZ U o) w w'→k (.tuple #[]) w') :
    aX prog 219 #[.pointer (some ⟨H,h,none⟩)] k w:=by
 have hr:=g.room
 have two:(2:Int)≠0:=by decide
 have z:((hp.size:Int)).tdiv 2=(hp.size / 2:Nat):=om _ 2
 have hb:=build (rL rev κ) hp.size 0 (hp.size / 2) hp (by omega) (fun i h1 h2 c hc hc2=>by omega)
 refine ai [] func219 ?_
 refine al ?_
 refine fm g ?_
 simp (disch:=first | exact dZ | fail) only [go_sem,fi two,z]
 refine bO (fun x:Nat × Array Nat=>[(0,.pointer (some ⟨H,h,none⟩)),(2,.int .i64 hp.size),(3,.int .i64 ((x.1:Int) - 1))]) (fun x w'=>HeapAt w' H h U o rev x.2∧gv d w' U o κ x.2 hp.size∧Keep (BZ U o) w w'∧x.2.size=hp.size∧x.1≤hp.size∧heapBuild (jw rev κ) hp.size 0 x.1 x.2=heapBuild (jw rev κ) hp.size 0 (hp.size / 2) hp) (fun x _=>x.1) (hp.size / 2,hp) (by kernel_rfl) ?_ ⟨g,gk,Keep.refl _ _,rfl,by simp only; omega,rfl⟩ ?_
 ·exact bE
 rintro K e ⟨r,h1⟩ w1 ⟨g1,g2,g3,g4,g5,g6⟩ hK
 simp only at g1 g2 g3 g4 g5 g6
 have hinc:bz d w1:=hd.keep g3 (fun x o' hx=>by rw [hx.1]; exact hU o')
 cases r with
 | zero =>
  have hc:¬ (0:Int)≤((0:Nat):Int) - 1:=by omega
  refine bf @hc ?_
  have e1:h1=heapBuild (jw rev κ) hp.size 0 (hp.size / 2) hp:=g6
  refine hk _ h1 g1 g2 ?_ ?_ g3
  ·intro i hi
   have:=hb.1 i (by omega)
   rw [← e1] at this
   rw [g4]; exact this
  ·rw [e1]
   have:=hb.2
   rwa [Nat.zero_add] at this
 | succ r =>
  have hc:(0:Int)≤((r+1:Nat):Int) - 1:=by omega
  refine bf @hc ?_
  refine kY (κ:=κ) g1 g2 hinc hU r (by omega) rfl (by omega) (by omega) fun w2 b q1 q2 q3 => ?_
  refine al ?_
  refine hK _ _ (r,siftDown (jw rev κ) hp.size 0 r h1) ?_ ⟨q1,q2,g3.trans q3,by simp only; rw [iZ _ _ _ _ _ _ (aD _)]; exact g4,by simp only; omega,g6⟩ (by simp)
  exact bE
theorem qY (g:HeapAt w H h U o rev hp) (gk:∀ j,0 < j→j < hp.size→∃ v,w.cell? ⟨U,o+10+hp[j]! * 4+2,none⟩=some v∧fV d v (κ hp[j]!)) (hd:bz d w) (hU:cq d U) (h0:0 < hp.size)
    (hk:∀ w' hp' v,HeapAt w' H h U o rev hp'→hp'=(siftDown (jw rev κ) (hp.size - 1) 0 0 (swp hp 0 (hp.size - 1))).pop→Keep (fun b x=>BZ U o b x∨b=H∧x=h+2) w w'→k v w') :
    aX prog 220 #[.pointer (some ⟨H,h,none⟩)] k w:=by
 have hr:=g.room
 obtain ⟨n,hn⟩:∃ n,hp.size=n+1:=⟨hp.size - 1,by omega⟩
 have hn':(hp.size:Int) - 1=n:=by omega
 rw [show hp.size - 1=n by omega] at hk
 refine ai [.tmp 2] func220 ?_
 refine al ?_
 refine fm g ?_
 refine bf @hn' ?_
 refine jE g 0 n rfl rfl h0 (by omega) fun w1 g1 k1 => ?_
 have gk0:gv d w U o κ (swp hp 0 n) n:=by
  intro j hj
  rw [swp_get hp h0 (by omega),if_neg (by omega)]
  by_cases hj0:j=0
  ·rw [if_pos hj0]; exact gk n (by omega) (by omega)
  ·rw [if_neg hj0]; exact gk j (by omega) (by omega)
 have gk1:gv d w1 U o κ (swp hp 0 n) n:=gk0.keep k1 (fun j hj hx=>by have:=g1.lv j (by rw [swp_size]; omega); have:=hx.2.1; omega)
 have i1:bz d w1:=hd.keep k1 (fun x o' hx=>by rw [hx.1]; exact hU o')
 refine al ?_
 refine kY (κ:=κ) g1 gk1 i1 hU 0 rfl rfl (aQ _) (by rw [swp_size]; omega) fun w2 b g2 gk2 k2 => ?_
 obtain ⟨h2,hh2⟩:∃ h2,h2=siftDown (jw rev κ) n 0 0 (swp hp 0 n):=⟨_,rfl⟩
 rw [← hh2] at g2 hk
 have hz:h2.size=n+1:=by rw [hh2,iZ _ _ _ _ _ _ (aD _),swp_size,hn]
 have c2:=g2.c2
 have fH:=g2.fH
 rw [hz] at c2
 simp (disch:=first | exact dZ | fail) only [go_sem,c2,sD Tryz.es161,fH]
 have ne:=g2.ne
 have ne':=Ne.symm ne
 have pz:h2.pop.size=n:=by simp [hz]
 have pg:∀ j,j < n→h2.pop[j]! = h2[j]! := by
  intro j hj
  rw [aG _ j (by omega),aG _ j (by omega)]
  simp
 refine hk _ h2.pop _ ⟨?_,?_,?_,?_,?_,by omega,?_,?_,?_,ne,fun x h1 h2=>eQ (g2.ex x h1 h2)⟩ rfl ?_
 ·have:=g2.c0
  exact bb @this
 ·have:=g2.c1
  exact bb @this
 ·rw [pz]
  exact bb @c2
 ·intro j hj
  rw [pz] at hj
  rw [pg j hj]
  have:=g2.ptr j (by omega)
  exact bb @this
 ·intro j hj
  rw [pz] at hj
  rw [pg j hj]
  have:=g2.ix j (by omega)
  exact bb @this
 ·intro j hj
  rw [pz] at hj
  rw [pg j hj]
  exact g2.lv j (by omega)
 ·intro o'
  have:=g2.fU o'
  exact bb @this
 ·intro o'
  have:=g2.fH o'
  exact bb @this
 ·exact ((k1.trans k2).mono fun b x _ hx => .inl hx).set (fun _ => .inr ⟨rfl,rfl⟩)
end
end Go.Proofs
end
section
namespace Go.E
open Go Go.Sort Go.Proofs.Tryz
theorem eo {v:Value} (h:rK v=true):∃ a n c,v = .slice (some a) n c:=by
 unfold rK at h
 split at h
 ·exact ⟨_,_,_,rfl⟩
 ·simp at h
def eg (L:List Sp) (p:Nat):Bytes:=if p % 2=0 then L[p / 2]!.s else L[p / 2]!.e
def ez (L:List Sp) (p:Int):Prop:=0≤p∧p < 2 * L.length
instance (L:List Sp) (p:Int):Decidable (ez L p):=inferInstanceAs (Decidable (_∧_))
def et (L:List Sp) (p:Int):Int:=if ez L p then (if p % 2=0 then 1 else 2) else 0
theorem kZ {L:List Sp} {p:Int} (h:ez L p) (h2:p % 2=0):et L p=1:=by unfold et; rw [if_pos h,if_pos h2]
theorem xZ {L:List Sp} {p:Int} (h:ez L p) (h2:p % 2=1):et L p=2:=by unfold et; rw [if_pos h,if_neg (by omega)]
theorem jL {L:List Sp} {p:Int} (h:¬ ez L p):et L p=0:=by unfold et; rw [if_neg h]
structure LvAt (d w:World) (U a I b o:Nat) (L:List Sp) (p:Int):Prop where
 it:w.cell? ⟨U,a,none⟩=some (.iface 233 (.pointer (some ⟨I,0,none⟩)))
 kd:w.cell? ⟨U,a+1,none⟩=some (.int .i8 (et L p))
 ky:∃ v,w.cell? ⟨U,a+2,none⟩=some v∧v.cells = #[v]∧(ez L p→rK v=true∧fV d v (eg L p.toNat))
 sp:∃ v,w.cell? ⟨U,a+3,none⟩=some v∧v.cells = #[v]∧(ez L p→v=uN b o (p.toNat / 2))
 iter:IterAt w I b o L.length (p / 2)
 rg : -1≤p∧p≤2 * L.length
 fU:∀ x,w.frozen? ⟨U,x,none⟩=false
def Ev (U a I:Nat):Nat→Nat→Prop:=fun b x=>b=U∧a+1≤x∧x≤a+3∨b=I∧x=2
def lx (L:List Sp) (p:Int):Int:=if p=2 * L.length then p else p+1
def ly (p:Int):Int:=if p = -1 then p else p - 1
theorem LvAt.keep {d w w2:World} {U a I b o:Nat} {L:List Sp} {p:Int} {M:Nat→Nat→Prop} (g:LvAt d w U a I b o L p) (hk:Keep M w w2) (h1:∀ x,a≤x→x≤a+3→¬ M U x) (h2:∀ x,¬ M I x):LvAt d w2 U a I b o L p where
 it:=hk.some g.it (h1 _ (by omega) (by omega))
 kd:=hk.some g.kd (h1 _ (by omega) (by omega))
 ky:=by obtain ⟨v,q1,q2⟩:=g.ky; exact ⟨v,hk.some q1 (h1 _ (by omega) (by omega)),q2⟩
 sp:=by obtain ⟨v,q1,q2⟩:=g.sp; exact ⟨v,hk.some q1 (h1 _ (by omega) (by omega)),q2⟩
 iter:=g.iter.keep hk h2
 rg:=g.rg
 fU x:=by rw [hk.frozen U x (aE g.it)]; exact g.fU x
theorem LvAt.drew {d w:World} {U a I b o:Nat} {L:List Sp} {p:Int} (g:LvAt d w U a I b o L p):LvAt d w.drew U a I b o L p:=⟨g.it,g.kd,g.ky,g.sp,g.iter.drew,g.rg,g.fU⟩
theorem LvAt.mk' {d w w2:World} {U a I b o:Nat} {L:List Sp} {p q:Int} (g:LvAt d w U a I b o L p) (hUI:U≠I) (hq : -1≤q∧q≤2 * L.length) {x:Int} {y z:Value} (hit:IterAt w2 I b o L.length (q / 2)) (hk:Keep (zM I) w w2) (hx:x=et L q)
    (hyc:y.cells = #[y]) (hzc:z.cells = #[z]) (hy:ez L q→rK y=true∧fV d y (eg L q.toNat)) (hz:ez L q→z=uN b o (q.toNat / 2)) :
    LvAt d (((w2.setCell ⟨U,a+1,none⟩ (.int .i8 x)).setCell ⟨U,a+2,none⟩ y).setCell ⟨U,a+3,none⟩ z) U a I b o L q:=by
 have hm:∀ x,¬ zM I U x:=fun x h=>hUI h.1
 have k1:∃ v,w2.cell? ⟨U,a+1,none⟩=some v:=⟨_,hk.some g.kd (hm _)⟩
 have k2:∃ v,w2.cell? ⟨U,a+2,none⟩=some v:=by obtain ⟨v,q1,q2⟩:=g.ky; exact ⟨v,hk.some q1 (hm _)⟩
 have k3:∃ v,w2.cell? ⟨U,a+3,none⟩=some v:=by obtain ⟨v,q1,q2⟩:=g.sp; exact ⟨v,hk.some q1 (hm _)⟩
 obtain ⟨v1,k1⟩:=k1
 obtain ⟨v2,k2⟩:=k2
 obtain ⟨v3,k3⟩:=k3
 have k0:=hk.some g.it (hm _)
 refine ⟨?_,?_,⟨y,?_,hyc,hy⟩,⟨z,?_,hzc,hz⟩,?_,hq,?_⟩
 ·exact bb @k0
 ·subst hx
  exact bb @k1
 ·exact bb @k2
 ·exact bb @k3
 ·have hkk:Keep (fun b _=>b=U) w2 (((w2.setCell ⟨U,a+1,none⟩ (.int .i8 x)).setCell ⟨U,a+2,none⟩ y).setCell ⟨U,a+3,none⟩ z) :=
    (((Keep.refl (fun b _=>b=U) w2).set (b:=U) (fun _=>rfl)).set (b:=U) (fun _=>rfl)).set (b:=U) (fun _=>rfl)
  exact hit.keep hkk (fun o' h=>hUI h.symm)
 ·intro x
  have:=hk.frozen U x (aE g.it)
  rw [g.fU] at this
  exact bb @this
theorem jg {w w2:World} {U a I:Nat} {x y z:Value} (hk:Keep (zM I) w w2):Keep (Ev U a I) w (((w2.setCell ⟨U,a+1,none⟩ x).setCell ⟨U,a+2,none⟩ y).setCell ⟨U,a+3,none⟩ z) :=
 (((hk.mono (fun b o _ h => .inr ⟨h.1,h.2⟩)).set (fun _ => .inl ⟨rfl,by omega,by omega⟩)).set (fun _ => .inl ⟨rfl,by omega,by omega⟩)).set (fun _ => .inl ⟨rfl,by omega,by omega⟩)
end Go.E
namespace Go.Proofs
open Go Go.E Go.Sort Go.Proofs.Tryz
section
variable {k:aq} {w d:World} {U a I b o:Nat} {L:List Sp} {p:Int}
theorem mn (g:LvAt d w U a I b o L p) (hd:bz d w) (hU:cq d U) (hI:cq d I) (hUI:U≠I) (hs:jf d b o L) (hn:L.length < 1000000)
    (hk:∀ w',LvAt d w' U a I b o L (lx L p)→Keep (Ev U a I) w w'→k (.tuple #[]) w'):aX prog 215 #[.pointer (some ⟨U,a,none⟩)] k w:=by
 have c0:=g.it
 have c1:=g.kd
 obtain ⟨v2,c2,_,y2⟩:=g.ky
 obtain ⟨v3,c3,_,y3⟩:=g.sp
 have fU:=g.fU
 obtain ⟨r1,r2⟩:=g.rg
 refine ai [] func215 ?_
 by_cases hv:ez L p∧p % 2=0
 ·obtain ⟨hv1,hv2⟩:=hv
  have e1:et L p=1:=by unfold et; rw [if_pos hv1,if_pos hv2]
  rw [e1] at c1
  have e3:=y3 hv1
  subst e3
  obtain ⟨j,hj⟩:∃ j:Nat,p=2 * j:=⟨(p / 2).toNat,by unfold ez at hv1; omega⟩
  subst hj
  have hj2:((2 * j:Int)).toNat / 2=j:=by omega
  rw [hj2] at c3
  unfold ez at hv1
  obtain ⟨_,⟨ve,se1,se2,se3⟩,_⟩:=hs j (by omega)
  have se:=hd _ _ _ se1
  obtain ⟨ea,en,ec,rfl⟩:=eo se2
  have e4:lx L (2 * j)=2 * j+1:=by unfold lx; rw [if_neg (by omega)]
  rw [e4] at hk
  refine bf @c1 ?_
  refine ay (sq [0,1,2,3,4] (.read 5 (sq [6,7] (.read 8 (sq [9,10,11,12] (.read 13 (sq [14,15,16] (.eff 17 [] .done)))))))) ?_
  simp (disch:=first | exact dZ | fail) only [go_sem,c3,uN,se,c1,c2,fU]
  refine hk _ ?_ ?_
  ·refine (g.mk' (q:=2 * j+1) hUI (by omega) (by have:=g.iter; rwa [show (2 * (j:Int)+1) / 2=2 * (j:Int) / 2 by omega]) (Keep.refl _ w) ?_ rfl rfl (fun _=>⟨rfl,?_⟩) (fun _ => ?_)).drew
   ·exact (xZ ⟨by omega,by omega⟩ (by omega)).symm
   ·unfold eg
    rw [if_neg (by omega),show (2 * (j:Int)+1).toNat / 2=j by omega]; exact se3
   ·rw [show (2 * (j:Int)+1).toNat / 2=j by omega]; rfl
  ·exact (jg (Keep.refl _ w)).drew
 ·have e1:((et L p) == 1)=false:=by
    unfold et
    split
    ·split
     ·exact absurd ⟨by assumption,by assumption⟩ hv
     ·rfl
    ·rfl
  refine eI @c0 @c1 @e1 ?_
  have hit:=g.iter
  refine vW hit (by omega) (by omega) (by omega) fun w2 i2 k2 => ?_
  have ei:lq L.length (p / 2)=lx L p / 2:=by
   unfold lq lx
   unfold ez at hv
   split <;> split <;> omega
  rw [ei] at i2 ⊢
  have hm:∀ x,¬ zM I U x:=fun x h=>hUI h.1
  have f2:∀ x,w2.frozen? ⟨U,x,none⟩=false:=fun x=>by rw [k2.frozen U x (aE c0)]; exact fU x
  have q0:=k2.some c0 (hm _)
  have q1:=k2.some c1 (hm _)
  have q2:=k2.some c2 (hm _)
  have q3:=k2.some c3 (hm _)
  have nr : -1≤lx L p∧lx L p≤2 * L.length:=by unfold lx; split <;> omega
  have hd2:bz d w2:=hd.keep k2 (fun x o' hx=>by rw [hx.1]; exact hI o')
  by_cases hv2:ez L (lx L p)
  ·have ev:lx L p % 2=0:=by
     unfold ez lx at *
     split at hv2 <;> split <;> omega
   obtain ⟨j,hj⟩:∃ j:Nat,lx L p=2 * j:=⟨(lx L p / 2).toNat,by unfold ez at hv2; omega⟩
   have hjl:j < L.length:=by unfold ez at hv2; omega
   have er:iv b o L.length (lx L p / 2)=uN b o j:=by
    unfold iv
    rw [if_pos (by omega),show (lx L p / 2).toNat=j by omega]
   rw [er]
   obtain ⟨⟨vs,se1,se2,se3⟩,_⟩:=hs j hjl
   have se:=hd2 _ _ _ se1
   obtain ⟨ea,en,ec,rfl⟩:=eo se2
   simp (disch:=first | exact dZ | fail) only [go_sem,uN,Option.isNone_some,se,q1,q2,q3,f2]
   refine hk _ ?_ ?_
   ·refine g.mk' hUI nr i2 k2 ?_ rfl rfl (fun _=>⟨rfl,?_⟩) (fun _ => ?_)
    ·unfold et; rw [if_pos hv2,if_pos ev]
    ·unfold eg
     rw [if_pos (by omega),show (lx L p).toNat / 2=j by omega]; exact se3
    ·rw [show (lx L p).toNat / 2=j by omega]; rfl
   ·exact jg k2
  ·have er:iv b o L.length (lx L p / 2) = .pointer none:=by
     unfold iv
     rw [if_neg (by unfold ez at hv2; omega)]
   rw [er]
   simp (disch:=first | exact dZ | fail) only [go_sem,Option.isNone_none,q1,q2,q3,f2]
   refine hk _ ?_ ?_
   ·refine g.mk' hUI nr i2 k2 ?_ rfl rfl (fun h=>absurd h hv2) (fun h=>absurd h hv2)
    unfold et; rw [if_neg hv2]
   ·exact jg k2
theorem mo (g:LvAt d w U a I b o L p) (hd:bz d w) (hU:cq d U) (hI:cq d I) (hUI:U≠I) (hs:jf d b o L) (hn:L.length < 1000000)
    (hk:∀ w',LvAt d w' U a I b o L (ly p)→Keep (Ev U a I) w w'→k (.tuple #[]) w'):aX prog 216 #[.pointer (some ⟨U,a,none⟩)] k w:=by
 have c0:=g.it
 have c1:=g.kd
 obtain ⟨v2,c2,_,y2⟩:=g.ky
 obtain ⟨v3,c3,_,y3⟩:=g.sp
 have fU:=g.fU
 obtain ⟨r1,r2⟩:=g.rg
 refine ai [] func216 ?_
 by_cases hv:ez L p∧p % 2=1
 ·obtain ⟨hv1,hv2⟩:=hv
  have e1:et L p=2:=by unfold et; rw [if_pos hv1,if_neg (by omega)]
  rw [e1] at c1
  have e3:=y3 hv1
  subst e3
  obtain ⟨j,hj⟩:∃ j:Nat,p=2 * j+1:=⟨(p / 2).toNat,by unfold ez at hv1; omega⟩
  subst hj
  have hj2:((2 * j+1:Int)).toNat / 2=j:=by omega
  rw [hj2] at c3
  unfold ez at hv1
  obtain ⟨⟨ve,se1,se2,se3⟩,_⟩:=hs j (by omega)
  have se:=hd _ _ _ se1
  obtain ⟨ea,en,ec,rfl⟩:=eo se2
  have e4:ly (2 * j+1)=2 * j:=by unfold ly; rw [if_neg (by omega)]; omega
  rw [e4] at hk
  refine bf @c1 ?_
  refine ay (sq [0,1,2,3,4] (.read 5 (sq [6,7] (.read 8 (sq [9,10,11,12] (.read 13 (sq [14,15,16] (.eff 17 [] .done)))))))) ?_
  simp (disch:=first | exact dZ | fail) only [go_sem,c3,uN,se,c1,c2,fU]
  refine hk _ ?_ ?_
  ·refine (g.mk' (q:=2 * j) hUI (by omega) (by have:=g.iter; rwa [show (2 * (j:Int)) / 2=(2 * (j:Int)+1) / 2 by omega]) (Keep.refl _ w) ?_ rfl rfl (fun _=>⟨rfl,?_⟩) (fun _ => ?_)).drew
   ·exact (kZ ⟨by omega,by omega⟩ (by omega)).symm
   ·unfold eg
    rw [if_pos (by omega),show (2 * (j:Int)).toNat / 2=j by omega]; exact se3
   ·rw [show (2 * (j:Int)).toNat / 2=j by omega]; rfl
  ·exact (jg (Keep.refl _ w)).drew
 ·have e1:((et L p) == 2)=false:=by
    unfold et
    split
    ·split
     ·rfl
     ·exact absurd ⟨by assumption,by omega⟩ hv
    ·rfl
  refine eI @c0 @c1 @e1 ?_
  have hit:=g.iter
  refine vX hit (by omega) (by omega) (by omega) fun w2 i2 k2 => ?_
  have ei:lu (p / 2)=ly p / 2:=by
   unfold lu ly
   unfold ez at hv
   split <;> split <;> omega
  rw [ei] at i2 ⊢
  have hm:∀ x,¬ zM I U x:=fun x h=>hUI h.1
  have f2:∀ x,w2.frozen? ⟨U,x,none⟩=false:=fun x=>by rw [k2.frozen U x (aE c0)]; exact fU x
  have q0:=k2.some c0 (hm _)
  have q1:=k2.some c1 (hm _)
  have q2:=k2.some c2 (hm _)
  have q3:=k2.some c3 (hm _)
  have nr : -1≤ly p∧ly p≤2 * L.length:=by unfold ly; split <;> omega
  have hd2:bz d w2:=hd.keep k2 (fun x o' hx=>by rw [hx.1]; exact hI o')
  by_cases hv2:ez L (ly p)
  ·have ev:ly p % 2=1:=by
     unfold ez ly at *
     split at hv2 <;> split <;> omega
   obtain ⟨j,hj⟩:∃ j:Nat,ly p=2 * j+1:=⟨(ly p / 2).toNat,by unfold ez at hv2; omega⟩
   have hjl:j < L.length:=by unfold ez at hv2; omega
   have er:iv b o L.length (ly p / 2)=uN b o j:=by
    unfold iv
    rw [if_pos (by omega),show (ly p / 2).toNat=j by omega]
   rw [er]
   obtain ⟨_,⟨vs,se1,se2,se3⟩,_⟩:=hs j hjl
   have se:=hd2 _ _ _ se1
   obtain ⟨ea,en,ec,rfl⟩:=eo se2
   simp (disch:=first | exact dZ | fail) only [go_sem,uN,Option.isNone_some,se,q1,q2,q3,f2]
   refine hk _ ?_ ?_
   ·refine g.mk' hUI nr i2 k2 ?_ rfl rfl (fun _=>⟨rfl,?_⟩) (fun _ => ?_)
    ·unfold et; rw [if_pos hv2,if_neg (by omega)]
    ·unfold eg
     rw [if_neg (by omega),show (ly p).toNat / 2=j by omega]; exact se3
    ·rw [show (ly p).toNat / 2=j by omega]; rfl
   ·exact jg k2
  ·have er:iv b o L.length (ly p / 2) = .pointer none:=by
     unfold iv
     rw [if_neg (by unfold ez at hv2; omega)]
   rw [er]
   simp (disch:=first | exact dZ | fail) only [go_sem,Option.isNone_none,q1,q2,q3,f2]
   refine hk _ ?_ ?_
   ·refine g.mk' hUI nr i2 k2 ?_ rfl rfl (fun h=>absurd h hv2) (fun h=>absurd h hv2)
    unfold et; rw [if_neg hv2]
   ·exact jg k2
end
end Go.Proofs
end
