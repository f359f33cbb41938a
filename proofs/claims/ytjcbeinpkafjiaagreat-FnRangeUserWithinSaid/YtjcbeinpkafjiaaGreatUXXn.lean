/- Parts of the proof: Xn. -/
import Derived.Test.YtjcbeinpkafjiaaGreatU21
import Derived.Test.YtjcbeinpkafjiaaGreatUXXm
set_option linter.all false
set_option maxRecDepth 10000
namespace Go.E
open Go Go.Sort Go.Proofs Go.Proofs.Tryz
structure CurO (w:World) (C n:Nat) (a:Int) (ok af be:Bool):Prop where
 c0:w.cell? ⟨C,0,none⟩=some (.int .i64 n)
 c1:w.cell? ⟨C,1,none⟩=some (.int .i64 a)
 c2:w.cell? ⟨C,2,none⟩=some (.bool ok)
 c3:w.cell? ⟨C,3,none⟩=some (.bool af)
 c4:w.cell? ⟨C,4,none⟩=some (.bool be)
 c5:w.cell? ⟨C,5,none⟩=some (.bool false)
 fz:∀ y,w.frozen? ⟨C,y,none⟩=false
theorem CurO.keep {M:Nat→Nat→Prop} {w w2:World} {C n:Nat} {a:Int} {ok af be:Bool} (h:CurO w C n a ok af be) (k:Keep M w w2) (hm:∀ o,¬ M C o):CurO w2 C n a ok af be :=
 ⟨k.some h.c0 (hm _),k.some h.c1 (hm _),k.some h.c2 (hm _),k.some h.c3 (hm _),k.some h.c4 (hm _),k.some h.c5 (hm _),fun y=>by rw [k.frozen C y (lt_of_cell h.c0)]; exact h.fz y⟩
theorem CurO.clear {w:World} {C n:Nat} {a:Int} {ok af be:Bool} (h:CurO w C n a ok af be):CurO ((w.setCell ⟨C,3,none⟩ (.bool false)).setCell ⟨C,4,none⟩ (.bool false)) C n a ok false false ∧
    Keep (fun b _=>b=C) w ((w.setCell ⟨C,3,none⟩ (.bool false)).setCell ⟨C,4,none⟩ (.bool false)):=by
 refine ⟨⟨?_,?_,?_,?_,?_,?_,fun y => ?_⟩,((Keep.refl (M:=fun b _=>b=C) w).set fun _=>rfl).set fun _=>rfl⟩
 all_goals simp (disch:=first | exact dZ | fail) only [go_sem,↓reduceIte,Nat.reduceEqDiff,Nat.reduceAdd,h.c0,h.c1,h.c2,h.c3,h.c4,h.c5,h.fz]
 all_goals rfl
theorem CurO.move {w:World} {C n:Nat} {a:Int} {ok af be:Bool} (h:CurO w C n a ok af be) (p:Int):CurO (w.setCell ⟨C,1,none⟩ (.int .i64 p)) C n p ok af be∧Keep (fun b _=>b=C) w (w.setCell ⟨C,1,none⟩ (.int .i64 p)):=by
 refine ⟨⟨?_,?_,?_,?_,?_,?_,fun y => ?_⟩,(Keep.refl (M:=fun b _=>b=C) w).set fun _=>rfl⟩
 all_goals simp (disch:=first | exact dZ | fail) only [go_sem,↓reduceIte,Nat.reduceEqDiff,Nat.reduceAdd,h.c0,h.c1,h.c2,h.c3,h.c4,h.c5,h.fz]
 all_goals rfl
end Go.E
namespace Go.Proofs
open Go Go.E Go.Sort Go.Proofs.Tryz
section
variable {k:Kont} {d w:World}
theorem place_run {C n:Nat} {a p:Int} {ok af be fw:Bool} (h:CurO w C n a ok af be) (hk:∀ w',CurO w' C n p (decide (0≤p∧p < n)) (!decide (0≤p∧p < n) && fw) (!decide (0≤p∧p < n) && !fw)→Keep (fun b _=>b=C) w w'→k (.tuple #[]) w') :
    callK prog 111 #[.pointer (some ⟨C,0,none⟩),.int .i64 p,.bool fw] k w:=by
 obtain ⟨c0,c1,c2,c3,c4,c5,fz⟩:=h
 have kk:∀ {w2:World} {o:Nat} {v:Value},Keep (fun b _=>b=C) w w2→Keep (fun b _=>b=C) w (w2.setCell ⟨C,o,none⟩ v):=fun h=>Keep.set h fun _=>rfl
 refine callZ [] func111 ?_
 by_cases q1:0≤p
 ·by_cases q2:p < n
  ·have e:decide (0≤p∧p < n)=true:=decide_eq_true ⟨q1,q2⟩
   rw [e] at hk
   refine gY9 @c0 @c1 @c2 @c3 @c4 @c5 @fz @q1 @q2 ?_
   refine hk _ ⟨?_,?_,?_,?_,?_,?_,fun y => ?_⟩ (kk (kk (kk (kk (kk (Keep.refl _ w))))))
   all_goals simp (disch:=first | exact dZ | fail) only [go_sem,↓reduceIte,Nat.reduceEqDiff,Nat.reduceAdd,c0,c1,c2,c3,c4,c5,fz]
   all_goals simp
  ·have e:decide (0≤p∧p < n)=false:=decide_eq_false fun h=>q2 h.2
   rw [e] at hk
   refine gY9 @c0 @c1 @c2 @c3 @c4 @c5 @fz @q1 @q2 ?_
   refine hk _ ⟨?_,?_,?_,?_,?_,?_,fun y => ?_⟩ (kk (kk (kk (kk (kk (Keep.refl _ w))))))
   all_goals simp (disch:=first | exact dZ | fail) only [go_sem,↓reduceIte,Nat.reduceEqDiff,Nat.reduceAdd,c0,c1,c2,c3,c4,c5,fz]
   all_goals simp
 ·have e:decide (0≤p∧p < n)=false:=decide_eq_false fun h=>q1 h.1
  rw [e] at hk
  refine gY8 @c0 @c1 @c2 @c3 @c4 @c5 @fz @q1 ?_
  refine hk _ ⟨?_,?_,?_,?_,?_,?_,fun y => ?_⟩ (kk (kk (kk (kk (kk (Keep.refl _ w))))))
  all_goals simp (disch:=first | exact dZ | fail) only [go_sem,↓reduceIte,Nat.reduceEqDiff,Nat.reduceAdd,c0,c1,c2,c3,c4,c5,fz]
  all_goals simp
def stepN (n:Nat) (a:Int) (op:Nat) (ge:Nat) (lt:Int):Int:=if op=0 then 0 else if op=1 then (n:Int) - 1 else if op=2 then a+1 else if op=3 then a - 1 else if op=4 then ge else lt
theorem step_run {C n op ge:Nat} {a lt:Int} {ok af be:Bool} (h:CurO w C n a ok af be) (hop:op < 256) (hge:ge≤100000) (hn:n≤100000) (hlt : -100000≤lt∧lt≤100000) (ha : -100000≤a∧a≤100000)
    (hno:∀ w',¬ (op=0∨op=1∨op=4∨op=5∨op=2∧(ok || be)=true∨op=3∧(ok || af)=true)→Ext w w'→k (.tuple #[.bool false,.bool false]) w')
    (hk:∀ w' p i,(op=0∨op=1∨op=4∨op=5∨op=2∧(ok || be)=true∨op=3∧(ok || af)=true)→p=stepN n a op ge lt→i=decide (0≤p∧p < n)→CurO w' C n p i (!i && decide (op=2∨op=4)) (!i && decide (op=3∨op=5))→Keep (fun b _=>b=C) w w'→k (.tuple #[.bool true,.bool i]) w') :
    callK prog 69 #[.pointer (some ⟨C,0,none⟩),.int .u8 op,.int .i64 ge,.int .i64 lt] k w:=by
 have hh:=h
 obtain ⟨c0,c1,c2,c3,c4,c5,fz⟩:=h
 refine callZ [.tmp 8,.tmp 9] func69 ?_
 refine goZ ?_
 have hw1:∀ {x:Int},-200000≤x→x≤200000→IntKind.i64.wrap x=x:=fun h1 h2=>i64_of (by omega) (by omega)
 have fin:∀ {w':World} {p:Int} {i af2 be2:Bool},(op=0∨op=1∨op=4∨op=5∨op=2∧(ok || be)=true∨op=3∧(ok || af)=true)→p=stepN n a op ge lt→i=decide (0≤p∧p < n)→CurO w' C n p i af2 be2→af2=(!i && decide (op=2∨op=4))→be2=(!i && decide (op=3∨op=5))→Keep (fun b _=>b=C) w w'→k (.tuple #[.bool true,.bool i]) w'.drew:=fun h1 h2 h3 h4 h5 h6 h7=>by
  subst h5 h6
  exact hk _ _ _ h1 h2 h3 (h4.keep (Keep.drew (Keep.refl (M:=fun _ _=>False) _)) fun _ h=>h) h7.drew
 rcases (by omega:op=0∨op=1∨op=2∨op=3∨op=4∨op=5∨6≤op) with q | q | q | q | q | q | q
 ·have hs:stepN n a op ge lt=0:=by unfold stepN; rw [if_pos q]
  have b0:((op:Int) == 0)=true:=by rw [q]; rfl
  have b1:((op:Int) == 1)=false:=by rw [q]; rfl
  refine gY2 @b0 @b1 ?_
  refine place_run hh fun w1 h1 k1 => ?_
  refine gY5 @b0 @b1 @h1.c3 @h1.c4 @h1.fz ?_
  obtain ⟨hC,s2⟩:=h1.clear
  refine drawZ (sq [0,1,2] (.read 3 (sq [4,5] .done))) ?_
  refine gY1 @hC.c2 ?_
  exact fin (by omega) hs.symm rfl hC (by rw [q]; simp) (by rw [q]; simp) (k1.trans s2)
 ·have hs:stepN n a op ge lt=(n:Int) - 1:=by unfold stepN; rw [if_neg (by omega),if_pos q]
  have b0:((op:Int) == 0)=false:=by rw [q]; rfl
  have b1:((op:Int) == 1)=true:=by rw [q]; rfl
  have hwn:=hw1 (x:=(n:Int) - 1) (by omega) (by omega)
  refine gY2 @b0 @b1 ?_
  refine place_run hh fun w1 h1 k1 => ?_
  refine gY4 @b0 @b1 @h1.c0 @hwn ?_
  refine place_run h1 fun w2 h2 k2 => ?_
  refine gY3 @h2.c3 @h2.c4 @h2.fz ?_
  obtain ⟨hC,s2⟩:=h2.clear
  refine drawZ (sq [0,1,2] (.read 3 (sq [4,5] .done))) ?_
  refine gY1 @hC.c2 ?_
  exact fin (by omega) hs.symm rfl hC (by rw [q]; simp) (by rw [q]; simp) ((k1.trans k2).trans s2)
 ·have hs:stepN n a op ge lt=a+1:=by unfold stepN; rw [if_neg (by omega),if_neg (by omega),if_pos q]
  have b0:((op:Int) == 0)=false:=by rw [q]; rfl
  have b1:((op:Int) == 1)=false:=by rw [q]; rfl
  have b2:((op:Int) == 2)=true:=by rw [q]; rfl
  have b4:((op:Int) == 4)=false:=by rw [q]; rfl
  have b5:((op:Int) == 5)=false:=by rw [q]; rfl
  have hwn:=hw1 (x:=a+1) (by omega) (by omega)
  by_cases t:(ok || be)=true
  rotate_left
  ·obtain ⟨rfl,rfl⟩:ok=false∧be=false:=by simpa using t
   refine gY9 @b0 @b1 @b2 @b4 @b5 @c2 @c4 @Bool.not_false @Bool.not_true ?_
   exact hno w (by simp [q]) (Ext.refl _)
  have ht:op=0∨op=1∨op=4∨op=5∨op=2∧(ok || be)=true∨op=3∧(ok || af)=true:=by simp [q,t]
  cases ok <;> cases be
  ·simp at t
  all_goals
   refine gY14 @b0 @b1 @b2 @b4 @b5 @c0 @c1 @c2 @c4 @c5 @fz @hwn @Bool.not_false @Bool.not_true ?_
   obtain ⟨hC,s1⟩:=hh.move (a+1)
   refine place_run hC fun w1 h1 k1 => ?_
   refine goZ ?_
   refine drawZ (sq [0,1,2] (.read 3 (sq [4,5] .done))) ?_
   refine gY1 @h1.c2 ?_
   exact fin ht hs.symm rfl h1 (by rw [q]; simp) (by rw [q]; simp) (s1.trans k1)
 ·have hs:stepN n a op ge lt=a - 1:=by unfold stepN; rw [if_neg (by omega),if_neg (by omega),if_neg (by omega),if_pos q]
  have b0:((op:Int) == 0)=false:=by rw [q]; rfl
  have b1:((op:Int) == 1)=false:=by rw [q]; rfl
  have b2:((op:Int) == 2)=false:=by rw [q]; rfl
  have b3:((op:Int) == 3)=true:=by rw [q]; rfl
  have b4:((op:Int) == 4)=false:=by rw [q]; rfl
  have b5:((op:Int) == 5)=false:=by rw [q]; rfl
  have hwn:=hw1 (x:=a - 1) (by omega) (by omega)
  by_cases t:(ok || af)=true
  rotate_left
  ·obtain ⟨rfl,rfl⟩:ok=false∧af=false:=by simpa using t
   refine gY10 @b0 @b1 @b2 @b3 @b4 @b5 @c2 @c3 @Bool.not_false @Bool.not_true ?_
   exact hno w (by simp [q]) (Ext.refl _)
  have ht:op=0∨op=1∨op=4∨op=5∨op=2∧(ok || be)=true∨op=3∧(ok || af)=true:=by simp [q,t]
  cases ok <;> cases af
  ·simp at t
  all_goals
   refine gY15 @b0 @b1 @b2 @b3 @b4 @b5 @c0 @c1 @c2 @c3 @c5 @fz @hwn @Bool.not_false @Bool.not_true ?_
   refine place_run hh fun w1 h1 k1 => ?_
   refine goZ ?_
   refine drawZ (sq [0,1,2] (.read 3 (sq [4,5] .done))) ?_
   refine gY1 @h1.c2 ?_
   exact fin ht hs.symm rfl h1 (by rw [q]; simp) (by rw [q]; simp) (k1)
 ·have hs:stepN n a op ge lt=ge:=by unfold stepN; rw [if_neg (by omega),if_neg (by omega),if_neg (by omega),if_neg (by omega),if_pos q]
  have b0:((op:Int) == 0)=false:=by rw [q]; rfl
  have b1:((op:Int) == 1)=false:=by rw [q]; rfl
  have b4:((op:Int) == 4)=true:=by rw [q]; rfl
  refine gY3 @b0 @b1 @b4 ?_
  refine place_run hh fun w1 h1 k1 => ?_
  refine goZ ?_
  refine drawZ (sq [0,1,2] (.read 3 (sq [4,5] .done))) ?_
  refine gY1 @h1.c2 ?_
  exact fin (by omega) hs.symm rfl h1 (by rw [q]; simp) (by rw [q]; simp) k1
 ·have hs:stepN n a op ge lt=lt:=by unfold stepN; rw [if_neg (by omega),if_neg (by omega),if_neg (by omega),if_neg (by omega),if_neg (by omega)]
  have b0:((op:Int) == 0)=false:=by rw [q]; rfl
  have b1:((op:Int) == 1)=false:=by rw [q]; rfl
  have b4:((op:Int) == 4)=false:=by rw [q]; rfl
  have b5:((op:Int) == 5)=true:=by rw [q]; rfl
  refine gY4 @b0 @b1 @b4 @b5 ?_
  refine place_run hh fun w1 h1 k1 => ?_
  refine goZ ?_
  refine drawZ (sq [0,1,2] (.read 3 (sq [4,5] .done))) ?_
  refine gY1 @h1.c2 ?_
  exact fin (by omega) hs.symm rfl h1 (by rw [q]; simp) (by rw [q]; simp) k1
 ·have b0:((op:Int) == 0)=false:=beq_false_of_ne (by omega)
  have b1:((op:Int) == 1)=false:=beq_false_of_ne (by omega)
  have b2:((op:Int) == 2)=false:=beq_false_of_ne (by omega)
  have b3:((op:Int) == 3)=false:=beq_false_of_ne (by omega)
  have b4:((op:Int) == 4)=false:=beq_false_of_ne (by omega)
  have b5:((op:Int) == 5)=false:=beq_false_of_ne (by omega)
  refine gY6 @b0 @b1 @b2 @b3 @b4 @b5 ?_
  exact hno w (by omega) (Ext.refl _)
end
end Go.Proofs
