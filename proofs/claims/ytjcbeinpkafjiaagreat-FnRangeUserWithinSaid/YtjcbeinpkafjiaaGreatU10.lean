/- Parts of the proof: Y, Pc, Pu, Pt, Fi, Pg. -/
import Derived.Test.YtjcbeinpkafjiaaGreatU09
set_option linter.all false
section
set_option maxRecDepth 10000
namespace Go.E
open Go Go.Sort Go.Proofs Go.Proofs.Tryz
structure KR where
 k:K
 sv:Value
 vv:Value
 deriving Inhabited
def KR.good (d:World) (x:KR):Prop:=x.k.tr < 18446744073709551616∧Bts d x.sv x.k.suf∧Bts d x.vv x.k.val
def KR.cells (x:KR):List Value:=[.int .u64 x.k.tr,x.sv,x.vv]
def flat (l:List KR):List Value:=l.flatMap KR.cells
theorem flat_nil:flat []=[]:=rfl
theorem flat_cons (x:KR) (l:List KR):flat (x :: l) = .int .u64 x.k.tr :: x.sv :: x.vv :: flat l:=rfl
theorem flat_append (l m:List KR):flat (l++m)=flat l++flat m:=by simp [flat]
theorem flat_length (l:List KR):(flat l).length=l.length * 3:=by
 induction l with
 | nil=>rfl
 | cons x l ih=>rw [flat_cons]; simp [ih]; omega
theorem flat_take (l:List KR) (n:Nat):(flat l).take (n * 3)=flat (l.take n):=by
 induction l generalizing n with
 | nil=>simp [flat_nil]
 | cons x l ih =>
  cases n with
  | zero=>simp [flat_nil]
  | succ n=>rw [flat_cons,List.take_succ_cons,flat_cons,← ih,show (n+1) * 3=n * 3+1+1+1 by omega]; rfl
theorem flat_at {l:List KR} {i:Nat} {x:KR} (h:l[i]? = some x):(flat l)[i * 3]? = some (.int .u64 x.k.tr)∧(flat l)[i * 3+1]? = some x.sv∧(flat l)[i * 3+2]? = some x.vv:=by
 induction l generalizing i with
 | nil=>simp at h
 | cons y l ih =>
  rw [flat_cons]
  cases i with
  | zero =>
   simp only [List.getElem?_cons_zero,Option.some.injEq] at h
   subst h
   exact ⟨rfl,rfl,rfl⟩
  | succ i =>
   have:=ih (i:=i) (by simpa using h)
   rw [show (i+1) * 3=i * 3+3 by omega]
   exact this
theorem flat_set (l:List KR) (i:Nat) (x:KR) (h:i < l.length):(((flat l).set (i * 3) (.int .u64 x.k.tr)).set (i * 3+1) x.sv).set (i * 3+2) x.vv=flat (l.set i x):=by
 induction l generalizing i with
 | nil=>simp at h
 | cons y l ih =>
  rw [flat_cons]
  cases i with
  | zero=>rfl
  | succ i =>
   have:=ih i (by simpa using h)
   have e:(y :: l).set (i+1) x=y :: l.set i x:=rfl
   rw [show (i+1) * 3=i * 3+3 by omega,e,flat_cons,← this]
   rfl
structure KRow (d w0 w:World) (Hb ho g cap:Nat) (a:Array KR):Prop where
 hd:w.cell? ⟨Hb,ho,none⟩=some (.slice (some ⟨g,0,none⟩) a.size cap)
 own:w.ownsRow 0 256 3 (.slice (some ⟨g,0,none⟩) a.size cap) a.size (flat a.toList)
 good:∀ x,x ∈ a.toList→x.good d
 keep:Keep (fun b _=>b=g) w0 w
 inc0:Inc d w0
 lt:g < w0.heap.size
 hb:Hb < w0.heap.size
 ne:Hb≠g
 out:Out d g
theorem KRow.inc {d w0 w:World} {Hb ho g cap:Nat} {a:Array KR} (h:KRow d w0 w Hb ho g cap a):Inc d w:=h.inc0.keep h.keep (by rintro x _ rfl; exact h.out _)
theorem KRow.at {d w0 w:World} {Hb ho g cap:Nat} {a:Array KR} (h:KRow d w0 w Hb ho g cap a) {i:Nat} (hi:i < a.size) :
    w.cell? ⟨g,i * 3,none⟩=some (.int .u64 a[i]!.k.tr)∧w.cell? ⟨g,i * 3+1,none⟩=some a[i]!.sv∧w.cell? ⟨g,i * 3+2,none⟩=some a[i]!.vv∧a[i]!.good d:=by
 have e:a.toList[i]? = some a[i]! := by rw [getElem!_pos a i hi]; simp [hi]
 obtain ⟨h1,h2,h3⟩:=flat_at e
 exact ⟨own_cell h.own h1,own_cell h.own h2,own_cell h.own h3,h.good _ (List.mem_of_getElem? e)⟩
theorem heap_set_ne {w:World} {g o b:Nat} {v:Value} (h:b≠g):(w.setCell ⟨g,o,none⟩ v).heap[b]? = w.heap[b]? := by
 simp [World.setCell,Array.getElem?_modify,Ne.symm h]
theorem KRow.swapped {d w0 w:World} {Hb ho g cap:Nat} {a:Array KR} (h:KRow d w0 w Hb ho g cap a) {i j:Nat} (hi:i < a.size) (hj:j < a.size) :
    KRow d w0 ((((((w.setCell ⟨g,i * 3,none⟩ (.int .u64 a[j]!.k.tr)).setCell ⟨g,i * 3+1,none⟩ a[j]!.sv).setCell ⟨g,i * 3+2,none⟩ a[j]!.vv).setCell ⟨g,j * 3,none⟩ (.int .u64 a[i]!.k.tr)).setCell ⟨g,j * 3+1,none⟩ a[i]!.sv).setCell ⟨g,j * 3+2,none⟩ a[i]!.vv) Hb ho g cap (swp a i j):=by
 have e1:=own_set (own_set (own_set (own_set (own_set (own_set h.own (i * 3) (.int .u64 a[j]!.k.tr)) (i * 3+1) a[j]!.sv) (i * 3+2) a[j]!.vv) (j * 3) (.int .u64 a[i]!.k.tr)) (j * 3+1) a[i]!.sv) (j * 3+2) a[i]!.vv
 rw [flat_set _ _ _ (by simpa using hi),flat_set _ _ _ (by simpa using hj)] at e1
 have ne:=h.ne
 have ne2:=Ne.symm ne
 have es:(swp a i j).toList=(a.toList.set i a[j]!).set j a[i]! := by simp [swp]
 have hz:(swp a i j).size=a.size:=swp_size a i j
 refine ⟨?_,?_,?_,?_,h.inc0,h.lt,h.hb,ne,h.out⟩
 ·have:=h.hd
  rw [hz]
  exact eY1 @this
 ·rw [hz,es]; exact e1
 ·intro x hx
  rw [es] at hx
  rcases List.mem_or_eq_of_mem_set hx with hx | rfl
  ·rcases List.mem_or_eq_of_mem_set hx with hx | rfl
   ·exact h.good x hx
   ·exact (h.at hj).2.2.2
  ·exact (h.at hi).2.2.2
 ·exact ((((((h.keep.set (fun _=>rfl)).set (fun _=>rfl)).set (fun _=>rfl)).set (fun _=>rfl)).set (fun _=>rfl)).set (fun _=>rfl))
theorem KRow.drew {d w0 w:World} {Hb ho g cap:Nat} {a:Array KR} (h:KRow d w0 w Hb ho g cap a):KRow d w0 w.drew Hb ho g cap a:=⟨h.hd,h.own.drew,h.good,h.keep.drew,h.inc0,h.lt,h.hb,h.ne,h.out⟩
theorem KRow.alloc {d w0 w:World} {Hb ho g cap:Nat} {a:Array KR} (h:KRow d w0 w Hb ho g cap a) (ob:Obj):KRow d w0 (w.alloc ob) Hb ho g cap a:=⟨(ext_alloc ob).cell h.hd,h.own.alloc ob,h.good,h.keep.alloc ob,h.inc0,h.lt,h.hb,h.ne,h.out⟩
theorem KRow.set {d w0 w:World} {Hb ho g cap b o:Nat} {v:Value} {a:Array KR} (h:KRow d w0 w Hb ho g cap a) (hb:w0.heap.size≤b):KRow d w0 (w.setCell ⟨b,o,none⟩ v) Hb ho g cap a:=by
 have h1:=h.lt
 have h2:=h.hb
 have kk:Keep (fun x _=>x=b) w (w.setCell ⟨b,o,none⟩ v):=keep_set rfl
 refine ⟨kk.some h.hd (by omega),own_keep h.own kk (fun g' hg o' he => ?_),h.good,h.keep.set (fun hlt=>by omega),h.inc0,h1,h2,h.ne,h.out⟩
 simp only [Value.ownBlock,Option.some.injEq] at hg
 omega
end Go.E
namespace Go.Proofs
open Go Go.E Go.Sort Go.Proofs.Tryz
section
variable {k:Kont} {d w0 w:World} {Hb ho g cap:Nat} {a:Array KR}
def ltT (x y:KR):Bool:=decide (y.k.tr < x.k.tr)
theorem swo_ltT:SWO ltT where
 irrefl x:=by unfold ltT; simp
 trans x y z:=by unfold ltT; simp; omega
 ntrans x y z:=by unfold ltT; simp; omega
def ltS (x y:KR):Bool:=decide (x.k.suf < y.k.suf)
theorem swo_ltS:SWO ltS where
 irrefl x:=by unfold ltS; simp
 trans x y z:=by unfold ltS; simp; grind
 ntrans x y z:=by unfold ltS; simp; grind
theorem keysLess_run (h:KRow d w0 w Hb ho g cap a) {i j:Nat} (hi:i < a.size) (hj:j < a.size) (hk:k (.bool (ltT a[i]! a[j]!)) w.drew):callK prog 279 #[.pointer (some ⟨Hb,ho,none⟩),.int .i64 i,.int .i64 j] k w:=by
 have c0:=h.hd
 obtain ⟨p1,_,_,_⟩:=h.at hi
 obtain ⟨q1,_,_,_⟩:=h.at hj
 refine callZ [.tmp 6] func279 ?_
 refine goZ ?_
 refine drawZ (sq [0,1] (.read 2 (sq [3,4,5] (.read 6 (sq [7,8] (.read 9 (sq [10,11,12] (.read 13 (sq [14,15] .done))))))))) ?_
 refine gY3 @c0 @p1 @q1 ?_
 have e:decide ((a[j]!.k.tr:Int) < (a[i]!.k.tr:Int))=ltT a[i]! a[j]! := by unfold ltT; rw [decide_eq_decide]; omega
 rw [e]; exact hk
theorem keysSwap_run (h:KRow d w0 w Hb ho g cap a) {i j:Nat} (hi:i < a.size) (hj:j < a.size) (hk:∀ w',KRow d w0 w' Hb ho g cap (swp a i j)→w.heap.size≤w'.heap.size→(∀ b,b≠g→w'.heap[b]? = w.heap[b]?)→k (.tuple #[]) w') :
    callK prog 280 #[.pointer (some ⟨Hb,ho,none⟩),.int .i64 i,.int .i64 j] k w:=by
 have c0:=h.hd
 obtain ⟨p1,p2,p3,p4⟩:=h.at hi
 obtain ⟨q1,q2,q3,q4⟩:=h.at hj
 obtain ⟨a1,n1,e1⟩:=bts_slice p4.2.1
 obtain ⟨a2,n2,e2⟩:=bts_slice p4.2.2
 obtain ⟨a3,n3,e3⟩:=bts_slice q4.2.1
 obtain ⟨a4,n4,e4⟩:=bts_slice q4.2.2
 have ne:=h.ne
 have ne2:=Ne.symm ne
 have fg:∀ o,w.frozen? ⟨g,o,none⟩=false:=fun o=>own_frozen h.own rfl o
 have hsw:=h.swapped hi hj
 rw [e1,e2,e3,e4] at hsw
 rw [e1] at p2
 rw [e2] at p3
 rw [e3] at q2
 rw [e4] at q3
 refine callZ [] func280 ?_
 refine drawZ (sq [0,1] (.read 2 (sq [3,4,5] (.read 6 (sq [7,8,9] (.read 10 (sq [11,12] (.read 13 (sq [14,15] (.read 16 (sq [17,18] (.read 19 (sq [20] (.eff 21 [] (sq [22] (.eff 23 [] .done)))))))))))))))) ?_
 have hd:∀ W:World,W.drew.heap=W.heap:=fun _=>rfl
 by_cases hij:i=j
 ·subst hij
  have x1:=e1.symm.trans e3
  have x2:=e2.symm.trans e4
  simp only [Value.slice.injEq,true_and] at x1 x2
  obtain ⟨rfl,rfl⟩:=x1
  obtain ⟨rfl,rfl⟩:=x2
  refine gY5 @c0 @p1 @p2 @p3 @fg ?_
  refine hk _ hsw.drew ?_ ?_
  ·simp only [World.size_drew,World.size_setCell]; exact Nat.le_refl _
  ·intro b hb
   rw [hd]
   simp only [heap_set_ne hb]
 ·have d1:i * 3≠j * 3:=by omega
  refine gY8 @c0 @p1 @p2 @p3 @q1 @q2 @q3 @fg ?_
  refine hk _ hsw.drew ?_ ?_
  ·simp only [World.size_drew,World.size_setCell]; exact Nat.le_refl _
  ·intro b hb
   rw [hd]
   simp only [heap_set_ne hb]
theorem keysSrt:Srt prog (.iface 263 (.pointer (some ⟨Hb,ho,none⟩))) ltT w0.heap.size (fun w b=>KRow d w0 w Hb ho g cap b∧b.size < 1000000) where
 size h:=h.1.keep.size
 small h:=by omega
 less' h hi hj hk:=by
  rw [Tryz.iv263_Less]
  exact keysLess_run h.1 hi hj (hk _ ⟨h.1.drew,h.2⟩ rfl)
 swap' h hi hj hk:=by
  rw [Tryz.iv263_Swap]
  refine keysSwap_run h.1 hi hj fun w' h2 h3 h4=>hk w' ⟨h2,by rw [swp_size]; exact h.2⟩ h3 fun b hb _=>h4 b ?_
  have:=h.1.lt
  omega
 alloc ob h:=⟨h.1.alloc ob,h.2⟩
 set h hb:=⟨h.1.set hb,h.2⟩
 drew h:=⟨h.1.drew,h.2⟩
theorem sufLess_run (h:KRow d w0 w Hb (ho+1) g cap a) (hc:w.cell? ⟨Hb,ho,none⟩=some (.func (.func 102) #[] #[])) {i j:Nat} (hi:i < a.size) (hj:j < a.size) (hk:k (.bool (ltS a[i]! a[j]!)) w.drew) :
    callK prog 271 #[.pointer (some ⟨Hb,ho,none⟩),.int .i64 i,.int .i64 j] k w:=by
 have c0:=h.hd
 obtain ⟨_,p2,_,p4⟩:=h.at hi
 obtain ⟨_,q2,_,q4⟩:=h.at hj
 have hinc:=h.inc
 refine callZ [.tmp 6] func271 ?_
 refine goZ ?_
 refine drawZ (sq [0,1,2] (.read 3 (sq [4,5,6] (.read 7 (sq [8,9,10] (.read 11 (sq [12,13,14] (.read 15 (sq [16,17,18] (.read 19 (.eff 20 [] (sq [21,22] .done)))))))))))) ?_
 refine gY4 @hc @c0 @p2 @q2 ?_
 refine Compare_run (p4.2.1.inc hinc) (q4.2.1.inc hinc) ?_
 refine goZ ?_
 have e:decide (cmpB a[i]!.k.suf a[j]!.k.suf < 0)=ltS a[i]! a[j]! := by unfold ltS; simp [cmpB_lt_zero]
 rw [e]; exact hk
theorem sufSwap_run (h:KRow d w0 w Hb (ho+1) g cap a) {i j:Nat} (hi:i < a.size) (hj:j < a.size) (hk:∀ w',KRow d w0 w' Hb (ho+1) g cap (swp a i j)→w.heap.size≤w'.heap.size→(∀ b,b≠g→w'.heap[b]? = w.heap[b]?)→k (.tuple #[]) w') :
    callK prog 272 #[.pointer (some ⟨Hb,ho,none⟩),.int .i64 i,.int .i64 j] k w:=by
 have c0:=h.hd
 obtain ⟨p1,p2,p3,p4⟩:=h.at hi
 obtain ⟨q1,q2,q3,q4⟩:=h.at hj
 obtain ⟨a1,n1,e1⟩:=bts_slice p4.2.1
 obtain ⟨a2,n2,e2⟩:=bts_slice p4.2.2
 obtain ⟨a3,n3,e3⟩:=bts_slice q4.2.1
 obtain ⟨a4,n4,e4⟩:=bts_slice q4.2.2
 have ne:=h.ne
 have ne2:=Ne.symm ne
 have fg:∀ o,w.frozen? ⟨g,o,none⟩=false:=fun o=>own_frozen h.own rfl o
 have hsw:=h.swapped hi hj
 rw [e1,e2,e3,e4] at hsw
 rw [e1] at p2
 rw [e2] at p3
 rw [e3] at q2
 rw [e4] at q3
 refine callZ [] func272 ?_
 refine drawZ (sq [0,1,2] (.read 3 (sq [4,5,6,7] (.read 8 (sq [9,10,11,12] (.read 13 (sq [14,15] (.read 16 (sq [17,18,19] (.read 20 (sq [21,22] (.read 23 (sq [24] (.eff 25 [] (sq [26] (.eff 27 [] .done)))))))))))))))) ?_
 have hd:∀ W:World,W.drew.heap=W.heap:=fun _=>rfl
 by_cases hij:i=j
 ·subst hij
  have x1:=e1.symm.trans e3
  have x2:=e2.symm.trans e4
  simp only [Value.slice.injEq,true_and] at x1 x2
  obtain ⟨rfl,rfl⟩:=x1
  obtain ⟨rfl,rfl⟩:=x2
  refine gY5 @c0 @p1 @p2 @p3 @fg ?_
  refine hk _ hsw.drew ?_ ?_
  ·simp only [World.size_drew,World.size_setCell]; exact Nat.le_refl _
  ·intro b hb
   rw [hd]
   simp only [heap_set_ne hb]
 ·have d1:i * 3≠j * 3:=by omega
  refine gY8 @c0 @p1 @p2 @p3 @q1 @q2 @q3 @fg ?_
  refine hk _ hsw.drew ?_ ?_
  ·simp only [World.size_drew,World.size_setCell]; exact Nat.le_refl _
  ·intro b hb
   rw [hd]
   simp only [heap_set_ne hb]
theorem sufSrt (hc:w0.cell? ⟨Hb,ho,none⟩=some (.func (.func 102) #[] #[])):Srt prog (.iface 252 (.pointer (some ⟨Hb,ho,none⟩))) ltS w0.heap.size (fun w b=>KRow d w0 w Hb (ho+1) g cap b∧b.size < 1000000) where
 size h:=h.1.keep.size
 small h:=by omega
 less' h hi hj hk:=by
  rw [Tryz.iv252_Less]
  exact sufLess_run h.1 (h.1.keep.some hc h.1.ne) hi hj (hk _ ⟨h.1.drew,h.2⟩ rfl)
 swap' h hi hj hk:=by
  rw [Tryz.iv252_Swap]
  refine sufSwap_run h.1 hi hj fun w' h2 h3 h4=>hk w' ⟨h2,by rw [swp_size]; exact h.2⟩ h3 fun b hb _=>h4 b ?_
  have:=h.1.lt
  omega
 alloc ob h:=⟨h.1.alloc ob,h.2⟩
 set h hb:=⟨h.1.set hb,h.2⟩
 drew h:=⟨h.1.drew,h.2⟩
end
end Go.Proofs
end
section
namespace Go.E
open Go Go.Sort Go.Proofs
theorem blt_tri (a b:Bytes):a < b∨a=b∨b < a:=by
 by_cases h:a < b
 ·exact .inl h
 ·by_cases h2:a=b
  ·exact .inr (.inl h2)
  ·exact .inr (.inr (by grind))
def kindT (t:Nat):Nat:=t % 256
def visT (snap t:Nat):Bool:=decide (t / 256 < snap) || ((t / 256 &&& 36028797018963968) != 0)
section
variable (snap:Nat)
def preL:List KR→List KR
 | []=>[]
 | x :: l=>if visT snap x.k.tr then (if kindT x.k.tr=19 then [] else x :: preL l) else preL l
def delL:List KR→Option KR
 | []=>none
 | x :: l=>if visT snap x.k.tr then (if kindT x.k.tr=19 then some x else delL l) else delL l
end
def ddL:Option Bytes→List KR→List KR
 | _,[]=>[]
 | p,x :: l=>if p=some x.k.suf then ddL p l else x :: ddL (some x.k.suf) l
def DK (l:List KR):Prop:=l.Pairwise fun x y=>y.k.tr≤x.k.tr∧(x.k.suf=y.k.suf→y.k.tr < x.k.tr)
theorem preL_sub {snap:Nat} {l:List KR}:(preL snap l).Sublist l:=by
 induction l with
 | nil=>exact List.Sublist.refl _
 | cons x l ih =>
  unfold preL
  split
  ·split
   ·exact List.nil_sublist _
   ·exact ih.cons_cons x
  ·exact ih.cons x
theorem delL_mem {snap:Nat} {l:List KR} {x:KR} (h:delL snap l=some x):x ∈ l:=by
 induction l with
 | nil=>simp [delL] at h
 | cons y l ih =>
  unfold delL at h
  split at h
  ·split at h
   ·simp only [Option.some.injEq] at h
    subst h; exact List.mem_cons_self
   ·exact List.mem_cons_of_mem _ (ih h)
  ·exact List.mem_cons_of_mem _ (ih h)
theorem mem_preL {snap:Nat} {l:List KR} (h:DK l) (x:KR):x ∈ preL snap l↔x ∈ l∧visT snap x.k.tr=true∧kindT x.k.tr≠19∧∀ y ∈ l,visT snap y.k.tr=true→kindT y.k.tr=19→y.k.tr < x.k.tr:=by
 induction l with
 | nil=>simp [preL]
 | cons z l ih =>
  have hz:=fun {y:KR}=>List.rel_of_pairwise_cons (a':=y) h
  have ih:=ih h.of_cons
  unfold preL
  split
  ·rename_i hv
   split
   ·rename_i h19
    simp only [List.not_mem_nil,false_iff]
    rintro ⟨hx,hxv,hx9,hall⟩
    have:=hall z List.mem_cons_self hv h19
    rcases List.mem_cons.1 hx with rfl | hx
    ·omega
    ·have:=(hz hx).1
     omega
   ·rename_i h19
    rw [List.mem_cons,ih]
    constructor
    ·rintro (rfl | ⟨h1,h2,h3,h4⟩)
     ·refine ⟨List.mem_cons_self,hv,h19,fun y hy hyv hy9 => ?_⟩
      rcases List.mem_cons.1 hy with rfl | hy
      ·exact absurd hy9 h19
      ·have:=(hz hy).1
       rcases Nat.lt_or_eq_of_le this with hlt | heq
       ·exact hlt
       ·rw [heq] at hy9; exact absurd hy9 h19
     ·refine ⟨List.mem_cons_of_mem _ h1,h2,h3,fun y hy hyv hy9 => ?_⟩
      rcases List.mem_cons.1 hy with rfl | hy
      ·exact absurd hy9 h19
      ·exact h4 y hy hyv hy9
    ·rintro ⟨h1,h2,h3,h4⟩
     rcases List.mem_cons.1 h1 with rfl | h1
     ·exact .inl rfl
     ·exact .inr ⟨h1,h2,h3,fun y hy=>h4 y (List.mem_cons_of_mem _ hy)⟩
  ·rename_i hv
   rw [ih]
   constructor
   ·rintro ⟨h1,h2,h3,h4⟩
    refine ⟨List.mem_cons_of_mem _ h1,h2,h3,fun y hy hyv hy9 => ?_⟩
    rcases List.mem_cons.1 hy with rfl | hy
    ·exact absurd hyv hv
    ·exact h4 y hy hyv hy9
   ·rintro ⟨h1,h2,h3,h4⟩
    rcases List.mem_cons.1 h1 with rfl | h1
    ·exact absurd h2 hv
    ·exact ⟨h1,h2,h3,fun y hy=>h4 y (List.mem_cons_of_mem _ hy)⟩
def SS (l:List KR):Prop:=l.Pairwise fun x y=>¬ y.k.suf < x.k.suf∧(x.k.suf=y.k.suf→y.k.tr < x.k.tr)
theorem bytes_eq_of {a b:Bytes} (h1:¬ a < b) (h2:¬ b < a):a=b:=by
 rcases blt_tri a b with h | h | h
 ·exact absurd h h1
 ·exact h
 ·exact absurd h h2
theorem bytes_trans {a b c:Bytes} (h1:a < b) (h2:¬ c < b):a < c:=by
 by_cases h:c=b
 ·subst h; exact h1
 ·have:b < c:=by
    rcases blt_tri b c with h3 | h3 | h3
    ·exact h3
    ·exact absurd h3.symm h
    ·exact absurd h3 h2
  exact List.lt_trans h1 this
theorem bytes_lt_of {a b c:Bytes} (h1:¬ b < a) (h2:b < c):a < c:=by
 by_cases h:a=b
 ·subst h; exact h2
 ·have:a < b:=by
    rcases blt_tri a b with h3 | h3 | h3
    ·exact h3
    ·exact absurd h3 h
    ·exact absurd h3 h1
  exact List.lt_trans this h2
theorem ddL_spec {l:List KR} (h:SS l) (p:Option Bytes) (hp:∀ q,p=some q→∀ x ∈ l,¬ x.k.suf < q) :
    (ddL p l).Pairwise (fun x y=>x.k.suf < y.k.suf)∧(∀ q,p=some q→∀ x ∈ ddL p l,q < x.k.suf) ∧
    ∀ x,x ∈ ddL p l↔x ∈ l∧p≠some x.k.suf∧∀ y ∈ l,y.k.suf=x.k.suf→y.k.tr≤x.k.tr:=by
 induction l generalizing p with
 | nil=>simp [ddL]
 | cons z l ih =>
  have hz:=fun {y:KR}=>List.rel_of_pairwise_cons (a':=y) h
  unfold ddL
  split
  ·rename_i he
   obtain ⟨i1,i2,i3⟩:=ih h.of_cons p (fun q hq x hx=>hp q hq x (List.mem_cons_of_mem _ hx))
   refine ⟨i1,i2,fun x => ?_⟩
   rw [i3]
   constructor
   ·rintro ⟨h1,h2,h3⟩
    refine ⟨List.mem_cons_of_mem _ h1,h2,fun y hy hys => ?_⟩
    rcases List.mem_cons.1 hy with rfl | hy
    ·rw [he,hys] at h2; exact absurd rfl h2
    ·exact h3 y hy hys
   ·rintro ⟨h1,h2,h3⟩
    rcases List.mem_cons.1 h1 with rfl | h1
    ·exact absurd he h2
    ·exact ⟨h1,h2,fun y hy=>h3 y (List.mem_cons_of_mem _ hy)⟩
  ·rename_i he
   obtain ⟨i1,i2,i3⟩:=ih h.of_cons (some z.k.suf) (fun q hq x hx=>by cases hq; exact (hz hx).1)
   refine ⟨List.pairwise_cons.2 ⟨fun x hx=>i2 _ rfl x hx,i1⟩,fun q hq x hx => ?_,fun x => ?_⟩
   ·have hzq:=hp q hq z List.mem_cons_self
    have hlt:q < z.k.suf:=by
     rcases blt_tri q z.k.suf with h3 | h3 | h3
     ·exact h3
     ·rw [hq,h3] at he; exact absurd rfl he
     ·exact absurd h3 hzq
    rcases List.mem_cons.1 hx with rfl | hx
    ·exact hlt
    ·exact List.lt_trans hlt (i2 _ rfl x hx)
   ·rw [List.mem_cons,i3]
    constructor
    ·rintro (rfl | ⟨h1,h2,h3⟩)
     ·refine ⟨List.mem_cons_self,he,fun y hy hys => ?_⟩
      rcases List.mem_cons.1 hy with rfl | hy
      ·exact Nat.le_refl _
      ·exact Nat.le_of_lt ((hz hy).2 hys.symm)
     ·refine ⟨List.mem_cons_of_mem _ h1,?_,fun y hy hys => ?_⟩
      ·intro hpe
       have hne:z.k.suf≠x.k.suf:=fun e=>h2 (by rw [e])
       have a1:=hp _ hpe z List.mem_cons_self
       have a2:=(hz h1).1
       exact hne (bytes_eq_of a1 a2)
      ·rcases List.mem_cons.1 hy with rfl | hy
       ·exact absurd (by rw [hys]) h2
       ·exact h3 y hy hys
    ·rintro ⟨h1,h2,h3⟩
     rcases List.mem_cons.1 h1 with rfl | h1
     ·exact .inl rfl
     ·refine .inr ⟨h1,fun e => ?_,fun y hy=>h3 y (List.mem_cons_of_mem _ hy)⟩
      have e':z.k.suf=x.k.suf:=by simpa using e
      have:=h3 z List.mem_cons_self e'
      have:=(hz h1).2 e'
      omega
structure CoR (snap:Nat) (l r:List KR):Prop where
 sorted:r.Pairwise fun x y=>x.k.suf < y.k.suf
 mem:∀ x,x ∈ r↔x ∈ preL snap l∧∀ y ∈ preL snap l,y.k.suf=x.k.suf→y.k.tr≤x.k.tr
theorem CoR.sub {snap:Nat} {l r:List KR} (h:CoR snap l r) {x:KR} (hx:x ∈ r):x ∈ l:=preL_sub.subset ((h.mem x).1 hx).1
theorem coR_of {snap:Nat} {l:List KR} {a b:Array KR} (ha:a.toList=preL snap l) (h:Mg ltS (fun x=>18446744073709551616 - x.k.tr) 0 a.size a b) (hgood:∀ x ∈ l,x.k.tr < 18446744073709551616):CoR snap l (ddL none b.toList):=by
 obtain ⟨h1,h2,h3⟩:=h
 have pm:=perm_of_permIn h1 (Nat.le_refl _)
 have hz:b.size=a.size:=h1.1
 have hs:SS b.toList:=by
  unfold SS
  rw [List.pairwise_iff_getElem]
  intro i j hi hj hij
  simp only [Array.length_toList] at hi hj
  have e1:b.toList[i]=b[i]! := by rw [getElem!_pos b i hi]; simp
  have e2:b.toList[j]=b[j]! := by rw [getElem!_pos b j hj]; simp
  rw [e1,e2]
  have s:=h2 i j (Nat.zero_le _) hij (by omega)
  have s1:¬ b[j]!.k.suf < b[i]!.k.suf:=by simpa [ltS] using s
  refine ⟨s1,fun he => ?_⟩
  have o:=h3 i j hij (by omega) (by unfold ltS; simp [he]) (by unfold ltS; simp [he])
  have g1:b[i]! ∈ l:=preL_sub.subset (ha ▸ pm.mem_iff.1 (by rw [← e1]; exact List.getElem_mem _))
  have:=hgood _ g1
  simp only at o
  omega
 obtain ⟨i1,_,i3⟩:=ddL_spec hs none (fun q h=>by cases h)
 refine ⟨i1,fun x => ?_⟩
 rw [i3,← ha]
 simp only [pm.mem_iff,ne_eq,reduceCtorEq,not_false_eq_true,true_and]
theorem ord_of {snap:Nat} {l:List KR} {a:Array KR} (ha:a.toList=preL snap l) (h:DK l) (hgood:∀ x ∈ l,x.k.tr < 18446744073709551616):Ord ltS (fun x=>18446744073709551616 - x.k.tr) a:=by
 intro i j hij hj h1 h2
 have hp:DK a.toList:=by rw [ha]; exact List.Pairwise.sublist preL_sub h
 unfold DK at hp
 rw [List.pairwise_iff_getElem] at hp
 have:=hp i j (by simp; omega) (by simpa using hj) hij
 have e1:a.toList[i]'(by simp; omega)=a[i]! := by rw [getElem!_pos a i (by omega)]; simp
 have e2:a.toList[j]'(by simpa using hj)=a[j]! := by rw [getElem!_pos a j hj]; simp
 rw [e1,e2] at this
 have g0:a[i]! ∈ a.toList:=by rw [← e1]; exact List.getElem_mem _
 have g1:a[i]! ∈ l:=preL_sub.subset (ha ▸ g0)
 have hg:=hgood _ g1
 have he:a[i]!.k.suf=a[j]!.k.suf:=bytes_eq_of (by simpa [ltS] using h1) (by simpa [ltS] using h2)
 have:=this.2 he
 simp only
 omega
end Go.E
end
section
namespace Go.E
open Go Go.Sort Go.Proofs
def thr:(Nat→Bool)→Nat→Nat
 | _,0=>0
 | P,N+1=>if P 0 then thr (fun i=>P (i+1)) N+1 else 0
theorem thr_le (P:Nat→Bool) (N:Nat):thr P N≤N:=by
 induction N generalizing P with
 | zero=>exact Nat.le_refl _
 | succ N ih =>
  unfold thr
  split
  ·have:=ih (fun i=>P (i+1)); omega
  ·omega
theorem lt_thr {P:Nat→Bool} {N:Nat} (hd:∀ p q,p≤q→q < N→P q=true→P p=true) {p:Nat} (hp:p < N):p < thr P N↔P p=true:=by
 induction N generalizing P p with
 | zero=>omega
 | succ N ih =>
  unfold thr
  by_cases h0:P 0=true
  ·rw [if_pos h0]
   cases p with
   | zero=>simp [h0]
   | succ p =>
    rw [← ih (P:=fun i=>P (i+1)) (fun a b h1 h2 h3=>hd (a+1) (b+1) (by omega) (by omega) h3) (by omega)]
    omega
  ·rw [if_neg h0]
   constructor
   ·omega
   ·intro h; exact absurd (hd 0 p (Nat.zero_le _) hp h) h0
theorem ble_of {a b:Bytes} (h:a < b):¬ b < a:=fun h2=>List.lt_irrefl a (List.lt_trans h h2)
theorem bnd_mono {L:List Sp} (h:Wf L) {p q:Nat} (hpq:p≤q) (hq:q < 2 * L.length):¬ bnd L q < bnd L p:=by
 have hj:q / 2 < L.length:=by omega
 unfold bnd
 rcases Nat.lt_or_ge (p / 2) (q / 2) with h1 | h1
 ·have a1:=h.2 _ _ h1 hj
  have a2:=h.1 (p / 2) (by omega)
  have a3:=h.1 (q / 2) hj
  split <;> split <;> grind
 ·have e:p / 2=q / 2:=by omega
  have a3:=h.1 (q / 2) hj
  rw [e]
  by_cases hp2:p % 2=0
  ·rw [if_pos hp2]
   split
   ·exact List.lt_irrefl _
   ·exact ble_of a3
  ·rw [if_neg hp2,if_neg (by omega)]
   exact List.lt_irrefl _
def cL (L:List Sp) (x:Bytes):Nat:=thr (fun p=>decide (bnd L p < x)) (2 * L.length)
def cE (L:List Sp) (x:Bytes):Nat:=thr (fun p=>decide (¬ x < bnd L p)) (2 * L.length)
theorem lt_cL {L:List Sp} (h:Wf L) {x:Bytes} {p:Nat} (hp:p < 2 * L.length):p < cL L x↔bnd L p < x:=by
 unfold cL
 rw [lt_thr (fun a b h1 h2 h3 => ?_) hp,decide_eq_true_eq]
 rw [decide_eq_true_eq] at h3 ⊢
 exact bytes_lt_of (bnd_mono h h1 h2) h3
theorem lt_cE {L:List Sp} (h:Wf L) {x:Bytes} {p:Nat} (hp:p < 2 * L.length):p < cE L x↔¬ x < bnd L p:=by
 unfold cE
 rw [lt_thr (fun a b h1 h2 h3 => ?_) hp,decide_eq_true_eq]
 rw [decide_eq_true_eq] at h3 ⊢
 intro h4
 exact h3 (bytes_trans h4 (bnd_mono h h1 h2))
theorem cL_le (L:List Sp) (x:Bytes):cL L x≤2 * L.length:=thr_le _ _
theorem cE_le (L:List Sp) (x:Bytes):cE L x≤2 * L.length:=thr_le _ _
theorem nat_eq_of {a b N:Nat} (ha:a≤N) (hb:b≤N) (h:∀ p,p < N→(p < a↔p < b)):a=b:=by
 rcases Nat.lt_trichotomy a b with h1 | h1 | h1
 ·have:=h a (by omega); omega
 ·exact h1
 ·have:=h b (by omega); omega
structure Bds (n:Nat) (L:Nat→List Sp) (B:List Bytes):Prop where
 wf:∀ i,i < n→Wf (L i)
 sorted:B.Pairwise (· < ·)
 mem:∀ x,x ∈ B↔∃ i,i < n∧∃ p,p < 2 * (L i).length∧bnd (L i) p=x
section
variable {n:Nat} {L:Nat→List Sp} {B:List Bytes}
theorem Bds.lt (h:Bds n L B) {i j:Nat} (hi:i < B.length) (hj:j < B.length):B[i]! < B[j]! ↔ i < j:=by
 have hp:=List.pairwise_iff_getElem.1 h.sorted
 rw [getElem!_pos B i hi,getElem!_pos B j hj]
 constructor
 ·intro h1
  rcases Nat.lt_trichotomy i j with h2 | h2 | h2
  ·exact h2
  ·subst h2; exact absurd h1 (List.lt_irrefl _)
  ·exact absurd h1 (ble_of (hp j i hj hi h2))
 ·intro h1; exact hp i j hi hj h1
theorem Bds.at (h:Bds n L B) {i p:Nat} (hi:i < n) (hp:p < 2 * (L i).length):∃ j,j < B.length∧B[j]! = bnd (L i) p:=by
 have:=(h.mem (bnd (L i) p)).2 ⟨i,hi,p,hp,rfl⟩
 obtain ⟨j,hj,e⟩:=List.getElem_of_mem this
 exact ⟨j,hj,by rw [getElem!_pos B j hj]; exact e⟩
def cp (L:Nat→List Sp) (B:List Bytes) (t i:Nat):Nat:=if t=0 then 0 else cE (L i) B[t - 1]!
theorem cp_le (t i:Nat):cp L B t i≤2 * (L i).length:=by
 unfold cp
 split
 ·omega
 ·exact cE_le _ _
theorem lt_cp (h:Bds n L B) {t i p:Nat} (ht:t≤B.length) (hi:i < n) (hp:p < 2 * (L i).length) {j:Nat} (hj:j < B.length) (e:B[j]! = bnd (L i) p):p < cp L B t i↔j < t:=by
 unfold cp
 split
 ·omega
 ·rw [lt_cE (h.wf i hi) hp,← e,h.lt (by omega) hj]
  omega
theorem cp_cL (h:Bds n L B) {t i:Nat} (ht:t < B.length) (hi:i < n):cp L B t i=cL (L i) B[t]! := by
 refine nat_eq_of (cp_le t i) (cL_le _ _) fun p hp => ?_
 obtain ⟨j,hj,e⟩:=h.at hi hp
 rw [lt_cp h (by omega) hi hp hj e,lt_cL (h.wf i hi) hp,← e,h.lt hj ht]
theorem cp_end (h:Bds n L B) {i:Nat} (hi:i < n):cp L B B.length i=2 * (L i).length:=by
 refine nat_eq_of (cp_le _ i) (Nat.le_refl _) fun p hp => ?_
 obtain ⟨j,hj,e⟩:=h.at hi hp
 rw [lt_cp h (by omega) hi hp hj e]
 omega
theorem cp_mono (h:Bds n L B) {t t2 i:Nat} (ht:t≤t2) (ht2:t2≤B.length) (hi:i < n):cp L B t i≤cp L B t2 i:=by
 rcases Nat.lt_or_ge (cp L B t2 i) (cp L B t i) with h1 | h1
 ·have hp:cp L B t2 i < 2 * (L i).length:=by have:=cp_le (L:=L) (B:=B) t i; omega
  obtain ⟨j,hj,e⟩:=h.at hi hp
  have a:=(lt_cp h (by omega:t≤B.length) hi hp hj e).1 h1
  have b:=(lt_cp h ht2 hi hp hj e).2 (by omega)
  omega
 ·exact h1
def RgF (n:Nat) (L:Nat→List Sp) (B:List Bytes) (t:Nat) (pos:Nat→Int):Prop:=∀ i,i < n→0 < (L i).length→(cp L B t i:Int)≤pos i∧pos i≤cp L B (min (t+1) B.length) i
structure NearF (n:Nat) (L:Nat→List Sp) (B:List Bytes) (t:Nat) (pos:Nat→Int):Prop where
 le:t≤B.length
 rg:RgF n L B t pos
 ex:t < B.length→∃ i,i < n∧vld (L i) (pos i)∧bnd (L i) (pos i).toNat=B[t]!
def AtF (n:Nat) (L:Nat→List Sp) (B:List Bytes) (t:Nat) (pos:Nat→Int):Prop:=∀ i,i < n→0 < (L i).length→pos i=cp L B t i
theorem vld_pos {L:List Sp} {p:Int} (h:vld L p):∃ q:Nat,p=q∧q < 2 * L.length∧0 < L.length:=by
 unfold vld at h
 exact ⟨p.toNat,by omega,by omega,by omega⟩
theorem RgF.ge (h:Bds n L B) {t i:Nat} {pos:Nat→Int} (g:RgF n L B t pos) (ht:t < B.length) (hi:i < n) (hv:vld (L i) (pos i)):¬ bnd (L i) (pos i).toNat < B[t]! := by
 obtain ⟨q,e,hq,h0⟩:=vld_pos hv
 have:=(g i hi h0).1
 rw [e,Int.toNat_natCast,← lt_cL (h.wf i hi) hq,← cp_cL h ht hi]
 omega
theorem NearF.root (h:Bds n L B) {t r:Nat} {pos:Nat→Int} (g:NearF n L B t pos) (hr:r < n) (hv:vld (L r) (pos r)) (hmin:∀ x,x < n→vld (L x) (pos x)→¬ bnd (L x) (pos x).toNat < bnd (L r) (pos r).toNat) :
    t < B.length∧bnd (L r) (pos r).toNat=B[t]! := by
 have ht:t < B.length:=by
  rcases Nat.lt_or_ge t B.length with h1 | h1
  ·exact h1
  ·exfalso
   obtain rfl:t=B.length:=by have:=g.le; omega
   obtain ⟨q,e,hq,h0⟩:=vld_pos hv
   have:=(g.rg r hr h0).1
   rw [cp_end h hr] at this
   omega
 obtain ⟨i,hi,hvi,ei⟩:=g.ex ht
 have a:=hmin i hi hvi
 rw [ei] at a
 exact ⟨ht,bytes_eq_of (g.rg.ge h ht hr hv) a⟩
theorem NearF.none (h:Bds n L B) {t:Nat} {pos:Nat→Int} (g:NearF n L B t pos) (hn:∀ x,x < n→¬ vld (L x) (pos x)):t=B.length:=by
 rcases Nat.lt_or_ge t B.length with h1 | h1
 ·obtain ⟨i,hi,hv,_⟩:=g.ex h1
  exact absurd hv (hn i hi)
 ·have:=g.le; omega
theorem RgF.step (h:Bds n L B) {t r:Nat} {pos:Nat→Int} (g:RgF n L B t pos) (ht:t < B.length) (hr:r < n) (hv:vld (L r) (pos r)) (e:bnd (L r) (pos r).toNat=B[t]!):RgF n L B t (upd pos r (nxt (L r) (pos r))):=by
 intro i hi h0
 unfold upd
 split
 ·rename_i hir
  subst hir
  obtain ⟨q,eq,hq,_⟩:=vld_pos hv
  rw [eq,Int.toNat_natCast] at e
  have a:=(lt_cp h (show t+1≤B.length by omega) hi hq ht e.symm).2 (by omega)
  have b:=(g i hi h0).1
  rw [eq] at b ⊢
  unfold nxt
  rw [if_neg (by omega),show min (t+1) B.length=t+1 by omega]
  omega
 ·exact g i hi h0
theorem RgF.done (h:Bds n L B) {t:Nat} {pos:Nat→Int} (g:RgF n L B t pos) (ht:t < B.length) (hne:∀ x,x < n→vld (L x) (pos x)→bnd (L x) (pos x).toNat≠B[t]!):AtF n L B (t+1) pos:=by
 intro i hi h0
 obtain ⟨g1,g2⟩:=g i hi h0
 rw [show min (t+1) B.length=t+1 by omega] at g2
 have a:=cp_le (L:=L) (B:=B) (t+1) i
 rcases Int.lt_or_le (pos i) (cp L B (t+1) i) with h1 | h1
 ·exfalso
  have hv:vld (L i) (pos i):=⟨by omega,by omega⟩
  obtain ⟨q,eq,hq,_⟩:=vld_pos hv
  obtain ⟨j,hj,e⟩:=h.at hi hq
  have hne:=hne i hi hv
  rw [eq] at h1 g1 hne
  have b1:=(lt_cp h (show t+1≤B.length by omega) hi hq hj e).1 (by omega)
  have b2:¬ j < t:=fun hjt=>by
   have:=(lt_cp h (show t≤B.length by omega) hi hq hj e).2 hjt
   omega
  obtain rfl:j=t:=by omega
  rw [Int.toNat_natCast] at hne
  exact hne e.symm
 ·omega
theorem AtF.near (h:Bds n L B) {t:Nat} {pos:Nat→Int} (g:AtF n L B t pos) (ht:t≤B.length):NearF n L B t pos where
 le:=ht
 rg i hi h0:=by
  have:=cp_mono h (show t≤min (t+1) B.length by omega) (by omega) hi
  rw [g i hi h0]
  omega
 ex hlt:=by
  have hm:B[t]! ∈ B:=by rw [getElem!_pos B t hlt]; exact List.getElem_mem _
  obtain ⟨i,hi,p,hp,e⟩:=(h.mem _).1 hm
  have h0:0 < (L i).length:=by omega
  have e1:=g i hi h0
  have a1:¬ p < cp L B t i:=by rw [lt_cp h ht hi hp hlt e.symm]; omega
  have a2:cp L B t i < 2 * (L i).length:=by omega
  refine ⟨i,hi,⟨by omega,by omega⟩,?_⟩
  rw [e1,Int.toNat_natCast]
  obtain ⟨j,hj,ej⟩:=h.at hi a2
  have a3:=lt_cp h ht hi a2 hj ej
  have a4:¬ j < t:=by omega
  have a5:=bnd_mono (h.wf i hi) (show cp L B t i≤p by omega) hp
  rw [e,← ej,h.lt hlt hj] at a5
  obtain rfl:j=t:=by omega
  exact ej.symm
def RgB (n:Nat) (L:Nat→List Sp) (B:List Bytes) (t:Nat) (pos:Nat→Int):Prop:=∀ i,i < n→0 < (L i).length→(cp L B (t - 1) i:Int)≤pos i+1∧pos i+1≤cp L B t i
structure NearB (n:Nat) (L:Nat→List Sp) (B:List Bytes) (t:Nat) (pos:Nat→Int):Prop where
 le:t≤B.length
 rg:RgB n L B t pos
 ex:0 < t→∃ i,i < n∧vld (L i) (pos i)∧bnd (L i) (pos i).toNat=B[t - 1]!
def AtB (n:Nat) (L:Nat→List Sp) (B:List Bytes) (t:Nat) (pos:Nat→Int):Prop:=∀ i,i < n→0 < (L i).length→pos i+1=cp L B t i
theorem RgB.le (h:Bds n L B) {t i:Nat} {pos:Nat→Int} (g:RgB n L B t pos) (ht:t≤B.length) (h0:0 < t) (hi:i < n) (hv:vld (L i) (pos i)):¬ B[t - 1]! < bnd (L i) (pos i).toNat:=by
 obtain ⟨q,e,hq,hl⟩:=vld_pos hv
 have:=(g i hi hl).2
 obtain ⟨j,hj,ej⟩:=h.at hi hq
 have a:=(lt_cp h ht hi hq hj ej).1 (by omega)
 rw [e,Int.toNat_natCast,← ej,h.lt (by omega) hj]
 omega
theorem NearB.root (h:Bds n L B) {t r:Nat} {pos:Nat→Int} (g:NearB n L B t pos) (hr:r < n) (hv:vld (L r) (pos r)) (hmax:∀ x,x < n→vld (L x) (pos x)→¬ bnd (L r) (pos r).toNat < bnd (L x) (pos x).toNat) :
    0 < t∧bnd (L r) (pos r).toNat=B[t - 1]! := by
 have ht:0 < t:=by
  rcases Nat.eq_zero_or_pos t with rfl | h1
  ·exfalso
   obtain ⟨q,e,hq,h0⟩:=vld_pos hv
   have:=(g.rg r hr h0).2
   unfold cp at this
   rw [if_pos rfl] at this
   omega
  ·exact h1
 obtain ⟨i,hi,hvi,ei⟩:=g.ex ht
 have a:=hmax i hi hvi
 rw [ei] at a
 exact ⟨ht,bytes_eq_of a (g.rg.le h g.le ht hr hv)⟩
theorem NearB.none (h:Bds n L B) {t:Nat} {pos:Nat→Int} (g:NearB n L B t pos) (hn:∀ x,x < n→¬ vld (L x) (pos x)):t=0:=by
 rcases Nat.eq_zero_or_pos t with h1 | h1
 ·exact h1
 ·obtain ⟨i,hi,hv,_⟩:=g.ex h1
  exact absurd hv (hn i hi)
theorem RgB.step (h:Bds n L B) {t r:Nat} {pos:Nat→Int} (g:RgB n L B t pos) (ht:t≤B.length) (h0:0 < t) (hr:r < n) (hv:vld (L r) (pos r)) (e:bnd (L r) (pos r).toNat=B[t - 1]!):RgB n L B t (upd pos r (prv (pos r))):=by
 intro i hi hl
 unfold upd
 split
 ·rename_i hir
  subst hir
  obtain ⟨q,eq,hq,_⟩:=vld_pos hv
  rw [eq,Int.toNat_natCast] at e
  have a:¬ q < cp L B (t - 1) i:=by rw [lt_cp h (show t - 1≤B.length by omega) hi hq (show t - 1 < B.length by omega) e.symm]; omega
  have b:=(g i hi hl).2
  rw [eq] at b ⊢
  unfold prv
  rw [if_neg (by omega)]
  omega
 ·exact g i hi hl
theorem RgB.done (h:Bds n L B) {t:Nat} {pos:Nat→Int} (g:RgB n L B t pos) (ht:t≤B.length) (h0:0 < t) (hne:∀ x,x < n→vld (L x) (pos x)→bnd (L x) (pos x).toNat≠B[t - 1]!):AtB n L B (t - 1) pos:=by
 intro i hi hl
 obtain ⟨g1,g2⟩:=g i hi hl
 have a:=cp_le (L:=L) (B:=B) t i
 rcases Int.lt_or_le (cp L B (t - 1) i) (pos i+1) with h1 | h1
 ·exfalso
  have hv:vld (L i) (pos i):=⟨by omega,by omega⟩
  obtain ⟨q,eq,hq,_⟩:=vld_pos hv
  obtain ⟨j,hj,e⟩:=h.at hi hq
  have hne:=hne i hi hv
  rw [eq] at h1 g2 hne
  have b1:=(lt_cp h ht hi hq hj e).1 (by omega)
  have b2:¬ j < t - 1:=fun hjt=>by
   have:=(lt_cp h (show t - 1≤B.length by omega) hi hq hj e).2 hjt
   omega
  obtain rfl:j=t - 1:=by omega
  rw [Int.toNat_natCast] at hne
  exact hne e.symm
 ·omega
theorem AtB.near (h:Bds n L B) {t:Nat} {pos:Nat→Int} (g:AtB n L B t pos) (ht:t≤B.length):NearB n L B t pos where
 le:=ht
 rg i hi h0:=by
  have:=cp_mono h (show t - 1≤t by omega) ht hi
  rw [g i hi h0]
  omega
 ex h0:=by
  have hlt:t - 1 < B.length:=by omega
  have hm:B[t - 1]! ∈ B:=by rw [getElem!_pos B _ hlt]; exact List.getElem_mem _
  obtain ⟨i,hi,p,hp,e⟩:=(h.mem _).1 hm
  have hl:0 < (L i).length:=by omega
  have e1:=g i hi hl
  have a1:p < cp L B t i:=by rw [lt_cp h ht hi hp hlt e.symm]; omega
  have a2:=cp_le (L:=L) (B:=B) t i
  obtain ⟨q,eq⟩:∃ q:Nat,pos i=q:=⟨(pos i).toNat,by omega⟩
  rw [eq] at e1
  have hq:q < 2 * (L i).length:=by omega
  refine ⟨i,hi,⟨by omega,by omega⟩,?_⟩
  rw [eq,Int.toNat_natCast]
  obtain ⟨j,hj,ej⟩:=h.at hi hq
  have a3:=(lt_cp h ht hi hq hj ej).1 (by omega)
  have a5:=bnd_mono (h.wf i hi) (show p≤q by omega) hq
  rw [e,← ej,h.lt hj hlt] at a5
  obtain rfl:j=t - 1:=by omega
  exact ej.symm
theorem AtB.none {pos:Nat→Int} (g:AtB n L B 0 pos) {x:Nat} (hx:x < n):¬ vld (L x) (pos x):=by
 intro hv
 obtain ⟨q,eq,hq,h0⟩:=vld_pos hv
 have:=g x hx h0
 unfold cp at this
 rw [if_pos rfl] at this
 omega
end
end Go.E
end
section
namespace Go.E
open Go Go.Sort Go.Proofs
def winB (snap:Nat) (ks:List K) (x:K):Bool :=
 visT snap x.tr && decide (kindT x.tr=21) && ks.all fun y => !visT snap y.tr || (if kindT y.tr=19 then decide (y.tr < x.tr) else decide (y.suf=x.suf→y.tr≤x.tr))
def leS (x y:K):Bool:=decide (¬ y.suf < x.suf)
def Tf (snap:Nat) (ks:List K):List K:=(ks.filter (winB snap ks)).mergeSort leS
structure Cd (ks:List K):Prop where
 dist:ks.Pairwise fun x y=>x.suf=y.suf→x.tr≠y.tr
 kind:∀ x ∈ ks,kindT x.tr=19∨kindT x.tr=20∨kindT x.tr=21
theorem winB_iff {snap:Nat} {ks:List K} {x:K}:winB snap ks x=true↔visT snap x.tr=true∧kindT x.tr=21∧∀ y ∈ ks,visT snap y.tr=true→(kindT y.tr=19→y.tr < x.tr)∧(kindT y.tr≠19→y.suf=x.suf→y.tr≤x.tr):=by
 unfold winB
 simp only [Bool.and_eq_true,decide_eq_true_eq,List.all_eq_true,Bool.or_eq_true,Bool.not_eq_true']
 constructor
 ·rintro ⟨⟨h1,h2⟩,h3⟩
  refine ⟨h1,h2,fun y hy hv => ?_⟩
  rcases h3 y hy with h | h
  ·rw [hv] at h; simp at h
  ·split at h
   ·rename_i h9
    exact ⟨fun _=>by simpa using h,fun h'=>absurd h9 h'⟩
   ·rename_i h9
    exact ⟨fun h'=>absurd h' h9,fun _=>of_decide_eq_true h⟩
 ·rintro ⟨h1,h2,h3⟩
  refine ⟨⟨h1,h2⟩,fun y hy => ?_⟩
  by_cases hv:visT snap y.tr=true
  ·right
   obtain ⟨a,b⟩:=h3 y hy hv
   split
   ·rename_i h9; simpa using a h9
   ·rename_i h9; exact decide_eq_true (b h9)
  ·left; simpa using hv
theorem eq_of_strict {a b:List K} (ha:a.Pairwise fun x y=>x.suf < y.suf) (hb:b.Pairwise fun x y=>x.suf < y.suf) (h:∀ x,x ∈ a↔x ∈ b):a=b:=by
 induction a generalizing b with
 | nil =>
  cases b with
  | nil=>rfl
  | cons y b=>exact absurd ((h y).2 List.mem_cons_self) (by simp)
 | cons x a ih =>
  cases b with
  | nil=>exact absurd ((h x).1 List.mem_cons_self) (by simp)
  | cons y b =>
   have ha':=fun {z}=>List.rel_of_pairwise_cons (a':=z) ha
   have hb':=fun {z}=>List.rel_of_pairwise_cons (a':=z) hb
   have hxy:x=y:=by
    rcases List.mem_cons.1 ((h x).1 List.mem_cons_self) with e | h1
    ·exact e
    ·rcases List.mem_cons.1 ((h y).2 List.mem_cons_self) with e | h2
     ·exact e.symm
     ·exact absurd (ha' h2) (ble_of (hb' h1))
   subst hxy
   congr 1
   refine ih ha.of_cons hb.of_cons fun z => ?_
   have:=h z
   rw [List.mem_cons,List.mem_cons] at this
   constructor
   ·intro hz
    rcases this.1 (.inr hz) with e | h1
    ·subst e; exact absurd (ha' hz) (List.lt_irrefl _)
    ·exact h1
   ·intro hz
    rcases this.2 (.inr hz) with e | h1
    ·subst e; exact absurd (hb' hz) (List.lt_irrefl _)
    ·exact h1
theorem mem_Tf {snap:Nat} {ks:List K} {x:K}:x ∈ Tf snap ks↔x ∈ ks∧winB snap ks x=true:=by
 unfold Tf
 rw [List.mem_mergeSort,List.mem_filter]
theorem Tf_sorted {snap:Nat} {ks:List K} (h:Cd ks):(Tf snap ks).Pairwise fun x y=>x.suf < y.suf:=by
 have h1:(Tf snap ks).Pairwise fun x y=>leS x y=true:=by
  unfold Tf
  refine List.pairwise_mergeSort (fun a b c h1 h2 => ?_) (fun a b => ?_) _
  ·simp only [leS,decide_eq_true_eq] at h1 h2 ⊢
   intro h3
   exact h1 (bytes_lt_of h2 h3)
  ·simp only [leS,Bool.or_eq_true,decide_eq_true_eq]
   by_cases hab:b.suf < a.suf
   ·exact .inr (ble_of hab)
   ·exact .inl hab
 have h2:(Tf snap ks).Pairwise fun x y=>x.suf=y.suf→x.tr≠y.tr:=by
  unfold Tf
  refine (List.Perm.pairwise_iff ?_ (List.mergeSort_perm _ _)).2 (List.Pairwise.sublist List.filter_sublist h.dist)
  intro x y hxy e e2
  exact hxy e.symm e2.symm
 have h3:=h1.and h2
 rw [List.pairwise_iff_getElem] at h3 ⊢
 intro i j hi hj hij
 obtain ⟨a,b⟩:=h3 i j hi hj hij
 simp only [leS,decide_eq_true_eq] at a
 rcases blt_tri (Tf snap ks)[i].suf (Tf snap ks)[j].suf with c | c | c
 ·exact c
 ·exfalso
  have m1:=mem_Tf.1 (List.getElem_mem hi)
  have m2:=mem_Tf.1 (List.getElem_mem hj)
  obtain ⟨v1,k1,a1⟩:=winB_iff.1 m1.2
  obtain ⟨v2,k2,a2⟩:=winB_iff.1 m2.2
  have e1:=(a1 _ m2.1 v2).2 (by omega) c.symm
  have e2:=(a2 _ m1.1 v1).2 (by omega) c
  exact b c (by omega)
 ·exact absurd c a
theorem tf_of {snap:Nat} {l r:List KR} {ks:List K} (hd:DK l) (hc:CoR snap l r) (hks:(l.map KR.k).Perm ks) (h:Cd ks):(r.filter fun x=>kindT x.k.tr == 21).map KR.k=Tf snap ks:=by
 refine eq_of_strict ?_ (Tf_sorted h) fun x => ?_
 ·rw [List.pairwise_map]
  exact hc.sorted.filter _
 ·rw [mem_Tf,winB_iff,List.mem_map]
  constructor
  ·rintro ⟨a,ha,rfl⟩
   rw [List.mem_filter,hc.mem,mem_preL hd] at ha
   obtain ⟨⟨⟨p1,p2,p3,p4⟩,p5⟩,p6⟩:=ha
   have p6:kindT a.k.tr=21:=by simpa using p6
   refine ⟨hks.mem_iff.1 (List.mem_map_of_mem p1),p2,p6,fun y hy hv => ?_⟩
   obtain ⟨b,hb,rfl⟩:=List.mem_map.1 (hks.mem_iff.2 hy)
   refine ⟨p4 b hb hv,fun h9 hs => ?_⟩
   by_cases hbp:b ∈ preL snap l
   ·exact p5 b hbp hs
   ·rw [mem_preL hd] at hbp
    have:∃ z ∈ l,visT snap z.k.tr=true∧kindT z.k.tr=19∧¬ b.k.tr > z.k.tr:=by
     refine Classical.byContradiction fun hno=>hbp ⟨hb,hv,h9,fun z hz hzv hz9 => ?_⟩
     refine Classical.byContradiction fun hlt=>hno ⟨z,hz,hzv,hz9,hlt⟩
    obtain ⟨z,hz,hzv,hz9,hlt⟩:=this
    have:=p4 z hz hzv hz9
    omega
  ·rintro ⟨h1,h2,h3,h4⟩
   obtain ⟨a,ha,rfl⟩:=List.mem_map.1 (hks.mem_iff.2 h1)
   refine ⟨a,?_,rfl⟩
   rw [List.mem_filter,hc.mem,mem_preL hd]
   refine ⟨⟨⟨ha,h2,by omega,fun y hy hv h9=>(h4 y.k (hks.mem_iff.1 (List.mem_map_of_mem hy)) hv).1 h9⟩,fun y hy hs => ?_⟩,by simpa using h3⟩
   obtain ⟨q1,q2,q3,_⟩:=(mem_preL hd y).1 hy
   exact (h4 y.k (hks.mem_iff.1 (List.mem_map_of_mem q1)) q2).2 q3 hs
section
variable (snap n:Nat) (L:Nat→List Sp) (B:List Bytes)
def fragK (u:Nat):List K:=(List.range n).flatMap fun i=>if cp L B u i % 2=1 then (L i)[cp L B u i / 2]!.ks else []
def cov (u:Nat):Bool:=(List.range n).any fun i=>decide (cp L B u i % 2=1)
def covs:List Nat:=(List.range (B.length+1)).filter (cov n L B)
def fragS (u:Nat):Sp:=⟨B[u - 1]!,B[u]!,Tf snap (fragK n L B u)⟩
def GL:List Sp:=(covs n L B).map (fragS snap n L B)
end
section
variable {snap n:Nat} {L:Nat→List Sp} {B:List Bytes}
theorem cov_iff {u:Nat}:cov n L B u=true↔∃ i,i < n∧cp L B u i % 2=1:=by
 unfold cov
 simp only [List.any_eq_true,List.mem_range,decide_eq_true_eq]
theorem cov_lt (h:Bds n L B) {u:Nat} (hu:u≤B.length) (hc:cov n L B u=true):0 < u∧u < B.length:=by
 obtain ⟨i,hi,h1⟩:=cov_iff.1 hc
 constructor
 ·rcases Nat.eq_zero_or_pos u with rfl | h2
  ·unfold cp at h1; rw [if_pos rfl] at h1; omega
  ·exact h2
 ·rcases Nat.lt_or_ge u B.length with h2 | h2
  ·exact h2
  ·obtain rfl:u=B.length:=by omega
   rw [cp_end h hi] at h1
   omega
theorem mem_covs {u:Nat}:u ∈ covs n L B↔u≤B.length∧cov n L B u=true:=by
 unfold covs
 rw [List.mem_filter,List.mem_range,Nat.lt_succ_iff]
theorem covs_sorted:(covs n L B).Pairwise (· < ·):=by
 unfold covs
 exact List.Pairwise.filter _ List.pairwise_lt_range
end
def Cur (S:List Nat) (m c:Nat) (p:Int):Prop:=(∃ j:Nat,p=j∧S[j]? = some c)∨(p=S.length∧c=m)∨(p = -1∧c=0)
section
variable {S:List Nat} {m c u:Nat} {p:Int}
theorem sIdx (hS:S.Pairwise (· < ·)) {i j a b:Nat} (hi:S[i]? = some a) (hj:S[j]? = some b):a < b↔i < j:=by
 obtain ⟨hi',rfl⟩:=List.getElem?_eq_some_iff.1 hi
 obtain ⟨hj',rfl⟩:=List.getElem?_eq_some_iff.1 hj
 have hp:=List.pairwise_iff_getElem.1 hS
 constructor
 ·intro h1
  rcases Nat.lt_trichotomy i j with h2 | h2 | h2
  ·exact h2
  ·subst h2; omega
  ·have:=hp j i hj' hi' h2; omega
 ·exact hp i j hi' hj'
theorem Cur.rg (h:Cur S m c p) : -1≤p∧p≤S.length:=by
 rcases h with ⟨j,rfl,h⟩ | ⟨rfl,_⟩ | ⟨rfl,_⟩
 ·have:=(List.getElem?_eq_some_iff.1 h).1; omega
 ·omega
 ·omega
theorem Cur.next (hS:S.Pairwise (· < ·)) (hb:∀ x ∈ S,0 < x∧x < m) (h:Cur S m c p) (hu:u ∈ S) (hcu:c < u) (hno:∀ v ∈ S,c < v→¬ v < u):Cur S m u (p+1)∧p+1 < S.length:=by
 obtain ⟨j,hj,e⟩:=List.getElem_of_mem hu
 have ej:S[j]? = some u:=by rw [List.getElem?_eq_getElem hj,e]
 have key:p+1=j:=by
  rcases h with ⟨i,rfl,hi⟩ | ⟨rfl,rfl⟩ | ⟨rfl,rfl⟩
  ·have hij:=(sIdx hS hi ej).1 hcu
   rcases Nat.lt_or_ge (i+1) j with h1 | h1
   ·exfalso
    have e1:S[i+1]? = some S[i+1]:=List.getElem?_eq_getElem (by omega)
    exact hno _ (List.getElem_mem _) ((sIdx hS hi e1).2 (by omega)) ((sIdx hS e1 ej).2 h1)
   ·omega
  ·have:=(hb u hu).2; omega
  ·rcases Nat.eq_zero_or_pos j with rfl | h1
   ·omega
   ·exfalso
    have e1:S[0]? = some S[0]:=List.getElem?_eq_getElem (by omega)
    exact hno _ (List.getElem_mem _) (hb _ (List.getElem_mem (by omega))).1 ((sIdx hS e1 ej).2 h1)
 exact ⟨.inl ⟨j,key,ej⟩,by omega⟩
theorem Cur.next_none (hS:S.Pairwise (· < ·)) (hb:∀ x ∈ S,0 < x∧x < m) (h:Cur S m c p) (hno:∀ v ∈ S,¬ c < v):(S.length:Int)≤p+1:=by
 rcases h with ⟨i,rfl,hi⟩ | ⟨rfl,rfl⟩ | ⟨rfl,rfl⟩
 ·rcases Nat.lt_or_ge (i+1) S.length with h1 | h1
  ·exfalso
   have e1:S[i+1]? = some S[i+1]:=List.getElem?_eq_getElem h1
   exact hno _ (List.getElem_mem _) ((sIdx hS hi e1).2 (by omega))
  ·omega
 ·omega
 ·rcases Nat.eq_zero_or_pos S.length with h1 | h1
  ·omega
  ·exact absurd (hb _ (List.getElem_mem h1)).1 (hno _ (List.getElem_mem h1))
theorem Cur.prev (hS:S.Pairwise (· < ·)) (hb:∀ x ∈ S,0 < x∧x < m) (h:Cur S m c p) (hu:u ∈ S) (hcu:u < c) (hno:∀ v ∈ S,v < c→¬ u < v):Cur S m u (p - 1)∧0≤p - 1:=by
 obtain ⟨j,hj,e⟩:=List.getElem_of_mem hu
 have ej:S[j]? = some u:=by rw [List.getElem?_eq_getElem hj,e]
 have key:p - 1=j:=by
  rcases h with ⟨i,rfl,hi⟩ | ⟨rfl,rfl⟩ | ⟨rfl,rfl⟩
  ·have hij:=(sIdx hS ej hi).1 hcu
   rcases Nat.lt_or_ge (j+1) i with h1 | h1
   ·exfalso
    have hil:=(List.getElem?_eq_some_iff.1 hi).1
    have e1:S[j+1]? = some S[j+1]:=List.getElem?_eq_getElem (by omega)
    exact hno _ (List.getElem_mem _) ((sIdx hS e1 hi).2 h1) ((sIdx hS ej e1).2 (by omega))
   ·omega
  ·rcases Nat.lt_or_ge (j+1) S.length with h1 | h1
   ·exfalso
    have e1:S[j+1]? = some S[j+1]:=List.getElem?_eq_getElem (by omega)
    exact hno _ (List.getElem_mem _) (hb _ (List.getElem_mem _)).2 ((sIdx hS ej e1).2 (by omega))
   ·omega
  ·omega
 exact ⟨.inl ⟨j,key,ej⟩,by omega⟩
theorem Cur.prev_none (hS:S.Pairwise (· < ·)) (hb:∀ x ∈ S,0 < x∧x < m) (h:Cur S m c p) (hno:∀ v ∈ S,¬ v < c):p - 1 ≤ -1:=by
 rcases h with ⟨i,rfl,hi⟩ | ⟨rfl,rfl⟩ | ⟨rfl,rfl⟩
 ·rcases Nat.eq_zero_or_pos i with h1 | h1
  ·omega
  ·exfalso
   have hil:=(List.getElem?_eq_some_iff.1 hi).1
   have e1:S[0]? = some S[0]:=List.getElem?_eq_getElem (by omega)
   exact hno _ (List.getElem_mem _) ((sIdx hS e1 hi).2 h1)
 ·rcases Nat.eq_zero_or_pos S.length with h1 | h1
  ·omega
  ·exact absurd (hb _ (List.getElem_mem h1)).2 (hno _ (List.getElem_mem h1))
 ·omega
end
def skGE (G:List Sp) (key:Bytes):Nat:=thr (fun j=>decide (¬ key < G[j]!.e)) G.length
def skLT (G:List Sp) (key:Bytes):Int:=(thr (fun j=>decide (G[j]!.s < key)) G.length:Int) - 1
end Go.E
end
section
namespace Go.E
open Go Go.Sort Go.Proofs
def VIn (v:Value) (Q:Nat→Prop):Prop:=∀ a n c,v = .slice (some a) n c→Q a.block
theorem Bts.keep {w w2:World} {v:Value} {l:Bytes} {M:Nat→Nat→Prop} (h:Bts w v l) (hk:Keep M w w2) (hm:VIn v fun b=>b < w.heap.size→∀ o,¬ M b o):Bts w2 v l:=by
 unfold Bts at h ⊢
 split at h
 ·exact h
 ·rename_i a n c
  refine ⟨h.1,h.2.1,fun i x hx => ?_⟩
  have h3:=h.2.2 i x hx
  obtain ⟨b,o,s⟩:=a
  have hs:s=none:=h.1
  subst hs
  exact hk.some h3 (hm _ _ _ rfl (lt_of_cell h3) _)
 ·exact h.elim
def SpanO (ord:Int) (w:World) (b o:Nat) (x:Sp):Prop :=
 (∃ v,w.cell? ⟨b,o,none⟩=some v∧Bts w v x.s)∧(∃ v,w.cell? ⟨b,o+1,none⟩=some v∧Bts w v x.e) ∧
 (∃ v,w.cell? ⟨b,o+2,none⟩=some v∧SlcOf KeyC 3 w v x.ks)∧w.cell? ⟨b,o+3,none⟩=some (.int .i8 ord)
theorem SpanO.mono (ord:Int):Mono (SpanO ord):=fun _ _ _ _ _ hi ⟨⟨v,h1,h3⟩,⟨u,h4,h6⟩,⟨t,h7,h8⟩,h9⟩ =>
 ⟨⟨v,hi _ _ _ h1,h3.inc hi⟩,⟨u,hi _ _ _ h4,h6.inc hi⟩,⟨t,hi _ _ _ h7,h8.inc KeyC.mono hi⟩,hi _ _ _ h9⟩
def fRet (pb po:Nat) (G:List Sp) (p:Int):Value:=if 0≤p∧p < G.length then .pointer (some ⟨pb,po,none⟩) else .pointer none
theorem fRet_some {pb po:Nat} {G:List Sp} {p:Int} (h:0≤p) (h2:p < G.length):fRet pb po G p = .pointer (some ⟨pb,po,none⟩):=if_pos ⟨h,h2⟩
theorem fRet_none {pb po:Nat} {G:List Sp} {p:Int} (h:¬ (0≤p∧p < G.length)):fRet pb po G p = .pointer none:=if_neg h
def FK (recv:Value) (pb po:Nat) (G:List Sp) (T:Nat→Nat→Prop) (R:World→(Nat→Prop)→Int→Prop) (w:World) (S:Nat→Prop) (p:Int) (k:Kont):Prop :=
 ∀ w' S',R w' S' p→(∀ b,S' b→S b∨w.heap.size≤b)→Keep (fun b x=>T b x∨S b) w w'→k (fRet pb po G p) w'
end Go.E
end
section
namespace Go.E
open Go Go.Sort Go.Proofs
def K.sv (x:K):Bytes × Bytes:=(x.suf,x.val)
def joinG (G:List Sp) (j:Nat):Prop:=j+1 < G.length∧G[j]!.e=G[j+1]!.s∧G[j]!.ks≠[]∧G[j]!.ks.map K.sv=G[j+1]!.ks.map K.sv
instance (G:List Sp) (j:Nat):Decidable (joinG G j):=inferInstanceAs (Decidable (_∧_))
def isSt (G:List Sp) (j:Nat):Bool:=decide (j=0∨¬ joinG G (j - 1))
def sts (G:List Sp):List Nat:=(List.range G.length).filter (isSt G)
def stE (G:List Sp) (p:Nat):Nat:=if p+1 < (sts G).length then (sts G)[p+1]! else G.length
def Vw (G:List Sp):List Sp:=(List.range (sts G).length).map fun p=>⟨G[(sts G)[p]!]!.s,G[stE G p - 1]!.e,G[(sts G)[p]!]!.ks⟩
section
variable {G:List Sp}
theorem sts_sorted:(sts G).Pairwise (· < ·):=by
 unfold sts
 exact List.Pairwise.filter _ List.pairwise_lt_range
theorem mem_sts {j:Nat}:j ∈ sts G↔j < G.length∧(j=0∨¬ joinG G (j - 1)):=by
 unfold sts
 rw [List.mem_filter,List.mem_range]
 unfold isSt
 rw [decide_eq_true_eq]
theorem sts_at {p:Nat} (hp:p < (sts G).length):(sts G)[p]? = some (sts G)[p]! := by rw [getElem!_pos (sts G) p hp]; exact List.getElem?_eq_getElem hp
theorem sts_mem {p:Nat} (hp:p < (sts G).length):(sts G)[p]! < G.length∧((sts G)[p]! = 0∨¬ joinG G ((sts G)[p]! - 1)):=mem_sts.1 (List.mem_of_getElem? (sts_at hp))
theorem sts_zero (h:0 < G.length):0 < (sts G).length∧(sts G)[0]! = 0:=by
 have hm:0 ∈ sts G:=mem_sts.2 ⟨h,.inl rfl⟩
 obtain ⟨j,hj,e⟩:=List.getElem_of_mem hm
 have h0:0 < (sts G).length:=by omega
 refine ⟨h0,?_⟩
 rcases Nat.eq_zero_or_pos j with rfl | hj0
 ·rw [getElem!_pos (sts G) 0 h0]; exact e
 ·have:=(sIdx sts_sorted (sts_at h0) (by rw [List.getElem?_eq_getElem hj,e])).2 hj0
  omega
theorem sts_none (h:G.length=0):(sts G).length=0:=by
 rcases Nat.eq_zero_or_pos (sts G).length with h1 | h1
 ·exact h1
 ·have:=(sts_mem h1).1; omega
theorem stE_gt {p:Nat} (hp:p < (sts G).length):(sts G)[p]! < stE G p∧stE G p≤G.length:=by
 unfold stE
 split
 ·rename_i h
  exact ⟨(sIdx sts_sorted (sts_at hp) (sts_at h)).2 (by omega),Nat.le_of_lt (sts_mem h).1⟩
 ·exact ⟨(sts_mem hp).1,Nat.le_refl _⟩
theorem runIn {p j:Nat} (hp:p < (sts G).length) (h1:(sts G)[p]! ≤ j) (h2:j+1 < stE G p):joinG G j:=by
 refine Classical.byContradiction fun hn => ?_
 have hl:=(stE_gt hp).2
 have hm:j+1 ∈ sts G:=mem_sts.2 ⟨by omega,.inr (by simpa using hn)⟩
 obtain ⟨q,hq,e⟩:=List.getElem_of_mem hm
 have e':(sts G)[q]? = some (j+1):=by rw [List.getElem?_eq_getElem hq,e]
 have a:=(sIdx sts_sorted (sts_at hp) e').1 (by omega)
 unfold stE at h2
 split at h2
 ·rename_i hlt
  have:=(sIdx sts_sorted e' (sts_at hlt)).1 h2
  omega
 ·omega
theorem run_end {p:Nat} (hp:p < (sts G).length):¬ joinG G (stE G p - 1):=by
 intro hj
 have hlt:=hj.1
 have hg:=stE_gt hp
 unfold stE at hj hlt hg
 split at hj
 ·rename_i h
  rcases (sts_mem h).2 with h0 | h0
  ·have:=(sIdx sts_sorted (sts_at hp) (sts_at h)).2 (by omega)
   omega
  ·exact h0 hj
 ·rename_i h
  rw [if_neg h] at hlt hg
  omega
theorem run_begin {p:Nat} (hp:p < (sts G).length) (h0:0 < (sts G)[p]!):¬ joinG G ((sts G)[p]! - 1):=by
 rcases (sts_mem hp).2 with h | h
 ·omega
 ·exact h
theorem stE_succ {p:Nat} (h:p+1 < (sts G).length):stE G p=(sts G)[p+1]! := if_pos h
theorem stE_last {p:Nat} (h:¬ p+1 < (sts G).length):stE G p=G.length:=if_neg h
theorem run_of {j:Nat} (hj:j < G.length):∃ p,p < (sts G).length∧(sts G)[p]! ≤ j∧j < stE G p:=by
 induction j with
 | zero =>
  obtain ⟨h0,e⟩:=sts_zero hj
  have:=stE_gt h0
  exact ⟨0,h0,by omega,by omega⟩
 | succ j ih =>
  obtain ⟨p,hp,h1,h2⟩:=ih (by omega)
  rcases Nat.lt_or_ge (j+1) (stE G p) with h3 | h3
  ·exact ⟨p,hp,by omega,h3⟩
  ·have hlt:p+1 < (sts G).length:=by
     refine Classical.byContradiction fun h => ?_
     rw [stE_last h] at h3
     omega
   have e:=stE_succ hlt
   have:=stE_gt hlt
   exact ⟨p+1,hlt,by omega,by omega⟩
theorem run_empty {p:Nat} (hp:p < (sts G).length) (h:G[(sts G)[p]!]!.ks=[]):stE G p=(sts G)[p]! + 1:=by
 have:=stE_gt hp
 rcases Nat.lt_or_ge ((sts G)[p]! + 1) (stE G p) with h1 | h1
 ·exact absurd h (runIn hp (Nat.le_refl _) h1).2.2.1
 ·omega
theorem run_empty' {p j:Nat} (hp:p < (sts G).length) (h1:(sts G)[p]! ≤ j) (h2:j < stE G p) (h:G[j]!.ks=[]):(sts G)[p]! = j∧stE G p=j+1:=by
 have hj:(sts G)[p]! = j:=by
  rcases Nat.lt_or_ge (sts G)[p]! j with h3 | h3
  ·have:=runIn hp (j:=j - 1) (by omega) (by omega)
   obtain ⟨_,_,a,b⟩:=this
   rw [show j - 1+1=j by omega,h] at b
   simp only [List.map_nil,List.map_eq_nil_iff] at b
   exact absurd b a
  ·omega
 have:=run_empty hp (by rw [hj]; exact h)
 omega
theorem run_same {p j:Nat} (hp:p < (sts G).length) (h1:(sts G)[p]! ≤ j) (h2:j < stE G p):G[j]!.ks.map K.sv=G[(sts G)[p]!]!.ks.map K.sv:=by
 obtain ⟨m,hm⟩:∃ m,j=(sts G)[p]! + m:=⟨j - (sts G)[p]!,by omega⟩
 induction m generalizing j with
 | zero=>rw [hm]; rfl
 | succ m ih =>
  have:=ih (j:=j - 1) (by omega) (by omega) (by omega)
  have q:=(runIn hp (j:=j - 1) (by omega) (by omega)).2.2.2
  rw [show j - 1+1=j by omega] at q
  rw [← q,this]
theorem Vw_length:(Vw G).length=(sts G).length:=by unfold Vw; simp
theorem Vw_at {p:Nat} (hp:p < (sts G).length):(Vw G)[p]! = ⟨G[(sts G)[p]!]!.s,G[stE G p - 1]!.e,G[(sts G)[p]!]!.ks⟩:=by
 rw [getElem!_pos _ p (by rw [Vw_length]; exact hp)]
 unfold Vw
 simp
end
end Go.E
end
