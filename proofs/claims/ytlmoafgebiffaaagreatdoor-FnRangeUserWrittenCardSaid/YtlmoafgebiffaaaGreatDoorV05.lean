/- Parts of the proof: So, Sb. -/
import Derived.Sort.AssemblyPlain
import Derived.Sort.LotD5
import Derived.Sort.LotD4
import Derived.Sort.LotD7
import Derived.Test.YtlmoafgebiffaaaGreatDoorV04
set_option linter.all false
set_option maxRecDepth 10000
section
namespace Go.E
open Go Go.Sort Go.Proofs.Tryz
structure Srt (P:Program) (recv:Value) {α:Type} [Inhabited α] (lt:α→α→Bool) (N0:Nat) (R:World→Array α→Prop):Prop where
 size:∀ {w d},R w d→N0≤w.heap.size
 small:∀ {w d},R w d→d.size < 4611686018427387904
 less' : ∀ {w d} {i j : Nat} {k : aq}, R w d → i < d.size → j < d.size → (∀ w', R w' d → w'.heap = w.heap → k (.bool (lt d[i]! d[j]!)) w') → cQ P recv "Less" #[.int .i64 i, .int .i64 j] k w
 swap':∀ {w d} {i j:Nat} {k:aq},R w d→i < d.size→j < d.size →
  (∀ w', R w' (swp d i j) → w.heap.size ≤ w'.heap.size → (∀ b, N0 ≤ b → b < w.heap.size → w'.heap[b]? = w.heap[b]?) → k (.tuple #[]) w') → cQ P recv "Swap" #[.int .i64 i, .int .i64 j] k w
 alloc:∀ {w d} (ob:Obj),R w d→R (w.alloc ob) d
 set:∀ {w d} {b o:Nat} {v:Value},R w d→N0≤b→R (w.setCell ⟨b,o,none⟩ v) d
 drew:∀ {w d},R w d→R w.drew d
section cuts
variable {N:Nat} {P:Program} {st:List SI} {rs:List ResultVar} {k:aq} {e:de} {w:World}
theorem jf {c y:Code} {id:Nat} {β:Type} (sl:β→List (Nat × Value)) (J:β→World→Prop) (hok:dp N (.block id (.loop c))=true)
    (hx:∀ K:de→World→Prop,(∀ (e:de) w b,gm e (sl b)→J b w→K e w)→hZ N P (.loop c) (.block id :: .inv K :: st) rs k e w)
    (hy:∀ (e:de) b w,J b w→hZ N P y st rs k (qY e (sl b)) w):hZ N P (.loop c) (.block id :: .code y :: st) rs k e w:=by
 rw [← iH,← lh]
 exact tJ sl J hok (fun K hK=>by rw [iH]; exact hx K hK) hy
theorem mW {a b y:Code} {t:Bool} {β:Type} (sl:β→List (Nat × Value)) (J:β→World→Prop) (ha:dp N a=true) (hb:dp N b=true)
    (hx:∀ K:de→World→Prop,(∀ (e:de) w b,gm e (sl b)→J b w→K e w)→rM N P (.bool t) a b (.inv K :: st) rs k e w)
    (hy:∀ (e:de) b w,J b w→hZ N P y st rs k (qY e (sl b)) w):rM N P (.bool t) a b (.code y :: st) rs k e w:=by
 cases t
 ·rw [jZ,← lh]
  exact tJ sl J hb (fun K hK=>by have:=hx K hK; rwa [jZ] at this) hy
 ·rw [kT,← lh]
  exact tJ sl J ha (fun K hK=>by have:=hx K hK; rwa [kT] at this) hy
end cuts
section
variable {P:Program} {recv:Value} {α:Type} [Inhabited α] {lt:α→α→Bool} {N0:Nat} {R:World→Array α→Prop}
theorem Srt.less (S:Srt P recv lt N0 R) {w:World} {d:Array α} {x y:Int} (i j:Nat) {k:aq} (h:R w d) (hx:x=i) (hy:y=j) (hi:i < d.size) (hj:j < d.size) (hk:∀ w',R w' d→k (.bool (lt d[i]! d[j]!)) w') :
    cQ P recv "Less" #[.int .i64 x, .int .i64 y] k w := by
 subst hx; subst hy; exact S.less' h hi hj fun w' h _=>hk w' h
theorem Srt.swap (S:Srt P recv lt N0 R) {w:World} {d:Array α} {x y:Int} (i j:Nat) {k:aq} (h:R w d) (hx:x=i) (hy:y=j) (hi:i < d.size) (hj:j < d.size) (hk:∀ w',R w' (swp d i j)→k (.tuple #[]) w') :
    cQ P recv "Swap" #[.int .i64 x, .int .i64 y] k w := by
 subst hx; subst hy; exact S.swap' h hi hj fun w' h _ _=>hk w' h
end
end Go.E
namespace Go.Proofs
open Go Go.E Go.Sort Go.Proofs.Tryz
section
variable {recv:Value} {α:Type} [Inhabited α] {lt:α→α→Bool} {N0:Nat} {R:World→Array α→Prop} {k:aq} {w:World} {d:Array α}
theorem iQ (lt:α→α→Bool) (a:Nat):∀ (j:Nat) (d:Array α),(insInner lt a j d).size=d.size
 | 0,d=>rfl
 | j+1,d=>by
  unfold insInner
  split
  ·rw [iQ lt a j]; simp [swp]
  ·rfl
theorem gu (S:Srt prog recv lt N0 R) {a b:Nat} (hR:R w d) (hb:b≤d.size) (ha:a < 4611686018427387904) (hk:∀ w',R w' (insertionSort lt d a b)→k (.tuple #[]) w') :
    ai prog 123 #[recv,.int .i64 a,.int .i64 b] k w:=by
 have hsm:=S.small hR
 refine al [] func123 ?_
 refine bA ?_
 refine bZ (fun x:Nat × Array α=>[(0,recv),(1,.int .i64 a),(2,.int .i64 b),(6,.int .i64 x.1)]) (fun x w=>R w x.2∧a < x.1∧x.2.size=d.size∧insOuter lt a b x.1 x.2=insertionSort lt d a b)
  (fun x _=>b - x.1) (a+1,d) (by kernel_rfl) ?_ ?_ ?_
 ·exact bU
 ·exact ⟨hR,by simp,rfl,rfl⟩
 rintro K e ⟨i,d1⟩ w1 ⟨h1,h2,h3,h4⟩ hK
 simp only at h1 h2 h3 h4
 by_cases hib:i < b
 ·have hib':(i:Int) < b:=by omega
  refine bu @hib' ?_
  refine bZ (fun x:Nat × Array α=>[(0,recv),(1,.int .i64 a),(2,.int .i64 b),(6,.int .i64 i),(7,.int .i64 x.1)]) (fun x w=>R w x.2∧x.1≤i∧x.2.size=d.size∧insInner lt a x.1 x.2=insInner lt a i d1)
   (fun x _=>x.1) (i,d1) (by kernel_rfl) ?_ ?_ ?_
  ·exact bU
  ·exact ⟨h1,aF _,h3,rfl⟩
  rintro K2 e2 ⟨j,d2⟩ w2 ⟨g1,g2,g3,g4⟩ hK2
  simp only at g1 g2 g3 g4
  have fin:∀ w2,R w2 d2→d2=insInner lt a i d1→∀ e3:de,gm e3 [(0,recv),(1,Value.int IntKind.i64 ↑a),(2,Value.int IntKind.i64 ↑b),(6,Value.int IntKind.i64 ((i:Int)+1))]→K e3 w2:=by
   intro w2 g1 he e3 h
   refine hK _ _ (i+1,d2) h ⟨g1,by simp only; omega,g3,?_⟩ (by simp only; omega)
   rw [← h4,he]
   conv=>rhs; unfold insOuter
   simp [hib]
  by_cases haj:a < j
  ·obtain ⟨j,rfl⟩:∃ j',j=j'+1:=⟨j - 1,by omega⟩
   have haj':(a:Int) < ((j+1:Nat):Int):=by omega
   refine bu @haj' ?_
   refine S.less (j+1) j g1 rfl (by omega) (by omega) (by omega) fun wl g1 => ?_
   cases hl:lt d2[j+1]! d2[j]! with
   | true =>
    refine bA ?_
    refine S.swap (j+1) j g1 rfl (by omega) (by omega) (by omega) fun w3 g5 => ?_
    refine bA ?_
    refine hK2 _ _ (j,swp d2 (j+1) j) ?_ ⟨g5,by simp only; omega,by simp [swp,g3],?_⟩ (by simp)
    ·exact bU
    ·rw [← g4]
     conv=>rhs; unfold insInner
     simp [haj,hl]
   | false =>
    refine bA ?_
    refine fin _ g1 ?_ _ ?_
    ·rw [← g4]; unfold insInner; simp [hl]
    ·exact bU
  ·have haj':¬ (a:Int) < (j:Int):=by omega
   refine bu @haj' ?_
   refine fin _ g1 ?_ _ ?_
   ·rw [← g4]
    cases j with
    | zero=>rfl
    | succ j=>unfold insInner; simp [haj]
   ·exact bU
 ·have hib':¬ (i:Int) < b:=by omega
  refine bu @hib' ?_
  refine hk _ ?_
  rw [← h4]; unfold insOuter; simpa [hib] using h1
theorem iR (lt:α→α→Bool) (hi first:Nat):∀ (n root:Nat) (d:Array α),hi - root≤n→(siftDown lt hi first root d).size=d.size:=by
 intro n
 induction n with
 | zero=>intro root d h; unfold siftDown; rw [dif_pos (by omega)]
 | succ n ih =>
  intro root d h
  unfold siftDown
  split
  ·rfl
  ·split
   ·split
    ·rfl
    ·split
     ·rw [ih _ _ (by omega)]; simp [swp]
     ·rfl
   ·split
    ·rfl
    ·rw [ih _ _ (by omega)]; simp [swp]
theorem oA (S:Srt prog recv lt N0 R) {lo hi first:Nat} (hR:R w d) (hb:first+hi≤d.size) (hl:lo≤d.size) (hk:∀ w',R w' (siftDown lt hi first lo d)→k (.tuple #[]) w') :
    ai prog 131 #[recv,.int .i64 lo,.int .i64 hi,.int .i64 first] k w:=by
 have hsm:=S.small hR
 refine al [] func131 ?_
 refine bA ?_
 refine bZ (fun x:Nat × Array α=>[(0,recv),(2,.int .i64 hi),(3,.int .i64 first),(8,.int .i64 x.1)]) (fun x w=>R w x.2∧x.2.size=d.size∧x.1≤d.size∧siftDown lt hi first x.1 x.2=siftDown lt hi first lo d)
  (fun x _=>hi - x.1) (lo,d) (by kernel_rfl) ?_ ?_ ?_
 ·exact bU
 ·exact ⟨hR,rfl,hl,rfl⟩
 rintro K e ⟨r,d1⟩ w1 ⟨h1,h2,h3,h4⟩ hK
 simp only at h1 h2 h3 h4
 by_cases hc:2 * r+1 < hi
 ·have hc':¬ (hi:Int)≤2 * r+1:=by omega
  by_cases hc2:2 * r+2 < hi
  ·have hc2':(2 * r+1+1:Int) < hi:=by omega
   refine dO @hc' @hc2' ?_
   refine S.less (first+(2 * r+1)) (first+(2 * r+1)+1) h1 (by omega) (by omega) (by omega) (by omega) fun wl h1 => ?_
   cases hl:lt d1[first+(2 * r+1)]! d1[first+(2 * r+1)+1]! with
   | true =>
    refine bA ?_
    have n1:first+2 * r+2 < d1.size:=by omega
    refine S.less (first+r) (first+(2 * r+2)) h1 (by omega) (by omega) (by omega) n1 fun wl h1 => ?_
    cases hs:lt d1[first+r]! d1[first+(2 * r+2)]! with
    | true =>
     refine bu @Bool.not_true ?_
     refine S.swap (first+r) (first+(2 * r+2)) h1 (by omega) (by omega) (by omega) n1 fun w3 g5 => ?_
     refine bA ?_
     refine hK _ _ (2 * r+2,swp d1 (first+r) (first+(2 * r+2))) ?_ ⟨g5,by simp [swp,h2],by simp only; omega,?_⟩ (by simp only; omega)
     ·exact bU
     ·rw [← h4]
      conv=>rhs; unfold siftDown
      have hne:¬ 2 * r+1 ≥ hi:=by omega
      simp [hne,hs,hc2,hl]
    | false =>
     refine bu @Bool.not_false ?_
     refine hk _ ?_
     have e1:siftDown lt hi first r d1=d1:=by
      unfold siftDown
      have hne:¬ 2 * r+1 ≥ hi:=by omega
      simp [hne,hs,hc2,hl]
     rw [← h4,e1]; exact h1
   | false =>
    refine bA ?_
    have n1:first+2 * r+1 < d1.size:=by omega
    refine S.less (first+r) (first+(2 * r+1)) h1 (by omega) (by omega) (by omega) n1 fun wl h1 => ?_
    cases hs:lt d1[first+r]! d1[first+(2 * r+1)]! with
    | true =>
     refine bu @Bool.not_true ?_
     refine S.swap (first+r) (first+(2 * r+1)) h1 (by omega) (by omega) (by omega) n1 fun w3 g5 => ?_
     refine bA ?_
     refine hK _ _ (2 * r+1,swp d1 (first+r) (first+(2 * r+1))) ?_ ⟨g5,by simp [swp,h2],by simp only; omega,?_⟩ (by simp only; omega)
     ·exact bU
     ·rw [← h4]
      conv=>rhs; unfold siftDown
      have hne:¬ 2 * r+1 ≥ hi:=by omega
      simp [hne,hs,hc2,hl]
    | false =>
     refine bu @Bool.not_false ?_
     refine hk _ ?_
     have e1:siftDown lt hi first r d1=d1:=by
      unfold siftDown
      have hne:¬ 2 * r+1 ≥ hi:=by omega
      simp [hne,hs,hc2,hl]
     rw [← h4,e1]; exact h1
  ·have hc2':¬ (2 * r+1+1:Int) < hi:=by omega
   have hc3:¬ (2 * r+1+1 < hi):=by omega
   refine dO @hc' @hc2' ?_
   have n1:first+2 * r+1 < d1.size:=by omega
   refine S.less (first+r) (first+(2 * r+1)) h1 (by omega) (by omega) (by omega) n1 fun wl h1 => ?_
   cases hs:lt d1[first+r]! d1[first+(2 * r+1)]! with
   | true =>
    refine bu @Bool.not_true ?_
    refine S.swap (first+r) (first+(2 * r+1)) h1 (by omega) (by omega) (by omega) n1 fun w3 g5 => ?_
    refine bA ?_
    refine hK _ _ (2 * r+1,swp d1 (first+r) (first+(2 * r+1))) ?_ ⟨g5,by simp [swp,h2],by simp only; omega,?_⟩ (by simp only; omega)
    ·exact bU
    ·rw [← h4]
     conv=>rhs; unfold siftDown
     have hne:¬ 2 * r+1 ≥ hi:=by omega
     simp [hne,hs,hc3]
   | false =>
    refine bu @Bool.not_false ?_
    refine hk _ ?_
    have e1:siftDown lt hi first r d1=d1:=by
     unfold siftDown
     have hne:¬ 2 * r+1 ≥ hi:=by omega
     simp [hne,hs,hc3]
    rw [← h4,e1]; exact h1
 ·have hc':(hi:Int)≤2 * r+1:=by omega
  refine bu @hc' ?_
  refine hk _ ?_
  have e1:siftDown lt hi first r d1=d1:=by
   unfold siftDown
   simp [show hi≤2 * r+1 by omega]
  rw [← h4,e1]; exact h1
theorem vL (S:Srt prog recv lt N0 R) {a b:Nat} (hR:R w d) (hab:a≤b) (hb:b≤d.size) (hk:∀ w',R w' (heapSort lt d a b)→k (.tuple #[]) w') :
    ai prog 124 #[recv,.int .i64 a,.int .i64 b] k w:=by
 have hsm:=S.small hR
 have e0:((b:Int) - a - 1).tdiv 2=(((b - a - 1) / 2:Nat):Int):=by
  rcases aH a b with h | h
  ·rw [show (b:Int) - a - 1=((b - a - 1:Nat):Int) by omega]; simp
  ·rw [show (b:Int) - a - 1 = -1 by omega,show b - a - 1=0 by omega]; rfl
 have h2:(2:Int)≠0:=by decide
 refine al [] func124 ?_
 simp (disch:=first | exact dZ | fail) only [go_sem,fu h2,e0]
 refine bZ (fun x:Nat × Array α=>[(0,recv),(6,.int .i64 a),(7,.int .i64 0),(8,.int .i64 (b - a)),(9,.int .i64 (x.1 - 1))]) (fun x w=>R w x.2∧x.2.size=d.size∧x.1≤d.size+1∧heapBuild lt (b - a) a x.1 x.2=heapBuild lt (b - a) a ((b - a - 1) / 2+1) d)
  (fun x _=>x.1) ((b - a - 1) / 2+1,d) (by kernel_rfl) ?_ ?_ ?_
 ·exact bU
 ·exact ⟨hR,rfl,by simp only; omega,rfl⟩
 rintro K e ⟨i,d1⟩ w1 ⟨h1,h2,h3,h4⟩ hK
 simp only at h1 h2 h3 h4
 cases i with
 | succ i =>
  have hc:(0:Int)≤(i+1:Nat) - 1:=by omega
  refine bu @hc ?_
  rw [show ((i+1:Nat):Int) - 1=i by omega,show (b:Int) - a=((b - a:Nat):Int) by omega]
  refine oA S h1 (by omega) (by omega) fun w2 g1 => ?_
  refine bA ?_
  refine hK _ _ (i,siftDown lt (b - a) a i d1) ?_ ⟨g1,by simp only; rw [iR _ _ _ _ _ _ (aF _),h2],by simp only; omega,h4⟩ (by simp)
  exact bU
 | zero =>
  have hc:¬ (0:Int)≤(0:Nat) - 1:=by omega
  refine bu @hc ?_
  have h5:d1=heapBuild lt (b - a) a ((b - a - 1) / 2+1) d:=h4
  refine bZ (fun x:Nat × Array α=>[(0,recv),(6,.int .i64 a),(7,.int .i64 0),(10,.int .i64 (x.1 - 1))]) (fun x w=>R w x.2∧x.2.size=d.size∧x.1≤b - a∧heapPop lt a x.1 x.2=heapSort lt d a b)
   (fun x _=>x.1) (b - a,d1) (by kernel_rfl) ?_ ?_ ?_
  ·exact bU
  ·exact ⟨h1,h2,aF _,by simp only; rw [h5]; rfl⟩
  clear hK
  rintro K e ⟨i,d2⟩ w2 ⟨g1,g2,g3,g4⟩ hK
  simp only at g1 g2 g3 g4
  cases i with
  | succ i =>
   have hc:(0:Int)≤(i+1:Nat) - 1:=by omega
   refine bu @hc ?_
   refine S.swap a (a+i) g1 rfl (by omega) (by omega) (by omega) fun w3 g5 => ?_
   refine bA ?_
   rw [show ((i+1:Nat):Int) - 1=i by omega]
   refine oA (lo:=0) S g5 (by simp [swp]; omega) (by omega) fun w4 g6 => ?_
   refine bA ?_
   refine hK _ _ (i,siftDown lt i a 0 (swp d2 a (a+i))) ?_ ⟨g6,by simp only; rw [iR _ _ _ _ _ _ (aF _)]; simp [swp,g2],by simp only; omega,g4⟩ (by simp)
   exact bU
  | zero =>
   have hc:¬ (0:Int)≤(0:Nat) - 1:=by omega
   refine bu @hc ?_
   refine hk _ ?_
   rw [← g4]; exact g1
theorem pP (S:Srt prog recv lt N0 R) {a b:Nat} (hR:R w d) (hab:a < b) (hb:b≤d.size) (hk:∀ w',R w' (reverseRange d a b)→k (.tuple #[]) w') :
    ai prog 127 #[recv,.int .i64 a,.int .i64 b] k w:=by
 have hsm:=S.small hR
 refine al [] func127 ?_
 refine bA ?_
 refine bZ (fun x:Nat × Nat × Array α=>[(0,recv),(6,.int .i64 x.1),(7,.int .i64 x.2.1)]) (fun x w=>R w x.2.2∧x.2.2.size=d.size∧x.2.1 < d.size∧x.1≤d.size∧reverseLoop x.1 x.2.1 x.2.2=reverseRange d a b)
  (fun x _=>x.2.1 - x.1) (a,b - 1,d) (by kernel_rfl) ?_ ?_ ?_
 ·exact bU
 ·exact ⟨hR,rfl,by simp only; omega,by simp only; omega,rfl⟩
 rintro K e ⟨i,j,d1⟩ w1 ⟨h1,h2,h3,h5,h4⟩ hK
 simp only at h1 h2 h3 h4 h5
 by_cases hc:i < j
 ·have hc':(i:Int) < j:=by omega
  refine bu @hc' ?_
  refine S.swap i j h1 rfl (by omega) (by omega) (by omega) fun w3 g5 => ?_
  refine bA ?_
  refine hK _ _ (i+1,j - 1,swp d1 i j) ?_ ⟨g5,by simp [swp,h2],by simp only; omega,by simp only; omega,?_⟩ (by simp only; omega)
  ·exact bU
  ·rw [← h4]
   conv=>rhs; unfold reverseLoop
   simp [hc]
 ·have hc':¬ (i:Int) < j:=by omega
  refine bu @hc' ?_
  refine hk _ ?_
  rw [← h4]; unfold reverseLoop; simpa [hc] using h1
theorem m7 (S:Srt prog recv lt N0 R) {a b s B:Nat} (hR:R w d) (ha:a < d.size) (hb:b < d.size) (hs:s < 1000) (hc:w.cell? ⟨B,0,none⟩=some (.int .i64 s)) (hf:w.frozen? ⟨B,0,none⟩=false) (hB:N0≤B)
    (hk:∀ w',R w' d→w'.cell? ⟨B,0,none⟩=some (.int .i64 (order2 lt d a b s).2.2)→w'.frozen? ⟨B,0,none⟩=false→k (.tuple #[.int .i64 (order2 lt d a b s).1,.int .i64 (order2 lt d a b s).2.1]) w') :
    ai prog 136 #[recv,.int .i64 a,.int .i64 b,.pointer (some ⟨B,0,none⟩)] k w:=by
 refine al [.tmp 8,.tmp 9] func136 ?_
 refine bA ?_
 refine S.less' hR hb ha fun wl hR hh => ?_
 have hc:wl.cell? ⟨B,0,none⟩=some (.int .i64 s):=by rw [World.cell?_of_block (w:=w) (by rw [hh])]; exact hc
 have hf:wl.frozen? ⟨B,0,none⟩=false:=by rw [World.frozen?_of_block (w:=w) (by rw [hh])]; exact hf
 have e1:order2 lt d a b s=if lt d[b]! d[a]! then (b,a,s+1) else (a,b,s):=rfl
 cases hl:lt d[b]! d[a]! with
 | true =>
  rw [hl] at e1
  simp only [if_true] at e1
  refine dO @hc @hf ?_
  rw [e1] at hk
  refine hk _ (S.set hR hB) ?_ ?_
  ·simp (disch:=first | exact dZ | fail) only [go_sem,hc]; simp
  ·exact bX @hf
 | false =>
  rw [hl] at e1
  simp only [Bool.false_eq_true,if_false] at e1
  refine dO @hc @hf ?_
  rw [e1] at hk
  exact hk _ hR hc hf
theorem m8 (S:Srt prog recv lt N0 R) {a b c s B:Nat} {x y z:Int} (hR:R w d) (hx:x=a) (hy:y=b) (hz:z=c) (ha:a < d.size) (hb:b < d.size) (hc:c < d.size) (hs:s < 100) (hm:w.cell? ⟨B,0,none⟩=some (.int .i64 s)) (hf:w.frozen? ⟨B,0,none⟩=false) (hB:N0≤B)
    (hk:∀ w',R w' d→w'.cell? ⟨B,0,none⟩=some (.int .i64 (median lt d a b c s).2)→w'.frozen? ⟨B,0,none⟩=false→k (.int .i64 (median lt d a b c s).1) w') :
    ai prog 135 #[recv,.int .i64 x,.int .i64 y,.int .i64 z,.pointer (some ⟨B,0,none⟩)] k w:=by
 subst hx; subst hy; subst hz
 refine al [.tmp 10] func135 ?_
 refine bA ?_
 refine m7 S hR ha hb (by omega) hm hf hB fun w1 h1 m1 f1 => ?_
 have c1:=order2_count (lt:=lt) d a b s
 have q1:(order2 lt d a b s).1 < d.size∧(order2 lt d a b s).2.1 < d.size:=by rcases order2_mem lt d a b s with ⟨h,h'⟩ | ⟨h,h'⟩ <;> rw [h,h'] <;> exact ⟨by assumption,by assumption⟩
 refine bA ?_
 refine m7 S h1 q1.2 hc (by omega) m1 f1 hB fun w2 h2 m2 f2 => ?_
 have c2:=order2_count (lt:=lt) d (order2 lt d a b s).2.1 c (order2 lt d a b s).2.2
 have q2:(order2 lt d (order2 lt d a b s).2.1 c (order2 lt d a b s).2.2).1 < d.size:=by rcases order2_mem lt d (order2 lt d a b s).2.1 c (order2 lt d a b s).2.2 with ⟨h,h'⟩ | ⟨h,h'⟩ <;> rw [h] <;> first | exact q1.2 | exact hc
 refine bA ?_
 refine m7 S h2 q1.1 q2 (by omega) m2 f2 hB fun w3 h3 m3 f3 => ?_
 refine bA ?_
 exact hk _ h3 m3 f3
theorem gX (S:Srt prog recv lt N0 R) {a s B:Nat} {x:Int} (hR:R w d) (hx:x=a) (ha:0 < a) (hc:a+1 < d.size) (hs:s < 100) (hm:w.cell? ⟨B,0,none⟩=some (.int .i64 s)) (hf:w.frozen? ⟨B,0,none⟩=false) (hB:N0≤B)
    (hk:∀ w',R w' d→w'.cell? ⟨B,0,none⟩=some (.int .i64 (medianAdjacent lt d a s).2)→w'.frozen? ⟨B,0,none⟩=false→k (.int .i64 (medianAdjacent lt d a s).1) w') :
    ai prog 134 #[recv,.int .i64 x,.pointer (some ⟨B,0,none⟩)] k w:=by
 have hsm:=S.small hR
 subst hx
 refine al [.tmp 6] func134 ?_
 refine bA ?_
 refine m8 (a:=a - 1) (b:=a) (c:=a+1) S hR (by omega) (by omega) (by omega) (by omega) (by omega) hc hs hm hf hB fun w1 h1 m1 f1 => ?_
 refine bA ?_
 exact hk _ h1 m1 f1
theorem oC (a b:Nat):((a:Int)).tdiv (b:Int)=((a / b:Nat):Int):=by simp
def qJ:Hint→Int
 | .unknown=>0
 | .increasing=>1
 | .decreasing=>2
theorem qi (S:Srt prog recv lt N0 R) {a b:Nat} (hR:R w d) (hab:a < b) (hb:b≤d.size)
    (hk:∀ w',R w' d→k (.tuple #[.int .i64 (choosePivot lt d a b).1,.int .i64 (qJ (choosePivot lt d a b).2)]) w') :
    ai prog 126 #[recv,.int .i64 a,.int .i64 b] k w:=by
 have hsm:=S.small hR
 have h4:(4:Int)≠0:=by decide
 have e1:((b:Int) - a).tdiv 4=(((b - a) / 4:Nat):Int):=by rw [show (b:Int) - a=((b - a:Nat):Int) by omega]; exact oC _ 4
 refine al [.tmp 6,.tmp 7] func126 ?_
 have hR1:=S.alloc (.cells ([Value.int .i64 0]:List Value).toArray 3) hR
 have hN:=S.size hR
 obtain ⟨q,hq⟩:∃ q,q=(b - a) / 4:=⟨_,rfl⟩
 rw [← hq] at e1
 have ecp:choosePivot lt d a b=(let r:Nat × Nat:=if b - a ≥ 8 then (if b - a ≥ 50 then
       let ri:=medianAdjacent lt d (a+q * 1) 0
       let rj:=medianAdjacent lt d (a+q * 2) ri.2
       let rk:=medianAdjacent lt d (a+q * 3) rj.2
       median lt d ri.1 rj.1 rk.1 rk.2
   else median lt d (a+q * 1) (a+q * 2) (a+q * 3) 0) else (a+q * 2,0)
   (r.1,if r.2=0 then .increasing else if r.2=12 then .decreasing else .unknown)):=by subst hq; rfl
 have hf0:(w.alloc (.cells ([Value.int .i64 0]:List Value).toArray 3)).frozen? ⟨w.heap.size,0,none⟩=false:=by simp (disch:=first | exact dZ | fail) only [go_sem]
 have hm0:(w.alloc (.cells ([Value.int .i64 0]:List Value).toArray 3)).cell? ⟨w.heap.size,0,none⟩=some (.int .i64 ((0:Nat):Int)):=by simp (disch:=first | exact dZ | fail) only [go_sem]; rfl
 have fin:∀ (r:Nat × Nat) (w2:World),R w2 d→choosePivot lt d a b=(r.1,if r.2=0 then .increasing else if r.2=12 then .decreasing else .unknown) →
     (r.2=0→k (.tuple #[.int .i64 r.1,.int .i64 1]) w2)∧(r.2=12→k (.tuple #[.int .i64 r.1,.int .i64 2]) w2)∧(r.2≠0→r.2≠12→k (.tuple #[.int .i64 r.1,.int .i64 0]) w2):=by
  intro r w2 h2 he
  have hk2:=hk w2 h2
  rw [he] at hk2
  refine ⟨fun h => ?_,fun h => ?_,fun h h' => ?_⟩
  ·simpa [h,qJ] using hk2
  ·simpa [h,qJ] using hk2
  ·simpa [h,h',qJ] using hk2
 by_cases h8:8≤b - a
 ·have h8':(8:Int)≤(b:Int) - a:=by omega
  by_cases h50:50≤b - a
  ·have h50':(50:Int)≤(b:Int) - a:=by omega
   simp (disch:=first | exact dZ | fail) only [go_sem,fu h4,e1,h8',h50']
   refine gX (a:=a+q * 1) (s:=0) S hR1 (by omega) (by omega) (by omega) (by omega) hm0 hf0 hN fun w1 r1 m1 f1 => ?_
   have c1:=medianAdjacent_count lt d (a+q * 1) 0
   have b1:=medianAdjacent_mem lt d (a+q * 1) 0
   refine bA ?_
   refine gX (a:=a+q * 2) S r1 (by omega) (by omega) (by omega) (by omega) m1 f1 hN fun w2 r2 m2 f2 => ?_
   have c2:=medianAdjacent_count lt d (a+q * 2) (medianAdjacent lt d (a+q * 1) 0).2
   have b2:=medianAdjacent_mem lt d (a+q * 2) (medianAdjacent lt d (a+q * 1) 0).2
   refine bA ?_
   refine gX (a:=a+q * 3) S r2 (by omega) (by omega) (by omega) (by omega) m2 f2 hN fun w3 r3 m3 f3 => ?_
   have c3:=medianAdjacent_count lt d (a+q * 3) (medianAdjacent lt d (a+q * 2) (medianAdjacent lt d (a+q * 1) 0).2).2
   have b3:=medianAdjacent_mem lt d (a+q * 3) (medianAdjacent lt d (a+q * 2) (medianAdjacent lt d (a+q * 1) 0).2).2
   refine bA ?_
   refine m8 S r3 rfl rfl rfl (by omega) (by omega) (by omega) (by omega) m3 f3 hN fun w4 r4 m4 f4 => ?_
   have:=fin (median lt d (medianAdjacent lt d (a+q * 1) 0).1 (medianAdjacent lt d (a+q * 2) (medianAdjacent lt d (a+q * 1) 0).2).1 (medianAdjacent lt d (a+q * 3) (medianAdjacent lt d (a+q * 2) (medianAdjacent lt d (a+q * 1) 0).2).2).1 (medianAdjacent lt d (a+q * 3) (medianAdjacent lt d (a+q * 2) (medianAdjacent lt d (a+q * 1) 0).2).2).2) w4 r4 (by rw [ecp]; simp only [show b - a ≥ 8 from h8,show b - a ≥ 50 from h50,if_true])
   refine bu @m4 ?_
   revert this m4
   generalize median lt d _ _ _ _=r
   intro m4 this
   by_cases z:r.2=0
   ·have zz:(((r.2:Nat):Int) == 0)=true:=by simp [z]
    refine bu @zz ?_
    exact this.1 z
   ·have zz:(((r.2:Nat):Int) == 0)=false:=by simpa using z
    by_cases z2:r.2=12
    ·have zz2:(((r.2:Nat):Int) == 12)=true:=by simp [z2]
     refine dO @zz @zz2 ?_
     exact this.2.1 z2
    ·have zz2:(((r.2:Nat):Int) == 12)=false:=by simp; omega
     refine dO @zz @zz2 ?_
     exact this.2.2 z z2
  ·have h50':¬ (50:Int)≤(b:Int) - a:=by omega
   simp (disch:=first | exact dZ | fail) only [go_sem,fu h4,e1,h8',h50']
   refine m8 (a:=a+q * 1) (b:=a+q * 2) (c:=a+q * 3) (s:=0) S hR1 (by omega) (by omega) (by omega) (by omega) (by omega) (by omega) (by omega) hm0 hf0 hN fun w4 r4 m4 f4 => ?_
   have:=fin (median lt d (a+q * 1) (a+q * 2) (a+q * 3) 0) w4 r4 (by rw [ecp]; simp only [show b - a ≥ 8 from h8,show ¬ (b - a ≥ 50) from h50,if_true,if_false])
   refine bu @m4 ?_
   revert this m4
   generalize median lt d _ _ _ _=r
   intro m4 this
   by_cases z:r.2=0
   ·have zz:(((r.2:Nat):Int) == 0)=true:=by simp [z]
    refine bu @zz ?_
    exact this.1 z
   ·have zz:(((r.2:Nat):Int) == 0)=false:=by simpa using z
    by_cases z2:r.2=12
    ·have zz2:(((r.2:Nat):Int) == 12)=true:=by simp [z2]
     refine dO @zz @zz2 ?_
     exact this.2.1 z2
    ·have zz2:(((r.2:Nat):Int) == 12)=false:=by simp; omega
     refine dO @zz @zz2 ?_
     exact this.2.2 z z2
 ·have h8':¬ (8:Int)≤(b:Int) - a:=by omega
  simp (disch:=first | exact dZ | fail) only [go_sem,fu h4,e1,h8',hm0]
  have:=fin (a+q * 2,0) _ hR1 (by rw [ecp]; simp only [show ¬ (b - a ≥ 8) from h8,if_false])
  have zz:(((0:Nat):Int) == 0)=true:=rfl
  refine bu @zz ?_
  have:=this.1 rfl
  simpa using this
theorem ll (lt:α→α→Bool):∀ (j:Nat) (d:Array α),(shiftDown lt j d).size=d.size
 | 0,d=>rfl
 | j+1,d=>by
  unfold shiftDown
  split
  ·rfl
  ·rw [ll lt j]; simp [swp]
theorem jg (S:Srt prog recv lt N0 R) {a b:Nat} (hR:R w d) (hab:a < b) (hb:b≤d.size)
    (hk:∀ w',R w' (partialInsertionSort lt d a b).1→k (.bool (partialInsertionSort lt d a b).2) w') :
    ai prog 128 #[recv,.int .i64 a,.int .i64 b] k w:=by
 have hsm:=S.small hR
 refine al [.tmp 6] func128 ?_
 refine bA ?_
 refine bZ (fun x:Nat × Nat × Array α=>[(0,recv),(1,.int .i64 a),(2,.int .i64 b),(7,.int .i64 x.1),(8,.int .i64 (5 - x.2.1))])
  (fun x w=>R w x.2.2∧x.2.2.size=d.size∧a < x.1∧x.1≤b∧x.2.1≤5∧partialIns lt a b x.2.1 x.1 x.2.2=partialInsertionSort lt d a b)
  (fun x _=>x.2.1) (a+1,5,d) (by kernel_rfl) ?_ ?_ ?_
 ·exact bU
 ·exact ⟨hR,rfl,by simp,hab,by simp,rfl⟩
 rintro K e ⟨i,s,d1⟩ w1 ⟨h1,h2,h3,h4,h5,h6⟩ hK
 simp only at h1 h2 h3 h4 h5 h6
 cases s with
 | zero =>
  have hc:¬ (5:Int) - (0:Nat) < 5:=by omega
  refine bu @hc ?_
  have e1:partialInsertionSort lt d a b=(d1,false):=by rw [← h6]; rfl
  rw [e1] at hk
  exact hk _ h1
 | succ s =>
  have hc:(5:Int) - (s+1:Nat) < 5:=by omega
  refine bu @hc ?_
  refine jf (fun i2:Nat=>[(0,recv),(1,.int .i64 a),(2,.int .i64 b),(7,.int .i64 i2),(8,.int .i64 (5 - (s+1:Nat)))]) (fun i2 w=>R w d1∧i2=scanSorted lt d1 b i∧i≤i2∧i2≤b) (by kernel_rfl) (fun K2 hK2 => ?_) ?_
  ·refine bZ (fun i2:Nat=>[(0,recv),(1,.int .i64 a),(2,.int .i64 b),(7,.int .i64 i2),(8,.int .i64 (5 - (s+1:Nat)))]) (fun i2 w=>R w d1∧scanSorted lt d1 b i2=scanSorted lt d1 b i∧i≤i2∧i2≤b) (fun i2 _=>b - i2) i (by kernel_rfl) ?_ ⟨h1,rfl,aF _,h4⟩ ?_
   ·exact bU
   rintro K3 e3 i2 w3 ⟨g1,g2,g3,g4⟩ hK3
   by_cases hi:i2 < b
   ·have hi':(i2:Int) < b:=by omega
    refine bu @hi' ?_
    refine S.less i2 (i2 - 1) g1 rfl (by omega) (by omega) (by omega) fun wl g1 => ?_
    cases hl:lt d1[i2]! d1[i2 - 1]! with
    | true =>
     refine bA ?_
     refine hK2 _ _ i2 ?_ ⟨g1,?_,g3,g4⟩
     ·exact bU
     ·rw [← g2]; unfold scanSorted; simp [hl]
    | false =>
     refine bA ?_
     refine hK3 _ _ (i2+1) ?_ ⟨g1,?_,by omega,by omega⟩ (by omega)
     ·exact bU
     ·rw [← g2]
      conv=>rhs; unfold scanSorted
      simp [hi,hl]
   ·have hi':¬ (i2:Int) < b:=by omega
    refine bu @hi' ?_
    refine hK2 _ _ i2 ?_ ⟨g1,?_,g3,g4⟩
    ·exact bU
    ·rw [← g2]; unfold scanSorted; simp [hi]
  rintro e3 i2 w3 ⟨g1,g2,g3,g4⟩
  by_cases hib:i2=b
  ·have hib':((i2:Int) == b)=true:=by simp [hib]
   refine bu @hib' ?_
   have e1:partialInsertionSort lt d a b=(d1,true):=by
    rw [← h6]; unfold partialIns
    simp [← g2,hib]
   rw [e1] at hk
   exact hk _ g1
  have hib':((i2:Int) == b)=false:=by simp; omega
  by_cases h50:b - a < 50
  ·have h50':(b:Int) - a < 50:=by omega
   refine dO @hib' @h50' ?_
   have e1:partialInsertionSort lt d a b=(d1,false):=by
    rw [← h6]; unfold partialIns
    simp [← g2,hib,h50]
   rw [e1] at hk
   exact hk _ g1
  have h50':¬ (b:Int) - a < 50:=by omega
  refine dO @hib' @h50' ?_
  refine S.swap i2 (i2 - 1) g1 rfl (by omega) (by omega) (by omega) fun w4 g5 => ?_
  obtain ⟨d2,hd2⟩:∃ d2,d2=swp d1 i2 (i2 - 1):=⟨_,rfl⟩
  have hz2:d2.size=d.size:=by rw [hd2]; simp [swp,h2]
  rw [← hd2] at g5
  refine bA ?_
  refine mW (fun _:Unit=>[(0,recv),(1,.int .i64 a),(2,.int .i64 b),(7,.int .i64 i2),(8,.int .i64 (5 - (s+1:Nat)))]) (fun _ w=>R w (if i2 - a ≥ 2 then shiftDown lt (i2 - 1) d2 else d2)) (by kernel_rfl) (by kernel_rfl) (fun K2 hK2 => ?_) ?_
  ·by_cases h2a:i2 - a ≥ 2
   ·have h2a':(2:Int)≤(i2:Int) - a:=by omega
    refine bu @h2a' ?_
    refine bZ (fun x:Nat × Array α=>[(0,recv),(1,.int .i64 a),(2,.int .i64 b),(7,.int .i64 i2),(8,.int .i64 (5 - (s+1:Nat))),(9,.int .i64 x.1)]) (fun x w=>R w x.2∧x.2.size=d.size∧x.1 < i2∧shiftDown lt x.1 x.2=shiftDown lt (i2 - 1) d2) (fun x _=>x.1) (i2 - 1,d2) (by kernel_rfl) ?_ ⟨g5,hz2,by simp only; omega,rfl⟩ ?_
    ·exact bU
    rintro K3 e4 ⟨j,d3⟩ w5 ⟨q1,q2,q3,q4⟩ hK3
    simp only at q1 q2 q3 q4
    cases j with
    | zero =>
     have hj:¬ (1:Int)≤(0:Nat):=by omega
     refine bu @hj ?_
     refine hK2 _ _ () ?_ ?_
     ·exact bU
     ·simp only [h2a,if_true]; rw [← q4]; exact q1
    | succ j =>
     have hj:(1:Int)≤(j+1:Nat):=by omega
     refine bu @hj ?_
     refine S.less (j+1) j q1 rfl (by omega) (by omega) (by omega) fun wl q1 => ?_
     cases hl:lt d3[j+1]! d3[j]! with
     | false =>
      refine bA ?_
      refine hK2 _ _ () ?_ ?_
      ·exact bU
      ·simp only [h2a,if_true]; rw [← q4]; unfold shiftDown; simpa [hl] using q1
     | true =>
      refine bA ?_
      refine S.swap (j+1) j q1 rfl (by omega) (by omega) (by omega) fun w6 q5 => ?_
      refine bA ?_
      refine hK3 _ _ (j,swp d3 (j+1) j) ?_ ⟨q5,by simp [swp,q2],by simp only; omega,?_⟩ (by simp)
      ·exact bU
      ·rw [← q4]; conv=>rhs; unfold shiftDown
       simp [hl]
   ·have h2a':¬ (2:Int)≤(i2:Int) - a:=by omega
    refine bu @h2a' ?_
    refine hK2 _ _ () ?_ ?_
    ·exact bU
    ·simpa only [h2a,if_false] using g5
  intro e4 _ w5 q5
  obtain ⟨d4,hd4⟩:∃ d4,d4=(if i2 - a ≥ 2 then shiftDown lt (i2 - 1) d2 else d2):=⟨_,rfl⟩
  rw [← hd4] at q5
  have hz4:d4.size=d.size:=by
   rw [hd4]; split
   ·rw [ll,hz2]
   ·exact hz2
  have fin:∀ d5,d5=(if b - i2 ≥ 2 then shiftUp lt b (i2+1) d4 else d4)→partialIns lt a b s i2 d5=partialInsertionSort lt d a b:=by
   intro d5 h
   rw [← h6]; conv=>rhs; unfold partialIns
   simp only [← g2,hib,if_false,h50,← hd2,← hd4,← h]
  by_cases h2b:b - i2 ≥ 2
  ·have h2b':(2:Int)≤(b:Int) - i2:=by omega
   refine bu @h2b' ?_
   refine bZ (fun x:Nat × Array α=>[(0,recv),(1,.int .i64 a),(2,.int .i64 b),(7,.int .i64 i2),(8,.int .i64 (5 - (s+1:Nat))),(10,.int .i64 x.1)]) (fun x w=>R w x.2∧x.2.size=d.size∧i2 < x.1∧shiftUp lt b x.1 x.2=shiftUp lt b (i2+1) d4) (fun x _=>b - x.1) (i2+1,d4) (by kernel_rfl) ?_ ⟨q5,hz4,by simp,rfl⟩ ?_
   ·exact bU
   rintro K3 e4 ⟨j,d3⟩ w5 ⟨q1,q2,q3,q4⟩ hK3
   simp only at q1 q2 q3 q4
   by_cases hj:j < b
   ·have hj':(j:Int) < b:=by omega
    refine bu @hj' ?_
    refine S.less j (j - 1) q1 rfl (by omega) (by omega) (by omega) fun wl q1 => ?_
    cases hl:lt d3[j]! d3[j - 1]! with
    | false =>
     refine bA ?_
     refine hK _ _ (i2,s,d3) ?_ ⟨q1,q2,by simp only; omega,by simp only; omega,by simp only; omega,?_⟩ (by simp)
     ·exact bU
     ·refine fin _ ?_
      rw [if_pos h2b,← q4]; unfold shiftUp; simp [hl]
    | true =>
     refine bA ?_
     refine S.swap j (j - 1) q1 rfl (by omega) (by omega) (by omega) fun w6 q5 => ?_
     refine bA ?_
     refine hK3 _ _ (j+1,swp d3 j (j - 1)) ?_ ⟨q5,by simp [swp,q2],by simp only; omega,?_⟩ (by simp only; omega)
     ·exact bU
     ·rw [← q4]; conv=>rhs; unfold shiftUp
      simp [hl,hj]
   ·have hj':¬ (j:Int) < b:=by omega
    refine bu @hj' ?_
    refine hK _ _ (i2,s,d3) ?_ ⟨q1,q2,by simp only; omega,by simp only; omega,by simp only; omega,?_⟩ (by simp)
    ·exact bU
    ·refine fin _ ?_
     rw [if_pos h2b,← q4]; unfold shiftUp; simp [hj]
  ·have h2b':¬ (2:Int)≤(b:Int) - i2:=by omega
   refine bu @h2b' ?_
   refine hK _ _ (i2,s,d4) ?_ ⟨q5,hz4,by simp only; omega,by simp only; omega,by simp only; omega,?_⟩ (by simp)
   ·exact bU
   ·exact fin _ (by rw [if_neg h2b])
theorem tN (S:Srt prog recv lt N0 R) {a b p:Nat} {x:Int} (hR:R w d) (hx:x=p) (hap:a≤p) (hpb:p < b) (hb:b≤d.size)
    (hk:∀ w',R w' (Go.Sort.partition lt d a b p).2.2→k (.tuple #[.int .i64 (Go.Sort.partition lt d a b p).1,.bool (Go.Sort.partition lt d a b p).2.1]) w') :
    ai prog 130 #[recv,.int .i64 a,.int .i64 b,.int .i64 x] k w:=by
 have hsm:=S.small hR
 subst hx
 refine al [.tmp 8,.tmp 9] func130 ?_
 refine bA ?_
 refine S.swap a p hR rfl rfl (by omega) (by omega) fun w1 h1 => ?_
 obtain ⟨d0,hd0⟩:∃ d0,d0=swp d a p:=⟨_,rfl⟩
 have hz0:d0.size=d.size:=by rw [hd0]; simp [swp]
 rw [← hd0] at h1
 refine bA ?_
 refine jf (fun i2:Nat=>[(0,recv),(1,.int .i64 a),(10,.int .i64 i2),(11,.int .i64 (b - 1:Nat))]) (fun i2 w=>R w d0∧i2=scanUp (fun x=>lt x d0[a]!) d0 (b - 1) (a+1)∧(a+1)≤i2∧(i2≤(b - 1)+1∨i2=(a+1))) (by kernel_rfl) (fun K2 hK2 => ?_) ?_
 ·refine bZ (fun i2:Nat=>[(0,recv),(1,.int .i64 a),(10,.int .i64 i2),(11,.int .i64 (b - 1:Nat))]) (fun i2 w=>R w d0∧scanUp (fun x=>lt x d0[a]!) d0 (b - 1) i2=scanUp (fun x=>lt x d0[a]!) d0 (b - 1) (a+1)∧(a+1)≤i2∧(i2≤(b - 1)+1∨i2=(a+1))) (fun i2 _=>(b - 1)+1 - i2) (a+1) (by kernel_rfl) ?_ ⟨h1,rfl,aF _,.inr rfl⟩ ?_
  ·exact bU
  rintro K3 e3 i2 w3 ⟨g1,g2,g3,g4⟩ hK3
  by_cases hi:i2≤(b - 1)
  ·have hi':(i2:Int)≤((b - 1):Nat):=by omega
   refine bu @hi' ?_
   refine S.less i2 a g1 (by omega) (by omega) (by omega) (by omega) fun wl g1 => ?_
   cases hl:lt d0[i2]! d0[a]! with
   | true =>
    refine bA ?_
    refine hK3 _ _ (i2+1) ?_ ⟨g1,?_,by omega,by omega⟩ (by omega)
    ·exact bU
    ·rw [← g2]
     conv=>rhs; unfold scanUp
     simp [hi,hl]
   | _ =>
    refine bA ?_
    refine hK2 _ _ i2 ?_ ⟨g1,?_,g3,g4⟩
    ·exact bU
    ·rw [← g2]; unfold scanUp; simp [hl]
  ·have hi':¬ (i2:Int)≤((b - 1):Nat):=by omega
   refine bu @hi' ?_
   refine hK2 _ _ i2 ?_ ⟨g1,?_,g3,g4⟩
   ·exact bU
   ·rw [← g2]; unfold scanUp; simp [hi]
 rintro e3 i w3 ⟨g1,g2,g3,g4⟩
 refine bA ?_
 refine jf (fun j2:Nat=>[(0,recv),(1,.int .i64 a),(10,.int .i64 i),(11,.int .i64 j2)]) (fun j2 w=>R w d0∧j2=scanDown (fun x => !lt x d0[a]!) d0 i (b - 1)∧j2≤(b - 1)) (by kernel_rfl) (fun K2 hK2 => ?_) ?_
 ·refine bZ (fun j2:Nat=>[(0,recv),(1,.int .i64 a),(10,.int .i64 i),(11,.int .i64 j2)]) (fun j2 w=>R w d0∧scanDown (fun x => !lt x d0[a]!) d0 i j2=scanDown (fun x => !lt x d0[a]!) d0 i (b - 1)∧j2≤(b - 1)) (fun j2 _=>j2) (b - 1) (by kernel_rfl) ?_ ⟨g1,rfl,aF _⟩ ?_
  ·exact bU
  rintro K3 e3 j2 w3 ⟨g1,g2,g3⟩ hK3
  cases j2 with
  | zero =>
   have hi':¬ (i:Int)≤(0:Nat):=by omega
   refine bu @hi' ?_
   refine hK2 _ _ 0 ?_ ⟨g1,?_,g3⟩
   ·exact bU
   ·rw [← g2]; rfl
  | succ j2 =>
   by_cases hi:i≤j2+1
   ·have hi':(i:Int)≤(j2+1:Nat):=by omega
    refine bu @hi' ?_
    refine S.less (j2+1) a g1 (by omega) (by omega) (by omega) (by omega) fun wl g1 => ?_
    cases hl:lt d0[j2+1]! d0[a]! with
    | false =>
     refine bA ?_
     refine hK3 _ _ j2 ?_ ⟨g1,?_,by omega⟩ (by omega)
     ·exact bU
     ·rw [← g2]
      conv=>rhs; unfold scanDown
      simp [hi,hl]
    | _ =>
     refine bA ?_
     refine hK2 _ _ (j2+1) ?_ ⟨g1,?_,g3⟩
     ·exact bU
     ·rw [← g2]; unfold scanDown; simp [hl]
   ·have hi':¬ (i:Int)≤(j2+1:Nat):=by omega
    refine bu @hi' ?_
    refine hK2 _ _ (j2+1) ?_ ⟨g1,?_,g3⟩
    ·exact bU
    ·rw [← g2]; unfold scanDown; simp [hi]
 rintro e4 j w4 ⟨q1,q2,q3⟩
 by_cases hij:i > j
 ·have hij':(j:Int) < i:=by omega
  refine bu @hij' ?_
  refine S.swap j a q1 rfl rfl (by omega) (by omega) fun w5 q5 => ?_
  refine bA ?_
  have e1:Go.Sort.partition lt d a b p=(j,true,swp d0 j a):=by
   unfold Go.Sort.partition
   simp only [← hd0,← g2,← q2,hij,if_true]
  rw [e1] at hk
  exact hk _ q5
 have hij':¬ (j:Int) < i:=by omega
 refine bu @hij' ?_
 refine S.swap i j q1 rfl rfl (by omega) (by omega) fun w5 q5 => ?_
 obtain ⟨d1,hd1⟩:∃ d1,d1=swp d0 i j:=⟨_,rfl⟩
 have hz1:d1.size=d.size:=by rw [hd1]; simp [swp,hz0]
 rw [← hd1] at q5
 have e1:Go.Sort.partition lt d a b p=((partLoop lt a (i+1) (j - 1) d1).1,false,swp (partLoop lt a (i+1) (j - 1) d1).2 (partLoop lt a (i+1) (j - 1) d1).1 a):=by
  unfold Go.Sort.partition
  simp only [← hd0,← g2,← q2,hij,if_false,← hd1]
 refine bA ?_
 refine bZ (fun x:Nat × Nat × Array α=>[(0,recv),(1,.int .i64 a),(10,.int .i64 x.1),(11,.int .i64 x.2.1)])
  (fun x w=>R w x.2.2∧x.2.2.size=d.size∧a < x.1∧x.2.1 < d.size∧x.1≤x.2.1+2∧partLoop lt a x.1 x.2.1 x.2.2=partLoop lt a (i+1) (j - 1) d1)
  (fun x _=>x.2.1+1 - x.1) (i+1,j - 1,d1) (by kernel_rfl) ?_ ⟨q5,hz1,by simp only; omega,by simp only; omega,by simp only; omega,rfl⟩ ?_
 ·exact bU
 rintro K e5 ⟨i1,j1,d2⟩ w6 ⟨m1,m2,m3,m4,m6,m5⟩ hK
 simp only at m1 m2 m3 m4 m5 m6
 refine bA ?_
 refine jf (fun i2:Nat=>[(0,recv),(1,.int .i64 a),(10,.int .i64 i2),(11,.int .i64 j1)]) (fun i2 w=>R w d2∧i2=scanUp (fun x=>lt x d2[a]!) d2 j1 i1∧i1≤i2∧(i2≤j1+1∨i2=i1)) (by kernel_rfl) (fun K2 hK2 => ?_) ?_
 ·refine bZ (fun i2:Nat=>[(0,recv),(1,.int .i64 a),(10,.int .i64 i2),(11,.int .i64 j1)]) (fun i2 w=>R w d2∧scanUp (fun x=>lt x d2[a]!) d2 j1 i2=scanUp (fun x=>lt x d2[a]!) d2 j1 i1∧i1≤i2∧(i2≤j1+1∨i2=i1)) (fun i2 _=>j1+1 - i2) i1 (by kernel_rfl) ?_ ⟨m1,rfl,aF _,.inr rfl⟩ ?_
  ·exact bU
  rintro K3 e3 i2 w3 ⟨g1,g2,g3,g4⟩ hK3
  by_cases hi:i2≤j1
  ·have hi':(i2:Int)≤(j1:Nat):=by omega
   refine bu @hi' ?_
   refine S.less i2 a g1 (by omega) (by omega) (by omega) (by omega) fun wl g1 => ?_
   cases hl:lt d2[i2]! d2[a]! with
   | true =>
    refine bA ?_
    refine hK3 _ _ (i2+1) ?_ ⟨g1,?_,by omega,by omega⟩ (by omega)
    ·exact bU
    ·rw [← g2]
     conv=>rhs; unfold scanUp
     simp [hi,hl]
   | _ =>
    refine bA ?_
    refine hK2 _ _ i2 ?_ ⟨g1,?_,g3,g4⟩
    ·exact bU
    ·rw [← g2]; unfold scanUp; simp [hl]
  ·have hi':¬ (i2:Int)≤(j1:Nat):=by omega
   refine bu @hi' ?_
   refine hK2 _ _ i2 ?_ ⟨g1,?_,g3,g4⟩
   ·exact bU
   ·rw [← g2]; unfold scanUp; simp [hi]
 rintro e6 i2 w7 ⟨g1,o2,g3,g4⟩
 refine bA ?_
 refine jf (fun j2:Nat=>[(0,recv),(1,.int .i64 a),(10,.int .i64 i2),(11,.int .i64 j2)]) (fun j2 w=>R w d2∧j2=scanDown (fun x => !lt x d2[a]!) d2 i2 j1∧j2≤j1) (by kernel_rfl) (fun K2 hK2 => ?_) ?_
 ·refine bZ (fun j2:Nat=>[(0,recv),(1,.int .i64 a),(10,.int .i64 i2),(11,.int .i64 j2)]) (fun j2 w=>R w d2∧scanDown (fun x => !lt x d2[a]!) d2 i2 j2=scanDown (fun x => !lt x d2[a]!) d2 i2 j1∧j2≤j1) (fun j2 _=>j2) j1 (by kernel_rfl) ?_ ⟨g1,rfl,aF _⟩ ?_
  ·exact bU
  rintro K3 e3 j2 w3 ⟨g1,g2,g3⟩ hK3
  cases j2 with
  | zero =>
   have hi':¬ (i2:Int)≤(0:Nat):=by omega
   refine bu @hi' ?_
   refine hK2 _ _ 0 ?_ ⟨g1,?_,g3⟩
   ·exact bU
   ·rw [← g2]; rfl
  | succ j2 =>
   by_cases hi:i2≤j2+1
   ·have hi':(i2:Int)≤(j2+1:Nat):=by omega
    refine bu @hi' ?_
    refine S.less (j2+1) a g1 (by omega) (by omega) (by omega) (by omega) fun wl g1 => ?_
    cases hl:lt d2[j2+1]! d2[a]! with
    | false =>
     refine bA ?_
     refine hK3 _ _ j2 ?_ ⟨g1,?_,by omega⟩ (by omega)
     ·exact bU
     ·rw [← g2]
      conv=>rhs; unfold scanDown
      simp [hi,hl]
    | _ =>
     refine bA ?_
     refine hK2 _ _ (j2+1) ?_ ⟨g1,?_,g3⟩
     ·exact bU
     ·rw [← g2]; unfold scanDown; simp [hl]
   ·have hi':¬ (i2:Int)≤(j2+1:Nat):=by omega
    refine bu @hi' ?_
    refine hK2 _ _ (j2+1) ?_ ⟨g1,?_,g3⟩
    ·exact bU
    ·rw [← g2]; unfold scanDown; simp [hi]
 rintro e7 j2 w8 ⟨o1,o3,o4⟩
 have ep:=partLoop_eq lt a i1 j1 d2
 simp only [← o2,← o3] at ep
 rw [m5] at ep
 by_cases hij2:i2 > j2
 ·have hij2':(j2:Int) < i2:=by omega
  refine bu @hij2' ?_
  refine S.swap j2 a o1 rfl rfl (by omega) (by omega) fun w9 q9 => ?_
  refine bA ?_
  rw [if_pos hij2] at ep
  rw [e1,ep] at hk
  exact hk _ q9
 ·have hij2':¬ (j2:Int) < i2:=by omega
  rw [if_neg hij2] at ep
  refine bu @hij2' ?_
  refine S.swap i2 j2 o1 rfl rfl (by omega) (by omega) fun w9 q9 => ?_
  refine bA ?_
  refine hK _ _ (i2+1,j2 - 1,swp d2 i2 j2) ?_ ⟨q9,by simp [swp,m2],by simp only; omega,by simp only; omega,by simp only; omega,ep.symm⟩ (by simp only; omega)
  exact bU
theorem nE (S:Srt prog recv lt N0 R) {a b p:Nat} {x:Int} (hR:R w d) (hx:x=p) (hap:a≤p) (hpb:p < b) (hb:b≤d.size)
    (hk:∀ w',R w' (partitionEqual lt d a b p).2→k (.int .i64 (partitionEqual lt d a b p).1) w') :
    ai prog 129 #[recv,.int .i64 a,.int .i64 b,.int .i64 x] k w:=by
 have hsm:=S.small hR
 subst hx
 refine al [.tmp 8] func129 ?_
 refine bA ?_
 refine S.swap a p hR rfl rfl (by omega) (by omega) fun w1 h1 => ?_
 obtain ⟨d0,hd0⟩:∃ d0,d0=swp d a p:=⟨_,rfl⟩
 have hz0:d0.size=d.size:=by rw [hd0]; simp [swp]
 rw [← hd0] at h1
 have e1:partitionEqual lt d a b p=partEqLoop lt a (a+1) (b - 1) d0:=by rw [hd0]; rfl
 refine bA ?_
 refine bZ (fun x:Nat × Nat × Array α=>[(0,recv),(1,.int .i64 a),(9,.int .i64 x.1),(10,.int .i64 x.2.1)])
  (fun x w=>R w x.2.2∧x.2.2.size=d.size∧a < x.1∧x.2.1 < d.size∧x.1≤x.2.1+2∧partEqLoop lt a x.1 x.2.1 x.2.2=partEqLoop lt a (a+1) (b - 1) d0)
  (fun x _=>x.2.1+1 - x.1) (a+1,b - 1,d0) (by kernel_rfl) ?_ ⟨h1,hz0,by simp only; omega,by simp only; omega,by simp only; omega,rfl⟩ ?_
 ·exact bU
 rintro K e5 ⟨i1,j1,d2⟩ w6 ⟨m1,m2,m3,m4,m6,m5⟩ hK
 simp only at m1 m2 m3 m4 m5 m6
 refine bA ?_
 refine jf (fun i2:Nat=>[(0,recv),(1,.int .i64 a),(9,.int .i64 i2),(10,.int .i64 j1)]) (fun i2 w=>R w d2∧i2=scanUp (fun x => !lt d2[a]! x) d2 j1 i1∧i1≤i2∧(i2≤j1+1∨i2=i1)) (by kernel_rfl) (fun K2 hK2 => ?_) ?_
 ·refine bZ (fun i2:Nat=>[(0,recv),(1,.int .i64 a),(9,.int .i64 i2),(10,.int .i64 j1)]) (fun i2 w=>R w d2∧scanUp (fun x => !lt d2[a]! x) d2 j1 i2=scanUp (fun x => !lt d2[a]! x) d2 j1 i1∧i1≤i2∧(i2≤j1+1∨i2=i1)) (fun i2 _=>j1+1 - i2) i1 (by kernel_rfl) ?_ ⟨m1,rfl,aF _,.inr rfl⟩ ?_
  ·exact bU
  rintro K3 e3 i2 w3 ⟨g1,g2,g3,g4⟩ hK3
  by_cases hi:i2≤j1
  ·have hi':(i2:Int)≤(j1:Nat):=by omega
   refine bu @hi' ?_
   refine S.less a i2 g1 (by omega) (by omega) (by omega) (by omega) fun wl g1 => ?_
   cases hl:lt d2[a]! d2[i2]! with
   | false =>
    refine bA ?_
    refine hK3 _ _ (i2+1) ?_ ⟨g1,?_,by omega,by omega⟩ (by omega)
    ·exact bU
    ·rw [← g2]
     conv=>rhs; unfold scanUp
     simp [hi,hl]
   | _ =>
    refine bA ?_
    refine hK2 _ _ i2 ?_ ⟨g1,?_,g3,g4⟩
    ·exact bU
    ·rw [← g2]; unfold scanUp; simp [hl]
  ·have hi':¬ (i2:Int)≤(j1:Nat):=by omega
   refine bu @hi' ?_
   refine hK2 _ _ i2 ?_ ⟨g1,?_,g3,g4⟩
   ·exact bU
   ·rw [← g2]; unfold scanUp; simp [hi]
 rintro e6 i2 w7 ⟨g1,o2,g3,g4⟩
 refine bA ?_
 refine jf (fun j2:Nat=>[(0,recv),(1,.int .i64 a),(9,.int .i64 i2),(10,.int .i64 j2)]) (fun j2 w=>R w d2∧j2=scanDown (fun x=>lt d2[a]! x) d2 i2 j1∧j2≤j1) (by kernel_rfl) (fun K2 hK2 => ?_) ?_
 ·refine bZ (fun j2:Nat=>[(0,recv),(1,.int .i64 a),(9,.int .i64 i2),(10,.int .i64 j2)]) (fun j2 w=>R w d2∧scanDown (fun x=>lt d2[a]! x) d2 i2 j2=scanDown (fun x=>lt d2[a]! x) d2 i2 j1∧j2≤j1) (fun j2 _=>j2) j1 (by kernel_rfl) ?_ ⟨g1,rfl,aF _⟩ ?_
  ·exact bU
  rintro K3 e3 j2 w3 ⟨g1,g2,g3⟩ hK3
  cases j2 with
  | zero =>
   have hi':¬ (i2:Int)≤(0:Nat):=by omega
   refine bu @hi' ?_
   refine hK2 _ _ 0 ?_ ⟨g1,?_,g3⟩
   ·exact bU
   ·rw [← g2]; rfl
  | succ j2 =>
   by_cases hi:i2≤j2+1
   ·have hi':(i2:Int)≤(j2+1:Nat):=by omega
    refine bu @hi' ?_
    refine S.less a (j2+1) g1 (by omega) (by omega) (by omega) (by omega) fun wl g1 => ?_
    cases hl:lt d2[a]! d2[j2+1]! with
    | true =>
     refine bA ?_
     refine hK3 _ _ j2 ?_ ⟨g1,?_,by omega⟩ (by omega)
     ·exact bU
     ·rw [← g2]
      conv=>rhs; unfold scanDown
      simp [hi,hl]
    | _ =>
     refine bA ?_
     refine hK2 _ _ (j2+1) ?_ ⟨g1,?_,g3⟩
     ·exact bU
     ·rw [← g2]; unfold scanDown; simp [hl]
   ·have hi':¬ (i2:Int)≤(j2+1:Nat):=by omega
    refine bu @hi' ?_
    refine hK2 _ _ (j2+1) ?_ ⟨g1,?_,g3⟩
    ·exact bU
    ·rw [← g2]; unfold scanDown; simp [hi]
 rintro e7 j2 w8 ⟨o1,o3,o4⟩
 have ep:=partEqLoop_eq lt a i1 j1 d2
 simp only [← o2,← o3] at ep
 rw [m5] at ep
 by_cases hij2:i2 > j2
 ·have hij2':(j2:Int) < i2:=by omega
  refine bu @hij2' ?_
  rw [if_pos hij2] at ep
  rw [e1,ep] at hk
  exact hk _ o1
 ·have hij2':¬ (j2:Int) < i2:=by omega
  rw [if_neg hij2] at ep
  refine bu @hij2' ?_
  refine S.swap i2 j2 o1 rfl rfl (by omega) (by omega) fun w9 q9 => ?_
  refine bA ?_
  refine hK _ _ (i2+1,j2 - 1,swp d2 i2 j2) ?_ ⟨q9,by simp [swp,m2],by simp only; omega,by simp only; omega,by simp only; omega,ep.symm⟩ (by simp only; omega)
  exact bU
end
end Go.Proofs
end
section
namespace Go.Proofs
open Go Go.E Go.Sort Go.Proofs.Tryz
section
variable {recv:Value} {α:Type} [Inhabited α] {lt:α→α→Bool} {N0:Nat} {R:World→Array α→Prop} {k:aq} {w:World} {d:Array α}
theorem Gd (S:Srt prog recv lt N0 R) {x y:Int} (i j:Nat) (h:R w d) (hx:x=i) (hy:y=j) (hi:i < d.size) (hj:j < d.size)
    (hk:∀ w',R w' (swp d i j)→w.heap.size≤w'.heap.size→(∀ b,N0≤b→b < w.heap.size→w'.heap[b]? = w.heap[b]?)→k (.tuple #[]) w') :
    cQ prog recv "Swap" #[.int .i64 x, .int .i64 y] k w := by
 subst hx; subst hy; exact S.swap' h hi hj hk
theorem jh {x s:Nat} (h:2 ^ s≤x):bitsLen x=s+bitsLen (x / 2 ^ s):=by
 have hx:=lt_two_pow_bitsLen x
 have hy:=lt_two_pow_bitsLen (x / 2 ^ s)
 have hp:0 < 2 ^ s:=Nat.two_pow_pos s
 apply Nat.le_antisymm
 ·rw [bitsLen_le_iff,Nat.pow_add]
  rw [Nat.mul_comm]; exact (Nat.div_lt_iff_lt_mul hp).1 hy
 ·have hs:s≤bitsLen x:=by
    rcases aH (bitsLen x) s with h' | h'
    ·have:=Nat.pow_lt_pow_right (by decide:1 < 2) h'
     omega
    ·exact h'
  have:bitsLen (x / 2 ^ s)≤bitsLen x - s:=by
   rw [bitsLen_le_iff]
   rw [Nat.div_lt_iff_lt_mul hp,← Nat.pow_add,Nat.sub_add_cancel hs]
   exact hx
  omega
theorem DY (x:Nat) {s:Int} {n m:Nat} (h:min s.toNat m=n):((x:Int)).fdiv (2 ^ min s.toNat m)=((x / 2 ^ n:Nat):Int):=by
 rw [h,Int.fdiv_eq_ediv_of_nonneg _ (by exact_mod_cast aT _)]
 simp
theorem FZ {S:ByteArray} {u:Nat} {q:Value→Prop} (hS:(List.range 256).all (fun i=>S.size == 256 && (S[i]?.getD 0).toNat == bitsLen i)=true) (hu:u < 256) :
    kP prog 9 (.string S) (.int .u8 u) q=q (.int .u8 (bitsLen u)):=by
 have h:=List.all_eq_true.1 hS u (List.mem_range.2 hu)
 simp only [bq,beq_iff_eq] at h
 simp only [kP,Tryz.underlying9,cm,h.1,cH,h.2]
 have:(0:Int)≤u∧(u:Int) < (256:Nat):=by omega
 exact propext ⟨fun h=>h.2,fun h=>⟨this,h⟩⟩
theorem BH {x:Nat} (hx:x < 18446744073709551616) (hk:k (.int .i64 (bitsLen x)) w):ai prog 122 #[.int .u64 x] k w:=by
 refine al [.tmp 2] func122 ?_
 refine bA ?_
 refine mW (fun y:Nat × Nat=>[(0,.int .u64 y.1),(2,.int .i64 y.2)]) (fun y w'=>w'=w∧y.1 < 4294967296∧y.2≤32∧bitsLen x=y.2+bitsLen y.1) (by kernel_rfl) (by kernel_rfl) (fun K hK => ?_) ?_
 ·by_cases h:4294967296≤x
  ·have h':(4294967296:Int)≤x:=by omega
   have h0:(0:Int)≤32:=by decide
   simp (disch:=first | exact dZ | fail) only [go_sem,h',gK h0]
   refine hK _ _ (x / 2 ^ 32,0+32) ?_ ⟨rfl,by simp only; omega,by simp only; omega,?_⟩
   ·simp (disch:=first | exact dZ | fail) only [go_sem,DY x (show min (Int.toNat 32) 64=32 from rfl)]
    exact bU
   ·have:=jh (show 2 ^ 32≤x from h)
    simp only; omega
  ·have h':¬ (4294967296:Int)≤x:=by omega
   refine bu @h' ?_
   refine hK _ _ (x,0) ?_ ⟨rfl,by simp only; omega,by simp only; omega,by simp only; omega⟩
   exact bU
 rintro e1 ⟨y,n⟩ w1 ⟨hw,h1,h2,h3⟩
 have hw:=hw.symm
 subst hw
 simp only at h1 h2 h3
 refine bA ?_
 refine mW (fun y:Nat × Nat=>[(0,.int .u64 y.1),(2,.int .i64 y.2)]) (fun y w'=>w'=w∧y.1 < 65536∧y.2≤48∧bitsLen x=y.2+bitsLen y.1) (by kernel_rfl) (by kernel_rfl) (fun K hK => ?_) ?_
 ·by_cases h:65536≤y
  ·have h':(65536:Int)≤y:=by omega
   have h0:(0:Int)≤16:=by decide
   simp (disch:=first | exact dZ | fail) only [go_sem,h',gK h0]
   refine hK _ _ (y / 2 ^ 16,n+16) ?_ ⟨rfl,by simp only; omega,by simp only; omega,?_⟩
   ·simp (disch:=first | exact dZ | fail) only [go_sem,DY y (show min (Int.toNat 16) 64=16 from rfl)]
    exact bU
   ·have:=jh (show 2 ^ 16≤y from h)
    simp only; omega
  ·have h':¬ (65536:Int)≤y:=by omega
   refine bu @h' ?_
   refine hK _ _ (y,n) ?_ ⟨rfl,by simp only; omega,by simp only; omega,by simp only; omega⟩
   exact bU
 rintro e1 ⟨z,m⟩ w1 ⟨hw,g1,g2,g3⟩
 have hw:=hw.symm
 subst hw
 simp only at g1 g2 g3
 refine bA ?_
 refine mW (fun y:Nat × Nat=>[(0,.int .u64 y.1),(2,.int .i64 y.2)]) (fun y w'=>w'=w∧y.1 < 256∧y.2≤56∧bitsLen x=y.2+bitsLen y.1) (by kernel_rfl) (by kernel_rfl) (fun K hK => ?_) ?_
 ·by_cases h:256≤z
  ·have h':(256:Int)≤z:=by omega
   have h0:(0:Int)≤8:=by decide
   simp (disch:=first | exact dZ | fail) only [go_sem,h',gK h0]
   refine hK _ _ (z / 2 ^ 8,m+8) ?_ ⟨rfl,by simp only; omega,by simp only; omega,?_⟩
   ·simp (disch:=first | exact dZ | fail) only [go_sem,DY z (show min (Int.toNat 8) 64=8 from rfl)]
    exact bU
   ·have:=jh (show 2 ^ 8≤z from h)
    simp only; omega
  ·have h':¬ (256:Int)≤z:=by omega
   refine bu @h' ?_
   refine hK _ _ (z,m) ?_ ⟨rfl,by simp only; omega,by simp only; omega,by simp only; omega⟩
   exact bU
 rintro e1 ⟨u,l⟩ w1 ⟨hw,q1,q2,q3⟩
 have hw:=hw.symm
 subst hw
 simp only at q1 q2 q3
 refine bA ?_
 have hu:IntKind.u8.wrap (u:Int)=u:=IntWalk.u8_in u ⟨by omega,by omega⟩
 rw [hu,FZ (by kernel_rfl) q1]
 have hb:bitsLen u≤8:=(bitsLen_le_iff u 8).2 q1
 have q3:((bitsLen x:Nat):Int)=l+bitsLen u:=by omega
 refine bA ?_
 rwa [← q3]
theorem AF {x:Nat} (hx:x < 18446744073709551616) (hk:k (.int .i64 (bitsLen x)) w):ai prog 111 #[.int .u64 x] k w:=by
 refine al [.tmp 2] func111 ?_
 refine bA ?_
 refine BH hx ?_
 refine bA ?_
 exact hk
theorem nG {x:Nat} (hx:x < 4611686018427387904) (hk:k (.int .u64 (1 <<< bitsLen x:Nat)) w):ai prog 132 #[.int .i64 x] k w:=by
 have e1:IntKind.u64.wrap (x:Int)=x:=IntWalk.u64_in _ ⟨by omega,by omega⟩
 have hb:bitsLen x≤62:=(bitsLen_le_iff x 62).2 (by omega)
 have e2:IntKind.u64.wrap ((bitsLen x:Nat):Int)=(bitsLen x:Nat):=IntWalk.u64_in _ ⟨by omega,by omega⟩
 refine al [.tmp 2] func132 ?_
 refine bu @e1 ?_
 refine AF (by omega) ?_
 have h0:(0:Int)≤(bitsLen x:Nat):=by omega
 simp (disch:=first | exact dZ | fail) only [go_sem,e2,rO h0]
 obtain ⟨m,hm⟩:∃ m,m=2 ^ bitsLen x:=⟨_,rfl⟩
 have hp:m≤2 ^ 62:=by rw [hm]; exact Nat.pow_le_pow_right (by decide) hb
 have e3:IntKind.u64.wrap (1 * 2 ^ min (bitsLen x) 64)=((1 <<< bitsLen x:Nat):Int):=by
  rw [Nat.min_eq_left (by omega),Nat.one_shiftLeft,← hm]
  rw [show (1:Int) * 2 ^ bitsLen x=(m:Int) by rw [hm]; simp]
  exact IntWalk.u64_in _ ⟨by omega,by omega⟩
 refine bu @e3 ?_
 exact hk
theorem Kp {a b:Nat} (ha:a < 18446744073709551616) (hb:b < 18446744073709551616) :
    IntKind.u64.wrap ((BitVec.ofInt 64 (a:Int) ^^^ BitVec.ofInt 64 (b:Int)).toNat:Int)=((a ^^^ b:Nat):Int):=by
 have h:(BitVec.ofInt 64 (a:Int) ^^^ BitVec.ofInt 64 (b:Int)).toNat=a ^^^ b:=by
  rw [BitVec.toNat_xor,BitVec.toNat_ofInt,BitVec.toNat_ofInt]
  congr 1 <;> omega
 have hx:a ^^^ b < 2 ^ 64:=Nat.xor_lt_two_pow (by omega) (by omega)
 rw [h]
 exact IntWalk.u64_in _ ⟨by omega,by omega⟩
theorem pQ {P:Program} {a b c:Nat} {t:TypeId} {xo yo:Operand} {q:Value→Prop} (ha:a < 18446744073709551616) (hb:b < 18446744073709551616) (hc:a ^^^ b=c) :
    ct P .xor t xo yo (.int .u64 a) (.int .u64 b) q=q (.int .u64 (c:Nat)):=by
 rw [DI,← hc,← Kp ha hb]; rfl
theorem JQ {a n m:Nat} {s:Int} (h:min s.toNat 64=n) (hm:2 ^ n=m):IntKind.u64.wrap ((a:Int) * 2 ^ min s.toNat 64)=((a * m % 18446744073709551616:Nat):Int):=by
 rw [h,IntKind.wrap_u64,← hm]
 simp
theorem DZ {a n m:Nat} {s:Int} (h:min s.toNat 64=n) (hm:2 ^ n=m):((a:Int)).fdiv (2 ^ min s.toNat 64)=((a / m:Nat):Int):=by
 rw [DY a h,hm]
theorem xB {B:Nat} {r:UInt64} (hc:w.cell? ⟨B,0,none⟩=some (.int .u64 r.toNat)) (hf:w.frozen? ⟨B,0,none⟩=false)
    (hk:∀ w',(∀ Q:World→Prop,Q w→(∀ w,Q w→Q w.drew)→(∀ w o v,Q w→Q (w.setCell ⟨B,o,none⟩ v))→Q w')→w'.cell? ⟨B,0,none⟩=some (.int .u64 (xorNext r).toNat)→w'.frozen? ⟨B,0,none⟩=false →
     k (.int .u64 (xorNext r).toNat) w'):ai prog 133 #[.pointer (some ⟨B,0,none⟩)] k w:=by
 have hr:r.toNat < 18446744073709551616:=r.toNat_lt
 obtain ⟨x,hx⟩:∃ x,x=r.toNat:=⟨_,rfl⟩
 rw [← hx] at hc hr
 obtain ⟨a,ha⟩:∃ a,a=x ^^^ (x * 8192 % 18446744073709551616):=⟨_,rfl⟩
 have ha2:a < 2 ^ 64:=by rw [ha]; exact Nat.xor_lt_two_pow (by omega) (by omega)
 obtain ⟨b,hb⟩:∃ b,b=a ^^^ (a / 128):=⟨_,rfl⟩
 have hb2:b < 2 ^ 64:=by rw [hb]; exact Nat.xor_lt_two_pow ha2 (by omega)
 obtain ⟨c,hcc⟩:∃ c,c=b ^^^ (b * 131072 % 18446744073709551616):=⟨_,rfl⟩
 have hc2:c < 2 ^ 64:=by rw [hcc]; exact Nat.xor_lt_two_pow hb2 (by omega)
 have hfin:(xorNext r).toNat=c:=by rw [xorNext_toNat,← hx,hcc,hb,ha]; rfl
 rw [hfin] at hk
 have s1:=fun {P:Program} {t:TypeId} {xo yo:Operand} {q:Value→Prop}=>pQ (P:=P) (t:=t) (xo:=xo) (yo:=yo) (q:=q) hr (Nat.mod_lt (x * 8192) (by decide)) ha.symm
 have s2:=fun {P:Program} {t:TypeId} {xo yo:Operand} {q:Value→Prop}=>pQ (P:=P) (t:=t) (xo:=xo) (yo:=yo) (q:=q) (b:=a / 128) ha2 (by omega) hb.symm
 have s3:=fun {P:Program} {t:TypeId} {xo yo:Operand} {q:Value→Prop}=>pQ (P:=P) (t:=t) (xo:=xo) (yo:=yo) (q:=q) hb2 (Nat.mod_lt (b * 131072) (by decide)) hcc.symm
 have z1:=fun a=>JQ (a:=a) (s:=13) (n:=13) (m:=8192) rfl rfl
 have z2:=fun a=>DZ (a:=a) (s:=7) (n:=7) (m:=128) rfl rfl
 have z3:=fun a=>JQ (a:=a) (s:=17) (n:=17) (m:=131072) rfl rfl
 have bits:IntKind.u64.bits=64:=rfl
 refine al [.tmp 2] func133 ?_
 refine bA ?_
 refine bF (sq [0,1] (.read 2 (sq [3,4] (.read 5 (sq [6,7,8] (.eff 9 [] .done)))))) ?_
 have h13:(0:Int)≤13:=by decide
 simp (disch:=first | exact dZ | fail) only [go_sem,hc,hf,rO h13,bits,z1,s1]
 refine bF (sq [0,1] (.read 2 (sq [3,4] (.read 5 (sq [6,7,8] (.eff 9 [] .done)))))) ?_
 have h7:(0:Int)≤7:=by decide
 simp (disch:=first | exact dZ | fail) only [go_sem,hc,hf,gK h7,bits,z2,s2]
 refine bF (sq [0,1] (.read 2 (sq [3,4] (.read 5 (sq [6,7,8] (.eff 9 [] .done)))))) ?_
 have h17:(0:Int)≤17:=by decide
 simp (disch:=first | exact dZ | fail) only [go_sem,hc,hf,rO h17,bits,z3,s3]
 refine hk _ (fun Q h1 h2 h3 => ?_) ?_ ?_
 ·repeat (first | exact h1 | apply h3 | apply h2)
 ·exact bX @hc
 ·exact bX @hf
theorem Kq {a b:Nat} (ha:a < 18446744073709551616) (hb:b < 18446744073709551616) :
    IntKind.u64.wrap ((BitVec.ofInt 64 (a:Int) &&& BitVec.ofInt 64 (b:Int)).toNat:Int)=((a &&& b:Nat):Int):=by
 have h:(BitVec.ofInt 64 (a:Int) &&& BitVec.ofInt 64 (b:Int)).toNat=a &&& b:=by
  rw [BitVec.toNat_and,BitVec.toNat_ofInt,BitVec.toNat_ofInt]
  congr 1 <;> omega
 have hx:a &&& b≤a:=Nat.and_le_left
 rw [h]
 exact IntWalk.u64_in _ ⟨by omega,by omega⟩
theorem mO {P:Program} {a b:Nat} {t:TypeId} {xo yo:Operand} {q:Value→Prop} (ha:a < 18446744073709551616) (hb:b < 18446744073709551616) :
    ct P .and t xo yo (.int .u64 a) (.int .u64 b) q=q (.int .u64 ((a &&& b:Nat):Int)):=by
 rw [DH,← Kq ha hb]; rfl
def qK (a l M:Nat):Nat→Nat→UInt64 × Array α→Array α
 | 0,_,st=>st.2
 | n+1,i,st=>qK a l M n (i+1) (breakStep a l M st i)
theorem pR (d:Array α) {a b:Nat} (h:8≤b - a):breakPatterns d a b=qK a (b - a) (1 <<< bitsLen (b - a)) 3 (a+(b - a) / 4 * 2 - 1) (UInt64.ofNat (b - a),d):=by
 unfold breakPatterns
 simp only [ge_iff_le,h,if_true]
 rfl
theorem oD (S:Srt prog recv lt N0 R) {a b:Nat} (hR:R w d) (hab:a≤b) (hb:b≤d.size) (hk:∀ w',R w' (breakPatterns d a b)→k (.tuple #[]) w') :
    ai prog 125 #[recv,.int .i64 a,.int .i64 b] k w:=by
 have hsm:=S.small hR
 have hN:=S.size hR
 refine al [] func125 ?_
 by_cases h8:8≤b - a
 ·rw [pR d h8] at hk
  obtain ⟨l,hl⟩:∃ l,l=b - a:=⟨_,rfl⟩
  have hl2:(b:Int) - a=l:=by omega
  rw [← hl] at hk h8
  have h8':(8:Int)≤l:=by omega
  have e1:IntKind.u64.wrap (l:Int)=l:=IntWalk.u64_in _ ⟨by omega,by omega⟩
  obtain ⟨q,hq⟩:∃ q,q=l / 4:=⟨_,rfl⟩
  rw [← hq] at hk
  have four:(4:Int)≠0:=by decide
  have e2:((l:Int)).tdiv 4=q:=by rw [hq]; exact oC l 4
  refine dQ @hl2 @h8' @e1 ?_
  have e1':((UInt64.ofNat l).toNat:Int)=l:=by
   have:(UInt64.ofNat l).toNat=l % 2 ^ 64:=UInt64.toNat_ofNat' ..
   omega
  refine nG (x:=l) (by omega) ?_
  obtain ⟨M,hM⟩:∃ M,M=1 <<< bitsLen l:=⟨_,rfl⟩
  have hM1:M≤2 * l:=by rw [hM,Nat.one_shiftLeft]; exact two_pow_bitsLen_le (by omega)
  have hM2:0 < M:=by rw [hM,Nat.one_shiftLeft]; exact Nat.two_pow_pos _
  rw [← hM] at hk ⊢
  simp (disch:=first | exact dZ | fail) only [go_sem,fu four,e2]
  refine bZ (fun x:Nat × UInt64 × Array α=>[(0,recv),(1,.int .i64 a),(6,.int .i64 l),(7,.pointer (some ⟨w.heap.size,0,none⟩)),(8,.int .u64 M),(9,.int .i64 (a+q * 2 - 1+(3 - x.1)))])
   (fun x w1=>R w1 x.2.2∧x.2.2.size=d.size∧w1.cell? ⟨w.heap.size,0,none⟩=some (.int .u64 x.2.1.toNat)∧w1.frozen? ⟨w.heap.size,0,none⟩=false∧w.heap.size < w1.heap.size∧x.1≤3∧qK a l M x.1 (a+q * 2 - 1+(3 - x.1)) x.2=qK a l M 3 (a+q * 2 - 1) (UInt64.ofNat l,d))
   (fun x _=>x.1) (3,UInt64.ofNat l,d) (by kernel_rfl) ?_ ⟨?_,rfl,?_,?_,?_,aF _,by simp⟩ ?_
  ·exact bU
  ·exact S.alloc _ hR
  ·exact bX @e1'
  ·exact bU
  ·exact bU
  rintro K e ⟨n,r,d1⟩ w1 ⟨h1,h2,h3,h4,h6,h5,h7⟩ hK
  simp only at h1 h2 h3 h4 h5 h6 h7
  have hq4:q * 4≤l:=by omega
  cases n with
  | zero =>
   have hc:¬ ((a:Int)+q * 2 - 1+(3 - (0:Nat)))≤a+q * 2+1:=by omega
   simp (disch:=first | exact dZ | fail) only [go_sem,fu four,e2,hc]
   refine hk _ ?_
   rw [← h7]; exact h1
  | succ n =>
   have hc:((a:Int)+q * 2 - 1+(3 - (n+1:Nat)))≤a+q * 2+1:=by omega
   simp (disch:=first | exact dZ | fail) only [go_sem,fu four,e2,hc]
   refine xB h3 h4 fun w2 hQ g3 g4 => ?_
   have g1:R w2 d1:=hQ (fun w=>R w d1) h1 (fun _ h=>S.drew h) (fun _ _ _ h=>S.set h hN)
   have g6:w.heap.size < w2.heap.size:=hQ (fun w'=>w.heap.size < w'.heap.size) h6 (fun _ h=>h) (fun _ _ _ h=>by rw [World.size_setCell]; exact h)
   obtain ⟨y,hy⟩:∃ y,y=(xorNext r).toNat &&& (M - 1):=⟨_,rfl⟩
   have hy1:y≤M - 1:=by rw [hy]; exact Nat.and_le_right
   have s1:=fun {P:Program} {t:TypeId} {xo yo:Operand} {q:Value→Prop}=>mO (P:=P) (t:=t) (xo:=xo) (yo:=yo) (q:=q) (a:=(xorNext r).toNat) (b:=M - 1) (xorNext r).toNat_lt (by omega)
   have s2:IntKind.u64.wrap ((M:Int) - 1)=((M - 1:Nat):Int):=by rw [IntWalk.u64_in _ ⟨by omega,by omega⟩]; omega
   rw [← hy] at s1
   have z:(breakStep a l M (r,d1) (a+q * 2 - 1+(3 - (n+1))))=(xorNext r,swp d1 (a+q * 2 - 1+(3 - (n+1))) (a+if y ≥ l then y - l else y)):=by
    unfold breakStep; simp only [← hy]
   by_cases hyl:l≤y
   ·have hyl':(l:Int)≤y:=by omega
    refine dQ @s1 @s2 @hyl' ?_
    refine Gd S (a+q * 2 - 1+(3 - (n+1))) (a+(y - l)) g1 (by omega) (by omega) (by omega) (by omega) fun w3 q1 q2 q3 => ?_
    refine bA ?_
    refine hK _ _ (n,(xorNext r,swp d1 (a+q * 2 - 1+(3 - (n+1))) (a+(y - l)))) ?_ ⟨q1,by simp [swp,h2],?_,?_,by omega,by simp only; omega,?_⟩ (by simp)
    ·exact bU
    ·rw [World.cell?_of_block (a:=⟨w.heap.size,0,none⟩) (q3 _ hN g6)]; exact g3
    ·rw [World.frozen?_of_block (a:=⟨w.heap.size,0,none⟩) (q3 _ hN g6)]; exact g4
    ·rw [← h7]
     have:a+q * 2 - 1+(3 - n)=a+q * 2 - 1+(3 - (n+1))+1:=by omega
     show qK a l M n _ _=qK a l M n (a+q * 2 - 1+(3 - (n+1))+1) (breakStep a l M (r,d1) (a+q * 2 - 1+(3 - (n+1))))
     rw [z,this]
     simp only [ge_iff_le,hyl,if_true,if_false]
   ·have hyl':¬ (l:Int)≤y:=by omega
    refine dQ @s1 @s2 @hyl' ?_
    refine Gd S (a+q * 2 - 1+(3 - (n+1))) (a+y) g1 (by omega) (by omega) (by omega) (by omega) fun w3 q1 q2 q3 => ?_
    refine bA ?_
    refine hK _ _ (n,(xorNext r,swp d1 (a+q * 2 - 1+(3 - (n+1))) (a+y))) ?_ ⟨q1,by simp [swp,h2],?_,?_,by omega,by simp only; omega,?_⟩ (by simp)
    ·exact bU
    ·rw [World.cell?_of_block (a:=⟨w.heap.size,0,none⟩) (q3 _ hN g6)]; exact g3
    ·rw [World.frozen?_of_block (a:=⟨w.heap.size,0,none⟩) (q3 _ hN g6)]; exact g4
    ·rw [← h7]
     have:a+q * 2 - 1+(3 - n)=a+q * 2 - 1+(3 - (n+1))+1:=by omega
     show qK a l M n _ _=qK a l M n (a+q * 2 - 1+(3 - (n+1))+1) (breakStep a l M (r,d1) (a+q * 2 - 1+(3 - (n+1))))
     rw [z,this]
     simp only [ge_iff_le,hyl,if_true,if_false]
 ·have h8':¬ (8:Int)≤(b:Int) - a:=by omega
  refine bu @h8' ?_
  refine hk _ ?_
  unfold breakPatterns
  simpa only [ge_iff_le,h8,if_false] using hR
end
end Go.Proofs
end
