/- Parts of the proof: Va, Vb, Vc, Vd, Ve. -/
import Derived.Test.YtjcbeinpkafjiaaGreatU10
import Derived.Test.YtjcbeinpkafjiaaGreatU20
set_option linter.all false
section
namespace Go.E
open Go Go.Sort Go.Proofs
theorem fm_congr {α β:Type} {l:List α} {f g:α→List β} (h:∀ a ∈ l,f a=g a):l.flatMap f=l.flatMap g:=by
 induction l with
 | nil=>rfl
 | cons x l ih=>rw [List.flatMap_cons,List.flatMap_cons,h x List.mem_cons_self,ih fun a ha=>h a (List.mem_cons_of_mem _ ha)]
theorem fi_congr {α β:Type} {l:List α} {f g:α→Option β} (h:∀ a ∈ l,f a=g a):l.filterMap f=l.filterMap g:=by
 induction l with
 | nil=>rfl
 | cons x l ih=>rw [List.filterMap_cons,List.filterMap_cons,h x List.mem_cons_self,ih fun a ha=>h a (List.mem_cons_of_mem _ ha)]
section
variable {α:Type}
def insAt (lt:α→α→Bool) (x:α) (l:List α):Nat→Nat
 | 0=>0
 | i+1=>match l[i]? with
  | some y=>if lt x y then insAt lt x l i else i+1
  | none=>i+1
def insL (lt:α→α→Bool) (x:α) (l:List α):List α:=l.take (insAt lt x l l.length)++x :: l.drop (insAt lt x l l.length)
def isort (lt:α→α→Bool) (l:List α):List α:=l.foldl (fun a x=>insL lt x a) []
variable {lt:α→α→Bool}
theorem insAt_le (x:α) (l:List α) (i:Nat):insAt lt x l i≤i:=by
 induction i with
 | zero=>exact Nat.le_refl _
 | succ i ih =>
  unfold insAt
  split
  ·split
   ·omega
   ·exact Nat.le_refl _
  ·exact Nat.le_refl _
theorem insAt_spec (x:α) (l:List α) {i:Nat} (hi:i≤l.length):(∀ j y,insAt lt x l i≤j→j < i→l[j]? = some y→lt x y=true)∧∀ j y,insAt lt x l i=j+1→l[j]? = some y→lt x y=false:=by
 induction i with
 | zero=>exact ⟨fun j y _ h=>by omega,fun j y h=>by simp [insAt] at h⟩
 | succ i ih =>
  have ih:=ih (by omega)
  have hy:l[i]? = some l[i]:=List.getElem?_eq_getElem (by omega)
  unfold insAt
  rw [hy]
  simp only
  split
  ·rename_i hlt
   refine ⟨fun j y h1 h2 h3 => ?_,ih.2⟩
   rcases Nat.lt_or_ge j i with h4 | h4
   ·exact ih.1 j y h1 h4 h3
   ·obtain rfl:j=i:=by omega
    rw [hy] at h3
    cases h3
    exact hlt
  ·rename_i hlt
   refine ⟨fun j y h1 h2 h3=>by omega,fun j y h1 h2 => ?_⟩
   obtain rfl:i=j:=by omega
   rw [hy] at h2
   cases h2
   simpa using hlt
theorem insL_perm (x:α) (l:List α):(insL lt x l).Perm (x :: l):=by
 unfold insL
 refine List.perm_middle.trans ?_
 rw [List.take_append_drop]
theorem insL_length (x:α) (l:List α):(insL lt x l).length=l.length+1:=by
 simpa using (insL_perm (lt:=lt) x l).length_eq
theorem isort_perm_aux (l a:List α):(l.foldl (fun a x=>insL lt x a) a).Perm (l++a):=by
 induction l generalizing a with
 | nil=>exact List.Perm.refl _
 | cons x l ih =>
  rw [List.foldl_cons]
  refine (ih _).trans ?_
  refine ((insL_perm x a).append_left l).trans ?_
  exact List.perm_middle
theorem isort_perm (l:List α):(isort lt l).Perm l:=by
 have:=isort_perm_aux (lt:=lt) l []
 rwa [List.append_nil] at this
theorem isort_length (l:List α):(isort lt l).length=l.length:=(isort_perm l).length_eq
structure TotB (lt:α→α→Bool):Prop where
 asym:∀ a b,lt a b=true→lt b a=false
 trans:∀ a b c,lt b a=false→lt c b=false→lt c a=false
theorem insL_sorted (h:TotB lt) (x:α) {l:List α} (hl:l.Pairwise fun a b=>lt b a=false):(insL lt x l).Pairwise fun a b=>lt b a=false:=by
 have hs:=insAt_spec (lt:=lt) x l (Nat.le_refl _)
 have hle:=insAt_le (lt:=lt) x l l.length
 unfold insL
 obtain ⟨j,hj⟩:∃ j,j=insAt lt x l l.length:=⟨_,rfl⟩
 rw [← hj] at hs hle ⊢
 have hge:∀ y ∈ l.drop j,lt y x=false:=fun y hy=>by
  obtain ⟨i,hi,e⟩:=List.getElem_of_mem hy
  rw [List.getElem_drop] at e
  rw [List.length_drop] at hi
  exact h.asym _ _ (hs.1 (j+i) y (by omega) (by omega) (by rw [List.getElem?_eq_getElem (by omega),e]))
 have hlt:∀ y ∈ l.take j,lt x y=false:=fun y hy=>by
  obtain ⟨i,hi,e⟩:=List.getElem_of_mem hy
  rw [List.getElem_take] at e
  rw [List.length_take] at hi
  obtain ⟨m,rfl⟩:∃ m,j=m+1:=⟨j - 1,by omega⟩
  have h0:=hs.2 m l[m] rfl (List.getElem?_eq_getElem (by omega))
  rcases Nat.lt_or_ge i m with h1 | h1
  ·have:=List.pairwise_iff_getElem.1 hl i m (by omega) (by omega) h1
   rw [e] at this
   exact h.trans _ _ _ this h0
  ·obtain rfl:i=m:=by omega
   rw [← e]; exact h0
 refine List.pairwise_append.2 ⟨hl.sublist (List.take_sublist _ _),List.pairwise_cons.2 ⟨hge,hl.sublist (List.drop_sublist _ _)⟩,fun a ha b hb => ?_⟩
 rcases List.mem_cons.1 hb with rfl | hb
 ·exact hlt a ha
 ·have:=List.pairwise_append.1 (by rw [List.take_append_drop]; exact hl:(l.take j++l.drop j).Pairwise fun a b=>lt b a=false)
  exact this.2.2 a ha b hb
theorem isort_sorted (h:TotB lt) (l:List α):(isort lt l).Pairwise fun a b=>lt b a=false:=by
 have aux:∀ (l a:List α),a.Pairwise (fun a b=>lt b a=false)→(l.foldl (fun a x=>insL lt x a) a).Pairwise fun a b=>lt b a=false:=by
  intro l
  induction l with
  | nil=>exact fun a ha=>ha
  | cons x l ih=>exact fun a ha=>ih _ (insL_sorted h x ha)
 exact aux l [] .nil
end
def kLess (a b:K):Bool:=if a.tr≠b.tr then decide (b.tr < a.tr) else if a.suf≠b.suf then decide (a.suf < b.suf) else decide (a.val < b.val)
theorem kLess_false {a b:K}:kLess b a=false↔b.tr < a.tr∨b.tr=a.tr∧(a.suf < b.suf∨a.suf=b.suf∧¬ b.val < a.val):=by
 unfold kLess
 by_cases h:b.tr=a.tr
 ·rw [if_neg (by simpa using h)]
  by_cases h2:b.suf=a.suf
  ·rw [if_neg (by simpa using h2)]
   simp only [decide_eq_false_iff_not]
   constructor
   ·intro h3; exact .inr ⟨h,.inr ⟨h2.symm,h3⟩⟩
   ·rintro (h3 | ⟨_,h3 | ⟨_,h3⟩⟩)
    ·omega
    ·rw [h2] at h3; exact absurd h3 (List.lt_irrefl _)
    ·exact h3
  ·rw [if_pos h2]
   simp only [decide_eq_false_iff_not]
   constructor
   ·intro h3
    rcases blt_tri a.suf b.suf with h4 | h4 | h4
    ·exact .inr ⟨h,.inl h4⟩
    ·exact absurd h4.symm h2
    ·exact absurd h4 h3
   ·rintro (h3 | ⟨_,h3 | ⟨h3,_⟩⟩)
    ·omega
    ·exact ble_of h3
    ·exact absurd h3.symm h2
 ·rw [if_pos h]
  simp only [decide_eq_false_iff_not]
  omega
theorem kLess_tot:TotB kLess where
 asym a b h:=by
  rw [kLess_false]
  have:¬ kLess a b=false:=by rw [h]; simp
  rw [kLess_false] at this
  rcases Nat.lt_trichotomy b.tr a.tr with h1 | h1 | h1
  ·exact .inl h1
  ·refine .inr ⟨h1,?_⟩
   rcases blt_tri a.suf b.suf with h2 | h2 | h2
   ·exact .inl h2
   ·refine .inr ⟨h2,fun h3=>this (.inr ⟨h1.symm,.inr ⟨h2.symm,ble_of h3⟩⟩)⟩
   ·exact absurd (.inr ⟨h1.symm,.inl h2⟩) this
  ·exact absurd (.inl h1) this
 trans a b c h1 h2:=by
  rw [kLess_false] at h1 h2 ⊢
  rcases h1 with h1 | ⟨h1,h1'⟩
  ·rcases h2 with h2 | ⟨h2,_⟩
   ·exact .inl (by omega)
   ·exact .inl (by omega)
  ·rcases h2 with h2 | ⟨h2,h2'⟩
   ·exact .inl (by omega)
   ·refine .inr ⟨by omega,?_⟩
    rcases h1' with h3 | ⟨h3,h4⟩
    ·rcases h2' with h5 | ⟨h5,_⟩
     ·exact .inl (List.lt_trans h3 h5)
     ·rw [← h5]; exact .inl h3
    ·rcases h2' with h5 | ⟨h5,h6⟩
     ·rw [h3]; exact .inl h5
     ·exact .inr ⟨h3.trans h5,fun h7=>h4 (bytes_lt_of h6 h7)⟩
def canonP (ks:List K):List K:=isort kLess ks
theorem canonP_perm (ks:List K):(canonP ks).Perm ks:=isort_perm ks
theorem canonP_desc (ks:List K):(canonP ks).Pairwise fun a b=>b.tr≤a.tr:=by
 refine (isort_sorted kLess_tot ks).imp fun {a b} h => ?_
 rcases kLess_false.1 h with h | ⟨h,_⟩ <;> omega
def geB (x y:Bytes):Bool:=decide (¬ y < x)
def addB (b:List Bytes) (x:Bytes):List Bytes:=if b[insAt geB x b b.length]? = some x then b else insL geB x b
def bndsP (l:List Sp):List Bytes:=l.foldl (fun b s=>addB (addB b s.s) s.e) []
theorem addB_spec {b:List Bytes} (hb:b.Pairwise (· < ·)) (x:Bytes):(addB b x).Pairwise (· < ·)∧∀ y,y ∈ addB b x↔y=x∨y ∈ b:=by
 have hs:=insAt_spec (lt:=geB) x b (Nat.le_refl _)
 have hle:=insAt_le (lt:=geB) x b b.length
 unfold addB
 split
 ·rename_i he
  exact ⟨hb,fun y=>⟨.inr,fun h=>h.elim (fun h=>h ▸ List.mem_of_getElem? he) id⟩⟩
 ·rename_i he
  refine ⟨?_,fun y=>by rw [(insL_perm x b).mem_iff,List.mem_cons]⟩
  unfold insL
  obtain ⟨j,hj⟩:∃ j,j=insAt geB x b b.length:=⟨_,rfl⟩
  rw [← hj] at hs hle he ⊢
  have hp:=List.pairwise_iff_getElem.1 hb
  have hge:∀ y ∈ b.drop j,x < y:=fun y hy=>by
   obtain ⟨i,hi,e⟩:=List.getElem_of_mem hy
   rw [List.getElem_drop] at e
   rw [List.length_drop] at hi
   have h1:=hs.1 (j+i) y (by omega) (by omega) (by rw [List.getElem?_eq_getElem (by omega),e])
   have h1:¬ y < x:=of_decide_eq_true h1
   rcases blt_tri x y with h2 | h2 | h2
   ·exact h2
   ·exfalso
    have hj0:j < b.length:=by omega
    have h3:=hs.1 j b[j] (Nat.le_refl _) hj0 (List.getElem?_eq_getElem hj0)
    have h3:¬ b[j] < x:=of_decide_eq_true h3
    rcases Nat.eq_zero_or_pos i with rfl | hi0
    ·exact he (by rw [List.getElem?_eq_getElem hj0,h2,← e]; simp)
    ·have:=hp j (j+i) hj0 (by omega) (by omega)
     rw [e,← h2] at this
     exact h3 this
   ·exact absurd h2 h1
  have hlt:∀ y ∈ b.take j,y < x:=fun y hy=>by
   obtain ⟨i,hi,e⟩:=List.getElem_of_mem hy
   rw [List.getElem_take] at e
   rw [List.length_take] at hi
   obtain ⟨m,rfl⟩:∃ m,j=m+1:=⟨j - 1,by omega⟩
   have h0:=hs.2 m b[m] rfl (List.getElem?_eq_getElem (by omega))
   have h0:b[m] < x:=by
    have:=of_decide_eq_false h0
    exact Classical.byContradiction fun h=>this h
   rcases Nat.lt_or_ge i m with h1 | h1
   ·have:=hp i m (by omega) (by omega) h1
    rw [e] at this
    exact List.lt_trans this h0
   ·obtain rfl:i=m:=by omega
    rw [← e]; exact h0
  refine List.pairwise_append.2 ⟨hb.sublist (List.take_sublist _ _),List.pairwise_cons.2 ⟨hge,hb.sublist (List.drop_sublist _ _)⟩,fun a ha c hc => ?_⟩
  rcases List.mem_cons.1 hc with rfl | hc
  ·exact hlt a ha
  ·exact List.lt_trans (hlt a ha) (hge c hc)
theorem bndsP_spec (l:List Sp):(bndsP l).Pairwise (· < ·)∧∀ y,y ∈ bndsP l↔∃ s ∈ l,y=s.s∨y=s.e:=by
 have aux:∀ (l:List Sp) (b:List Bytes),b.Pairwise (· < ·)→(l.foldl (fun b s=>addB (addB b s.s) s.e) b).Pairwise (· < ·)∧∀ y,y ∈ l.foldl (fun b s=>addB (addB b s.s) s.e) b↔y ∈ b∨∃ s ∈ l,y=s.s∨y=s.e:=by
  intro l
  induction l with
  | nil=>exact fun b hb=>⟨hb,fun y=>by simp⟩
  | cons s l ih =>
   intro b hb
   have h1:=addB_spec hb s.s
   have h2:=addB_spec h1.1 s.e
   obtain ⟨a,c⟩:=ih _ h2.1
   refine ⟨a,fun y => ?_⟩
   rw [List.foldl_cons,c,h2.2,h1.2]
   constructor
   ·rintro ((h | h | h) | ⟨t,ht,h⟩)
    ·exact .inr ⟨s,List.mem_cons_self,.inr h⟩
    ·exact .inr ⟨s,List.mem_cons_self,.inl h⟩
    ·exact .inl h
    ·exact .inr ⟨t,List.mem_cons_of_mem _ ht,h⟩
   ·rintro (h | ⟨t,ht,h⟩)
    ·exact .inl (.inr (.inr h))
    ·rcases List.mem_cons.1 ht with rfl | ht
     ·rcases h with h | h
      ·exact .inl (.inr (.inl h))
      ·exact .inl (.inl h)
     ·exact .inr ⟨t,ht,h⟩
 obtain ⟨a,c⟩:=aux l [] .nil
 exact ⟨a,fun y=>by show y ∈ l.foldl _ []↔_; rw [c]; simp⟩
theorem bnd_mem {L:List Sp} {x:Bytes}:(∃ p,p < 2 * L.length∧bnd L p=x)↔∃ s ∈ L,x=s.s∨x=s.e:=by
 constructor
 ·rintro ⟨p,hp,rfl⟩
  refine ⟨L[p / 2]!,by rw [getElem!_pos L (p / 2) (by omega)]; exact List.getElem_mem _,?_⟩
  unfold bnd
  split
  ·exact .inl rfl
  ·exact .inr rfl
 ·rintro ⟨s,hs,h⟩
  obtain ⟨j,hj,rfl⟩:=List.getElem_of_mem hs
  rcases h with rfl | rfl
  ·exact ⟨2 * j,by omega,by unfold bnd; rw [if_pos (by omega),show 2 * j / 2=j by omega,getElem!_pos L j hj]⟩
  ·exact ⟨2 * j+1,by omega,by unfold bnd; rw [if_neg (by omega),show (2 * j+1) / 2=j by omega,getElem!_pos L j hj]⟩
def Lat (Lv:List (List Sp)):Nat→List Sp:=fun i=>Lv[i]!
theorem bds_of {Lv:List (List Sp)} (h:∀ L ∈ Lv,Wf L):Bds Lv.length (Lat Lv) (bndsP Lv.flatten) where
 wf i hi:=by unfold Lat; rw [getElem!_pos Lv i hi]; exact h _ (List.getElem_mem hi)
 sorted:=(bndsP_spec _).1
 mem x:=by
  rw [(bndsP_spec _).2]
  constructor
  ·rintro ⟨s,hs,h1⟩
   obtain ⟨L,hL,hs⟩:=List.mem_flatten.1 hs
   obtain ⟨i,hi,rfl⟩:=List.getElem_of_mem hL
   exact ⟨i,hi,bnd_mem.2 ⟨s,by unfold Lat; rw [getElem!_pos Lv i hi]; exact hs,h1⟩⟩
  ·rintro ⟨i,hi,h1⟩
   obtain ⟨s,hs,h1⟩:=bnd_mem.1 h1
   unfold Lat at hs
   rw [getElem!_pos Lv i hi] at hs
   exact ⟨s,List.mem_flatten.2 ⟨_,List.getElem_mem hi,hs⟩,h1⟩
def coverK (l:List Sp) (s e:Bytes):List K:=l.flatMap fun x=>if ¬ s < x.s∧¬ x.e < e then x.ks else []
def fragAt (l:List Sp) (b:List Bytes) (i:Nat):List Sp:=if coverK l b[i]! b[i+1]! = [] then [] else [⟨b[i]!,b[i+1]!,canonP (coverK l b[i]! b[i+1]!)⟩]
def fragsP (l:List Sp):List Sp:=(List.range ((bndsP l).length - 1)).flatMap (fragAt l (bndsP l))
section
variable {n:Nat} {L:Nat→List Sp} {B:List Bytes}
theorem cover_one (h:Bds n L B) {i u:Nat} (hi:i < n) (hu:u+1 < B.length) {j:Nat} (hj:j < (L i).length):(¬ B[u]! < (L i)[j]!.s∧¬ (L i)[j]!.e < B[u+1]!)↔cp L B (u+1) i=2 * j+1:=by
 have b0:bnd (L i) (2 * j)=(L i)[j]!.s:=by unfold bnd; rw [if_pos (by omega),show 2 * j / 2=j by omega]
 have b1:bnd (L i) (2 * j+1)=(L i)[j]!.e:=by unfold bnd; rw [if_neg (by omega),show (2 * j+1) / 2=j by omega]
 obtain ⟨x,hx,e0⟩:=h.at (p:=2 * j) hi (by omega)
 obtain ⟨y,hy,e1⟩:=h.at (p:=2 * j+1) hi (by omega)
 have c0:=lt_cp h (t:=u+1) (by omega) hi (by omega:2 * j < 2 * (L i).length) hx e0
 have c1:=lt_cp h (t:=u+1) (by omega) hi (by omega:2 * j+1 < 2 * (L i).length) hy e1
 rw [← b0,← b1,← e0,← e1,h.lt (by omega) hx,h.lt hy (by omega)]
 omega
theorem cover_level (h:Bds n L B) {i u:Nat} (hi:i < n) (hu:u+1 < B.length):coverK (L i) B[u]! B[u+1]! = if cp L B (u+1) i % 2=1 then (L i)[cp L B (u+1) i / 2]!.ks else []:=by
 obtain ⟨c,hc⟩:∃ c,c=cp L B (u+1) i:=⟨_,rfl⟩
 have hle:=cp_le (L:=L) (B:=B) (u+1) i
 rw [← hc] at hle ⊢
 have key:∀ (A:List Sp) (o:Nat),(∀ j,j < A.length→o+j < (L i).length∧A[j]! = (L i)[o+j]!)→coverK A B[u]! B[u+1]! = if c % 2=1∧o≤c / 2∧c / 2 < o+A.length then (L i)[c / 2]!.ks else []:=by
  intro A
  induction A with
  | nil =>
   intro o _
   rw [if_neg (by simp only [List.length_nil]; omega)]
   rfl
  | cons x A ih =>
   intro o hA
   have h0:=hA 0 (by simp)
   have hx:x=(L i)[o]! := by simpa using h0.2
   have ih:=ih (o+1) fun j hj=>by
    have:=hA (j+1) (by simp only [List.length_cons]; omega)
    rw [show o+(j+1)=o+1+j by omega] at this
    refine ⟨this.1,?_⟩
    rw [← this.2,getElem!_pos A j hj,getElem!_pos (x :: A) (j+1) (by simp only [List.length_cons]; omega)]
    rfl
   show (if ¬ B[u]! < x.s∧¬ x.e < B[u+1]! then x.ks else [])++coverK A B[u]! B[u+1]! = _
   rw [ih,hx]
   have hc1:=cover_one h hi hu (j:=o) (by omega)
   rw [← hc] at hc1
   by_cases hco:c=2 * o+1
   ·rw [if_pos (hc1.2 hco),if_neg (by omega),if_pos (by simp only [List.length_cons]; omega),List.append_nil,show c / 2=o by omega]
   ·rw [if_neg (fun h=>hco (hc1.1 h)),List.nil_append]
    by_cases h5:c % 2=1∧o+1≤c / 2∧c / 2 < o+1+A.length
    ·rw [if_pos h5,if_pos (by simp only [List.length_cons]; omega)]
    ·rw [if_neg h5,if_neg (by simp only [List.length_cons]; omega)]
 have:=key (L i) 0 fun j hj=>⟨by omega,by rw [Nat.zero_add]⟩
 rw [this]
 by_cases h5:c % 2=1
 ·rw [if_pos (by omega),if_pos h5]
 ·rw [if_neg (by omega),if_neg h5]
end
theorem cover_all {Lv:List (List Sp)} (h:∀ L ∈ Lv,Wf L) {u:Nat} (hu:u+1 < (bndsP Lv.flatten).length):coverK Lv.flatten (bndsP Lv.flatten)[u]! (bndsP Lv.flatten)[u+1]! = fragK Lv.length (Lat Lv) (bndsP Lv.flatten) (u+1):=by
 have hB:=bds_of h
 obtain ⟨B,hBe⟩:∃ B,B=bndsP Lv.flatten:=⟨_,rfl⟩
 rw [← hBe] at hB hu ⊢
 have e:fragK Lv.length (Lat Lv) B (u+1)=(List.range Lv.length).flatMap fun i=>coverK (Lat Lv i) B[u]! B[u+1]! := by
  unfold fragK
  refine fm_congr fun i hi => ?_
  rw [List.mem_range] at hi
  exact (cover_level hB hi hu).symm
 rw [e]
 have key:∀ (A:List (List Sp)) (o:Nat),(∀ j,j < A.length→A[j]! = Lat Lv (o+j))→coverK A.flatten B[u]! B[u+1]! = (List.range A.length).flatMap fun i=>coverK (Lat Lv (o+i)) B[u]! B[u+1]! := by
  intro A
  induction A with
  | nil=>intro o _; rfl
  | cons x A ih =>
   intro o hA
   have h0:=hA 0 (by simp)
   have hx:x=Lat Lv o:=by simpa using h0
   rw [List.flatten_cons,List.length_cons,List.range_succ_eq_map,List.flatMap_cons,List.flatMap_map]
   have:coverK (x++A.flatten) B[u]! B[u+1]! = coverK x B[u]! B[u+1]! ++ coverK A.flatten B[u]! B[u+1]! := by unfold coverK; rw [List.flatMap_append]
   rw [this,ih (o+1) fun j hj=>by
    have:=hA (j+1) (by simp only [List.length_cons]; omega)
    rw [show o+(j+1)=o+1+j by omega] at this
    rw [← this,getElem!_pos A j hj,getElem!_pos (x :: A) (j+1) (by simp only [List.length_cons]; omega)]
    rfl,hx]
   congr 1
   refine fm_congr fun i _ => ?_
   rw [show o+1+i=o+(i+1) by omega]
 have:=key Lv 0 fun j _=>by rw [Nat.zero_add]; rfl
 rw [this]
 refine fm_congr fun i _ => ?_
 rw [Nat.zero_add]
theorem frags_eq {Lv:List (List Sp)} (h:∀ L ∈ Lv,Wf L) (hf:∀ L ∈ Lv,∀ s ∈ L,s.ks≠[]):fragsP Lv.flatten=(covs Lv.length (Lat Lv) (bndsP Lv.flatten)).map fun u=>⟨(bndsP Lv.flatten)[u - 1]!,(bndsP Lv.flatten)[u]!,canonP (fragK Lv.length (Lat Lv) (bndsP Lv.flatten) u)⟩:=by
 have hB:=bds_of h
 obtain ⟨B,hBe⟩:∃ B,B=bndsP Lv.flatten:=⟨_,rfl⟩
 have hc:=fun {u:Nat} (hu:u+1 < B.length)=>(by rw [hBe] at hu ⊢; exact cover_all h hu:coverK Lv.flatten B[u]! B[u+1]! = fragK Lv.length (Lat Lv) B (u+1))
 unfold fragsP
 rw [← hBe] at hB ⊢
 have hk:∀ u,u+1 < B.length→(coverK Lv.flatten B[u]! B[u+1]! = []↔cov Lv.length (Lat Lv) B (u+1)=false):=fun u hu=>by
  rw [hc hu]
  have:cov Lv.length (Lat Lv) B (u+1)=true↔fragK Lv.length (Lat Lv) B (u+1)≠[]:=by
   rw [cov_iff]
   constructor
   ·rintro ⟨i,hi,h1⟩ h0
    unfold fragK at h0
    have:=List.flatMap_eq_nil_iff.1 h0 i (List.mem_range.2 hi)
    rw [if_pos h1] at this
    have hl:cp (Lat Lv) B (u+1) i / 2 < (Lat Lv i).length:=by have:=cp_le (L:=Lat Lv) (B:=B) (u+1) i; omega
    rw [getElem!_pos (Lat Lv i) _ hl] at this
    refine hf _ ?_ _ (List.getElem_mem hl) this
    unfold Lat
    rw [getElem!_pos Lv i hi]
    exact List.getElem_mem hi
   ·intro h0
    refine Classical.byContradiction fun hn=>h0 ?_
    unfold fragK
    refine List.flatMap_eq_nil_iff.2 fun i hi => ?_
    rw [if_neg fun h1=>hn ⟨i,List.mem_range.1 hi,h1⟩]
  rw [← Bool.not_eq_true,this,Decidable.not_not]
 have hcov:covs Lv.length (Lat Lv) B=(List.range (B.length - 1)).filterMap fun u=>if cov Lv.length (Lat Lv) B (u+1) then some (u+1) else none:=by
  have e0:cov Lv.length (Lat Lv) B 0=false:=by
   cases h0:cov Lv.length (Lat Lv) B 0 with
   | false=>rfl
   | true=>exact absurd (cov_lt hB (Nat.zero_le _) h0).1 (Nat.lt_irrefl 0)
  have e1:cov Lv.length (Lat Lv) B B.length=false:=by
   cases h0:cov Lv.length (Lat Lv) B B.length with
   | false=>rfl
   | true=>exact absurd (cov_lt hB (Nat.le_refl _) h0).2 (Nat.lt_irrefl _)
  unfold covs
  cases hl:B.length with
  | zero=>simp [e0]
  | succ m =>
   rw [hl] at e1
   rw [List.range_succ,List.filter_append,List.filter_cons_of_neg (by rw [e1]; simp),List.filter_nil,List.append_nil,List.range_succ_eq_map,List.filter_cons_of_neg (by rw [e0]; simp),Nat.add_sub_cancel]
   rw [List.filter_map,← List.filterMap_eq_filter,List.map_filterMap]
   refine fi_congr fun u _ => ?_
   simp only [Function.comp,Option.guard]
   split <;> rfl
 rw [hcov,List.map_filterMap]
 have hr:∀ m,m≤B.length - 1→(List.range m).flatMap (fragAt Lv.flatten B)=(List.range m).filterMap fun x=>(if cov Lv.length (Lat Lv) B (x+1) then some (x+1) else none).map fun u=>(⟨B[u - 1]!,B[u]!,canonP (fragK Lv.length (Lat Lv) B u)⟩:Sp):=by
  intro m
  induction m with
  | zero=>intro _; rfl
  | succ m ih =>
   intro hm
   rw [List.range_succ,List.flatMap_append,List.filterMap_append,ih (by omega)]
   congr 1
   have hu:m+1 < B.length:=by omega
   have:=hk m hu
   rw [List.flatMap_cons,List.flatMap_nil,List.append_nil]
   unfold fragAt
   cases hcv:cov Lv.length (Lat Lv) B (m+1) with
   | false=>rw [if_pos (this.2 hcv)]; simp [hcv]
   | true =>
    rw [if_neg (fun h=>by rw [this.1 h] at hcv; cases hcv),hc hu]
    simp [hcv]
 exact hr _ (Nat.le_refl _)
end Go.E
end
section
namespace Go.E
open Go Go.Sort Go.Proofs
abbrev SV:=Bytes × Bytes
def stepS (st:List SV) (k:K):List SV :=
 if kindT k.tr=19 then [] else st.filter (fun x=>decide (x.1≠k.suf))++if kindT k.tr=21 then [(k.suf,k.val)] else []
def svLess (a b:SV):Bool:=decide (a.1 < b.1)
def stateP (st:List SV) (ks:List K):List SV:=isort svLess (ks.reverse.foldl stepS st)
theorem foldS_spec (l:List K) (hd:l.Pairwise fun x y=>x.tr≤y.tr) (hc:l.Pairwise fun x y=>x.suf=y.suf→x.tr≠y.tr) (hk:∀ x ∈ l,kindT x.tr=19∨kindT x.tr=20∨kindT x.tr=21) :
    (l.foldl stepS []).Pairwise (fun a b=>a.1≠b.1)∧∀ p,p ∈ l.foldl stepS []↔∃ x ∈ l,kindT x.tr=21∧p=x.sv∧∀ y ∈ l,(kindT y.tr=19→y.tr < x.tr)∧(kindT y.tr≠19→y.suf=x.suf→y.tr≤x.tr):=by
 have aux:∀ (m l:List K),(m++l).Pairwise (fun x y=>x.tr≤y.tr)→(m++l).Pairwise (fun x y=>x.suf=y.suf→x.tr≠y.tr)→(∀ x ∈ m++l,kindT x.tr=19∨kindT x.tr=20∨kindT x.tr=21)→∀ st:List SV,
     st.Pairwise (fun a b=>a.1≠b.1)→(∀ p,p ∈ st↔∃ x ∈ m,kindT x.tr=21∧p=x.sv∧∀ y ∈ m,(kindT y.tr=19→y.tr < x.tr)∧(kindT y.tr≠19→y.suf=x.suf→y.tr≤x.tr)) →
     (l.foldl stepS st).Pairwise (fun a b=>a.1≠b.1)∧∀ p,p ∈ l.foldl stepS st↔∃ x ∈ m++l,kindT x.tr=21∧p=x.sv∧∀ y ∈ m++l,(kindT y.tr=19→y.tr < x.tr)∧(kindT y.tr≠19→y.suf=x.suf→y.tr≤x.tr):=by
  intro m l
  induction l generalizing m with
  | nil=>intro _ _ _ st h1 h2; rw [List.append_nil]; exact ⟨h1,h2⟩
  | cons k l ih =>
   intro hd hc hk st h1 h2
   rw [List.foldl_cons]
   have ih:=ih (m++[k]) (by simpa using hd) (by simpa using hc) (by simpa using hk) (stepS st k)
   rw [List.append_assoc,List.singleton_append] at ih
   have hkm:∀ y ∈ m,y.tr≤k.tr∧(y.suf=k.suf→y.tr≠k.tr):=fun y hy=>⟨(List.pairwise_append.1 hd).2.2 y hy k List.mem_cons_self,(List.pairwise_append.1 hc).2.2 y hy k List.mem_cons_self⟩
   have hkk:=hk k (by simp)
   refine ih ?_ fun p => ?_
   ·unfold stepS
    split
    ·exact .nil
    ·refine List.pairwise_append.2 ⟨h1.filter _,by split <;> simp,fun a ha b hb => ?_⟩
     have:=(List.mem_filter.1 ha).2
     simp only [decide_eq_true_eq] at this
     split at hb
     ·rw [List.mem_singleton.1 hb]; exact this
     ·simp at hb
   ·unfold stepS
    split
    ·rename_i h19
     simp only [List.not_mem_nil,false_iff]
     rintro ⟨x,hx,hx1,hx2,hx3⟩
     have h4:=(hx3 k (by simp)).1 h19
     rcases List.mem_append.1 hx with hx | hx
     ·have:=(hkm x hx).1; omega
     ·rw [List.mem_singleton.1 hx] at h4; omega
    ·rename_i h19
     rw [List.mem_append,List.mem_filter,h2]
     constructor
     ·rintro (⟨⟨x,hx,hx1,rfl,hx3⟩,hne⟩ | h)
      ·simp only [decide_eq_true_eq] at hne
       refine ⟨x,List.mem_append_left _ hx,hx1,rfl,fun y hy => ?_⟩
       rcases List.mem_append.1 hy with hy | hy
       ·exact hx3 y hy
       ·rw [List.mem_singleton.1 hy]
        exact ⟨fun h=>absurd h h19,fun _ h=>absurd h.symm hne⟩
      ·split at h
       ·rename_i h21
        rw [List.mem_singleton.1 h]
        refine ⟨k,by simp,h21,rfl,fun y hy => ?_⟩
        rcases List.mem_append.1 hy with hy | hy
        ·have:=hkm y hy
         refine ⟨fun h9 => ?_,fun _ _=>this.1⟩
         rcases Nat.lt_or_ge y.tr k.tr with h5 | h5
         ·exact h5
         ·have:y.tr=k.tr:=by omega
          rw [this] at h9; omega
        ·rw [List.mem_singleton.1 hy]
         exact ⟨fun h=>absurd h h19,fun _ _=>Nat.le_refl _⟩
       ·simp at h
     ·rintro ⟨x,hx,hx1,rfl,hx3⟩
      rcases List.mem_append.1 hx with hx | hx
      ·refine .inl ⟨⟨x,hx,hx1,rfl,fun y hy=>hx3 y (List.mem_append_left _ hy)⟩,?_⟩
       simp only [decide_eq_true_eq]
       intro he
       have h5:=(hx3 k (by simp)).2 h19 he.symm
       have h6:=hkm x hx
       exact h6.2 he (by omega)
      ·rw [List.mem_singleton.1 hx] at hx1 ⊢
       rw [if_pos hx1]
       exact .inr (List.mem_singleton.2 rfl)
 have:=aux [] l (by simpa using hd) (by simpa using hc) (by simpa using hk) [] .nil (by simp)
 simpa using this
theorem sv_eq_of {a b:List SV} (ha:a.Pairwise fun x y=>x.1 < y.1) (hb:b.Pairwise fun x y=>x.1 < y.1) (h:∀ x,x ∈ a↔x ∈ b):a=b:=by
 induction a generalizing b with
 | nil =>
  cases b with
  | nil=>rfl
  | cons y b=>exact absurd ((h y).2 List.mem_cons_self) (by simp)
 | cons x a ih =>
  cases b with
  | nil=>exact absurd ((h x).1 List.mem_cons_self) (by simp)
  | cons y b =>
   have ha':=fun {z}=>List.rel_of_pairwise_cons (a':=z) ha
   have hb':=fun {z}=>List.rel_of_pairwise_cons (a':=z) hb
   have hxy:x=y:=by
    rcases List.mem_cons.1 ((h x).1 List.mem_cons_self) with e | h1
    ·exact e
    ·rcases List.mem_cons.1 ((h y).2 List.mem_cons_self) with e | h2
     ·exact e.symm
     ·exact absurd (ha' h2) (ble_of (hb' h1))
   subst hxy
   congr 1
   refine ih ha.of_cons hb.of_cons fun z => ?_
   have:=h z
   rw [List.mem_cons,List.mem_cons] at this
   constructor
   ·intro hz
    rcases this.1 (.inr hz) with e | h1
    ·subst e; exact absurd (ha' hz) (List.lt_irrefl _)
    ·exact h1
   ·intro hz
    rcases this.2 (.inr hz) with e | h1
    ·subst e; exact absurd (hb' hz) (List.lt_irrefl _)
    ·exact h1
theorem svLess_tot:TotB svLess where
 asym a b h:=by
  have h:a.1 < b.1:=of_decide_eq_true h
  exact decide_eq_false (ble_of h)
 trans a b c h1 h2:=by
  have h1:¬ b.1 < a.1:=of_decide_eq_false h1
  have h2:¬ c.1 < b.1:=of_decide_eq_false h2
  exact decide_eq_false fun h3=>h1 (bytes_lt_of h2 h3)
theorem isort_sv {l:List SV} (h:l.Pairwise fun a b=>a.1≠b.1):(isort svLess l).Pairwise fun a b=>a.1 < b.1:=by
 have h1:=isort_sorted svLess_tot l
 have h2:(isort svLess l).Pairwise fun a b=>a.1≠b.1:=(List.Perm.pairwise_iff (fun h=>Ne.symm h) (isort_perm l)).2 h
 refine (h1.and h2).imp fun {a b} h => ?_
 have h3:¬ b.1 < a.1:=of_decide_eq_false h.1
 rcases blt_tri a.1 b.1 with h4 | h4 | h4
 ·exact h4
 ·exact absurd h4 h.2
 ·exact absurd h4 h3
def visP (snap:Nat) (ks:List K):List K:=ks.filter fun x=>visT snap x.tr
theorem state_Tf {snap:Nat} {ks:List K} (h:Cd ks):stateP [] (visP snap (canonP ks))=(Tf snap ks).map K.sv:=by
 have hm:∀ x,x ∈ (visP snap (canonP ks)).reverse↔x ∈ ks∧visT snap x.tr=true:=fun x=>by rw [List.mem_reverse]; unfold visP; rw [List.mem_filter,(canonP_perm ks).mem_iff]
 have hp:(canonP ks).Pairwise fun x y=>x.suf=y.suf→x.tr≠y.tr:=(List.Perm.pairwise_iff (fun {x y} h e e2=>h e.symm e2.symm) (canonP_perm ks)).2 h.dist
 have fs:=foldS_spec (visP snap (canonP ks)).reverse (by rw [List.pairwise_reverse]; exact (canonP_desc ks).filter _) (by rw [List.pairwise_reverse]; exact (hp.filter _).imp fun {x y} h e e2=>h e.symm e2.symm) fun x hx=>h.kind x ((hm x).1 hx).1
 refine sv_eq_of (isort_sv fs.1) (by rw [List.pairwise_map]; exact Tf_sorted h) fun p => ?_
 unfold stateP
 rw [(isort_perm _).mem_iff,fs.2,List.mem_map]
 constructor
 ·rintro ⟨x,hx,h1,rfl,h2⟩
  refine ⟨x,mem_Tf.2 ⟨((hm x).1 hx).1,winB_iff.2 ⟨((hm x).1 hx).2,h1,fun y hy hv=>h2 y ((hm y).2 ⟨hy,hv⟩)⟩⟩,rfl⟩
 ·rintro ⟨x,hx,rfl⟩
  obtain ⟨h1,h2⟩:=mem_Tf.1 hx
  obtain ⟨h2,h3,h4⟩:=winB_iff.1 h2
  exact ⟨x,(hm x).2 ⟨h1,h2⟩,h3,rfl,fun y hy=>h4 y ((hm y).1 hy).1 ((hm y).1 hy).2⟩
def bareK (p:SV):K:=⟨0,p.1,p.2⟩
theorem bareK_sv (l:List SV):(l.map bareK).map K.sv=l:=by
 rw [List.map_map]
 exact List.map_id'' (fun _=>rfl) l
theorem bareK_inj {l m:List SV} (h:l.map bareK=m.map bareK):l=m:=by rw [← bareK_sv l,h,bareK_sv]
def viewS (x:Sp):Sp:=⟨x.s,x.e,(stateP [] x.ks).map bareK⟩
def joinS (out:List Sp) (x:Sp):List Sp:=match out.getLast? with
 | some y=>if y.e=x.s∧x.ks≠[]∧y.ks=x.ks then out.dropLast++[⟨y.s,x.e,y.ks⟩] else out++[x]
 | none=>[x]
def bdP (lo hi:Option Bytes) (x:Sp):Bool:=(match lo with | some l=>decide (l < x.e) | none=>true) && match hi with | some h=>decide (x.s < h) | none=>true
def mergedP (l:List Sp) (snap:Nat):List Sp:=(fragsP l).map fun x=>⟨x.s,x.e,visP snap x.ks⟩
def viewP (l:List Sp) (snap:Nat) (lo hi:Option Bytes):List Sp:=(((mergedP l snap).filter (bdP lo hi)).map viewS).foldl joinS []
def bareS (x:Sp):Sp:=⟨x.s,x.e,(x.ks.map K.sv).map bareK⟩
def VwM (G:List Sp) (m:Nat):List Sp:=(List.range ((List.range m).filter (isSt G)).length).map fun p =>
 ⟨G[((List.range m).filter (isSt G))[p]!]!.s,G[(if p+1 < ((List.range m).filter (isSt G)).length then ((List.range m).filter (isSt G))[p+1]! else m) - 1]!.e,G[((List.range m).filter (isSt G))[p]!]!.ks⟩
theorem VwM_full (G:List Sp):VwM G G.length=Vw G:=rfl
theorem bareS_eq {a b:Sp} (h1:a.s=b.s) (h2:a.e=b.e) (h3:a.ks.map K.sv=b.ks.map K.sv):bareS a=bareS b:=by unfold bareS; rw [h1,h2,h3]
theorem join_runs (G:List Sp) {m:Nat} (hm:m≤G.length):((G.take m).map bareS).foldl joinS []=(VwM G m).map bareS∧(0 < m→∃ j,((List.range m).filter (isSt G)).getLast? = some j∧j < m∧G[j]!.ks.map K.sv=G[m - 1]!.ks.map K.sv):=by
 induction m with
 | zero=>exact ⟨rfl,fun h=>absurd h (Nat.lt_irrefl 0)⟩
 | succ m ih =>
  obtain ⟨ih1,ih2⟩:=ih (by omega)
  have hG:G.take (m+1)=G.take m++[G[m]!]:=by rw [List.take_add_one,List.getElem?_eq_getElem (by omega:m < G.length),getElem!_pos G m (by omega)]; rfl
  rw [hG,List.map_append,List.foldl_append,ih1,List.map_singleton,List.foldl_cons,List.foldl_nil]
  obtain ⟨S,hS⟩:∃ S,S=(List.range m).filter (isSt G):=⟨_,rfl⟩
  have hS1:(List.range (m+1)).filter (isSt G)=if isSt G m then S++[m] else S:=by
   rw [List.range_succ,List.filter_append,← hS]
   cases h:isSt G m with
   | true=>rw [List.filter_cons_of_pos h]; rfl
   | false=>rw [List.filter_cons_of_neg (by rw [h]; simp)]; simp
  have hVm:VwM G m=(List.range S.length).map fun p=>⟨G[S[p]!]!.s,G[(if p+1 < S.length then S[p+1]! else m) - 1]!.e,G[S[p]!]!.ks⟩:=by unfold VwM; rw [← hS]
  rcases Nat.eq_zero_or_pos m with rfl | hm0
  ·have h0:isSt G 0=true:=decide_eq_true (.inl rfl)
   rw [h0] at hS1
   have hS0:S=[]:=by rw [hS]; rfl
   rw [if_pos rfl,hS0,List.nil_append] at hS1
   refine ⟨?_,fun _=>⟨0,by rw [hS1]; rfl,by omega,rfl⟩⟩
   rw [hVm,hS0]
   show joinS [] (bareS G[0]!)=_
   unfold VwM
   rw [hS1]
   rfl
  ·obtain ⟨j,hj,hjm,hje⟩:=ih2 hm0
   rw [← hS] at hj
   obtain ⟨S',rfl⟩:∃ S',S=S'++[j]:=List.getLast?_eq_some_iff.1 hj
   have hlast:VwM G m=((List.range S'.length).map fun p=>(⟨G[(S'++[j])[p]!]!.s,G[(S'++[j])[p+1]! - 1]!.e,G[(S'++[j])[p]!]!.ks⟩:Sp))++[⟨G[j]!.s,G[m - 1]!.e,G[j]!.ks⟩]:=by
    rw [hVm,List.length_append,List.length_singleton,List.range_succ,List.map_append]
    congr 1
    ·refine List.map_congr_left fun p hp => ?_
     rw [List.mem_range] at hp
     rw [if_pos (by omega)]
    ·simp only [List.map_cons,List.map_nil]
     rw [if_neg (by omega)]
     have:(S'++[j])[S'.length]! = j:=by rw [getElem!_pos (S'++[j]) S'.length (by simp)]; simp
     rw [this]
   have hjoin:isSt G m=decide (¬ (G[m - 1]!.e=G[m]!.s∧G[m]!.ks≠[]∧G[m - 1]!.ks.map K.sv=G[m]!.ks.map K.sv)):=by
    unfold isSt
    refine decide_eq_decide.2 ?_
    have hh:joinG G (m - 1)↔m - 1+1 < G.length∧G[m - 1]!.e=G[m - 1+1]!.s∧G[m - 1]!.ks≠[]∧G[m - 1]!.ks.map K.sv=G[m - 1+1]!.ks.map K.sv:=Iff.rfl
    rw [hh,show m - 1+1=m by omega]
    constructor
    ·rintro (h | h)
     ·omega
     ·rintro ⟨h1,h2,h3⟩
      exact h ⟨by omega,h1,fun h4=>h2 (by rw [h4] at h3; simpa using h3.symm),h3⟩
    ·intro h
     refine .inr fun ⟨_,h1,h2,h3⟩=>h ⟨h1,fun h4=>h2 (by rw [h4] at h3; simpa using h3),h3⟩
   rw [hlast,List.map_append,List.map_singleton]
   unfold joinS
   rw [List.getLast?_append,List.getLast?_singleton]
   simp only [Option.or_some,Option.some_or]
   have hb1:((bareS G[m]!).ks≠[])↔G[m]!.ks≠[]:=by unfold bareS; simp
   have hb2:((bareS (⟨G[j]!.s,G[m - 1]!.e,G[j]!.ks⟩:Sp)).ks=(bareS G[m]!).ks)↔G[m - 1]!.ks.map K.sv=G[m]!.ks.map K.sv:=by
    rw [← hje]
    constructor
    ·intro h; exact bareK_inj h
    ·intro h; exact congrArg (List.map bareK) h
   by_cases hc:G[m - 1]!.e=G[m]!.s∧G[m]!.ks≠[]∧G[m - 1]!.ks.map K.sv=G[m]!.ks.map K.sv
   ·rw [if_pos (by refine ⟨hc.1,hb1.2 hc.2.1,hb2.2 hc.2.2⟩)]
    have hst:isSt G m=false:=by rw [hjoin]; exact decide_eq_false fun h=>h hc
    rw [hst,if_neg (by simp)] at hS1
    refine ⟨?_,fun _=>⟨j,by rw [hS1]; exact hj,by omega,by rw [show m+1 - 1=m by omega,hje,hc.2.2]⟩⟩
    rw [List.dropLast_concat]
    unfold VwM
    rw [hS1,List.length_append,List.length_singleton,List.range_succ,List.map_append,List.map_append]
    congr 1
    ·rw [List.map_map,List.map_map]
     refine List.map_congr_left fun p hp => ?_
     rw [List.mem_range] at hp
     simp only [Function.comp]
     rw [if_pos (by omega)]
    ·simp only [List.map_cons,List.map_nil]
     rw [if_neg (by omega)]
     have:(S'++[j])[S'.length]! = j:=by rw [getElem!_pos (S'++[j]) S'.length (by simp)]; simp
     rw [this,show m+1 - 1=m by omega]
     rfl
   ·rw [if_neg (by rintro ⟨h1,h2,h3⟩; exact hc ⟨h1,hb1.1 h2,hb2.1 h3⟩)]
    have hst:isSt G m=true:=by rw [hjoin]; exact decide_eq_true hc
    rw [hst,if_pos rfl] at hS1
    refine ⟨?_,fun _=>⟨m,by rw [hS1]; simp,by omega,by rw [show m+1 - 1=m by omega]⟩⟩
    rw [show (List.map bareS (List.map (fun p=>(⟨G[(S'++[j])[p]!]!.s,G[(S'++[j])[p+1]! - 1]!.e,G[(S'++[j])[p]!]!.ks⟩:Sp)) (List.range S'.length))++[bareS ⟨G[j]!.s,G[m - 1]!.e,G[j]!.ks⟩])=(VwM G m).map bareS by rw [hlast,List.map_append]; rfl]
    have hV1:VwM G (m+1)=(List.range (S'++[j]++[m]).length).map fun p=>(⟨G[(S'++[j]++[m])[p]!]!.s,G[(if p+1 < (S'++[j]++[m]).length then (S'++[j]++[m])[p+1]! else m+1) - 1]!.e,G[(S'++[j]++[m])[p]!]!.ks⟩:Sp):=by unfold VwM; rw [hS1]
    have hl1:(S'++[j]++[m]).length=(S'++[j]).length+1:=by simp
    rw [hV1,hVm,hl1,List.range_succ,List.map_append,List.map_append]
    congr 1
    ·rw [List.map_map,List.map_map]
     refine List.map_congr_left fun p hp => ?_
     rw [List.mem_range] at hp
     simp only [Function.comp]
     have e1:(S'++[j]++[m])[p]! = (S'++[j])[p]! := by rw [getElem!_pos (S'++[j]++[m]) p (by simp only [List.length_append,List.length_singleton] at hp ⊢; omega),getElem!_pos (S'++[j]) p hp,List.getElem_append_left hp]
     rw [e1,if_pos (show p+1 < (S'++[j]).length+1 by omega)]
     by_cases hp1:p+1 < (S'++[j]).length
     ·have e2:(S'++[j]++[m])[p+1]! = (S'++[j])[p+1]! := by rw [getElem!_pos (S'++[j]++[m]) (p+1) (by simp only [List.length_append,List.length_singleton] at hp1 ⊢; omega),getElem!_pos (S'++[j]) (p+1) hp1,List.getElem_append_left hp1]
      rw [if_pos hp1,e2]
     ·have hpe:p+1=(S'++[j]).length:=by omega
      have e2:(S'++[j]++[m])[p+1]! = m:=by rw [hpe,getElem!_pos (S'++[j]++[m]) _ (by simp only [List.length_append,List.length_singleton]; omega)]; simp
      rw [if_neg hp1,e2]
    ·simp only [List.map_cons,List.map_nil]
     rw [if_neg (by omega)]
     have:(S'++[j]++[m])[(S'++[j]).length]! = m:=by rw [getElem!_pos (S'++[j]++[m]) _ (by simp only [List.length_append,List.length_singleton]; omega)]; simp
     rw [this,show m+1 - 1=m by omega]
theorem join_Vw (G:List Sp):(G.map bareS).foldl joinS []=(Vw G).map bareS:=by
 have:=(join_runs G (Nat.le_refl G.length)).1
 rwa [List.take_length,VwM_full] at this
end Go.E
end
section
namespace Go.E
open Go Go.Sort Go.Proofs
theorem filter_mid {α:Type} (P:α→Bool) (G:List α) (a e:Nat) (h:∀ j (hj:j < G.length),P G[j]=true↔a≤j∧j < e):G.filter P=(G.take e).drop a:=by
 induction G generalizing a e with
 | nil=>simp
 | cons x G ih =>
  have h0:=h 0 (by simp)
  have hs:=fun j (hj:j < G.length)=>h (j+1) (by simp only [List.length_cons]; omega)
  simp only [List.getElem_cons_zero] at h0
  simp only [List.getElem_cons_succ] at hs
  cases e with
  | zero =>
   rw [List.filter_cons_of_neg (by rw [h0]; omega),ih 0 0 fun j hj=>by rw [hs j hj]; omega]
   simp
  | succ e =>
   cases a with
   | zero=>rw [List.filter_cons_of_pos (by rw [h0]; omega),ih 0 e fun j hj=>by rw [hs j hj]; omega]; simp
   | succ a=>rw [List.filter_cons_of_neg (by rw [h0]; omega),ih a e fun j hj=>by rw [hs j hj]; omega]; simp
theorem bdP_iff {lo hi:Option Bytes} {x:Sp}:bdP lo hi x=true↔(∀ l,lo=some l→l < x.e)∧∀ h,hi=some h→x.s < h:=by
 unfold bdP
 rw [Bool.and_eq_true]
 cases lo <;> cases hi <;> simp
theorem filter_GB {G:List Sp} (hw:Wf G) (lo hi:Option Bytes):G.filter (bdP lo hi)=GB G lo hi:=by
 unfold GB
 refine filter_mid _ _ _ _ fun j hj => ?_
 rw [bdP_iff,lt_aB hw hj,lt_eB hw hj,getElem!_pos G j hj]
theorem merged_view {Lv:List (List Sp)} {snap:Nat} (h:∀ L ∈ Lv,Wf L) (hf:∀ L ∈ Lv,∀ s ∈ L,s.ks≠[]) (hc:∀ u,Cd (fragK Lv.length (Lat Lv) (bndsP Lv.flatten) u)) :
    (mergedP Lv.flatten snap).map viewS=(GL snap Lv.length (Lat Lv) (bndsP Lv.flatten)).map bareS:=by
 unfold mergedP GL
 rw [frags_eq h hf,List.map_map,List.map_map,List.map_map]
 refine List.map_congr_left fun u _ => ?_
 simp only [Function.comp,viewS,bareS,fragS]
 rw [state_Tf (hc u)]
theorem view_eq {Lv:List (List Sp)} {snap:Nat} (h:∀ L ∈ Lv,Wf L) (hf:∀ L ∈ Lv,∀ s ∈ L,s.ks≠[]) (hc:∀ u,Cd (fragK Lv.length (Lat Lv) (bndsP Lv.flatten) u)) (lo hi:Option Bytes) :
    viewP Lv.flatten snap lo hi=(Vw (GB (GL snap Lv.length (Lat Lv) (bndsP Lv.flatten)) lo hi)).map bareS:=by
 have e1:((mergedP Lv.flatten snap).filter (bdP lo hi)).map viewS=((mergedP Lv.flatten snap).map viewS).filter (bdP lo hi):=by
  rw [List.filter_map]
  rfl
 have e2:((GL snap Lv.length (Lat Lv) (bndsP Lv.flatten)).map bareS).filter (bdP lo hi)=((GL snap Lv.length (Lat Lv) (bndsP Lv.flatten)).filter (bdP lo hi)).map bareS:=by
  rw [List.filter_map]
  rfl
 unfold viewP
 rw [e1,merged_view h hf hc,e2,filter_GB (GL_wf (bds_of h)),join_Vw]
theorem Vw_wf {G:List Sp} (hw:Wf G):Wf (Vw G):=by
 refine ⟨fun i hi => ?_,fun i j hij hj => ?_⟩
 ·rw [Vw_length] at hi
  rw [Vw_at hi]
  have h1:=stE_gt hi
  have a:=hw.1 _ (sts_mem hi).1
  have b:=hw.ends (i:=(sts G)[i]!) (j:=stE G i - 1) (by omega) (by omega)
  simp only
  exact bytes_trans a (by grind)
 ·rw [Vw_length] at hj
  rw [Vw_at hj,Vw_at (by omega:i < (sts G).length)]
  have h1:=stE_gt (show i < (sts G).length by omega)
  have h2:=stE_le hij hj
  exact hw.2 _ _ (by omega) (sts_mem hj).1
theorem thr_congr {P Q:Nat→Bool} {N:Nat} (h:∀ i,i < N→P i=Q i):thr P N=thr Q N:=by
 induction N generalizing P Q with
 | zero=>rfl
 | succ N ih =>
  unfold thr
  rw [h 0 (by omega),ih fun i hi=>h (i+1) (by omega)]
theorem skGE_bare (V:List Sp) (key:Bytes):skGE (V.map bareS) key=skGE V key:=by
 unfold skGE
 rw [List.length_map]
 refine thr_congr fun i hi => ?_
 rw [getElem!_pos (V.map bareS) i (by simpa using hi),List.getElem_map,getElem!_pos V i hi]
 rfl
theorem skLT_bare (V:List Sp) (key:Bytes):skLT (V.map bareS) key=skLT V key:=by
 unfold skLT
 rw [List.length_map]
 rw [thr_congr fun i hi => ?_]
 rw [getElem!_pos (V.map bareS) i (by simpa using hi),List.getElem_map,getElem!_pos V i hi]
 rfl
def lastI (P:Nat→Bool):Nat→Int
 | 0 => -1
 | N+1=>if P N then (N:Int) else lastI P N
theorem lastI_thr {P:Nat→Bool} {N:Nat} (hd:∀ p q,p≤q→q < N→P q=true→P p=true):lastI P N=(thr P N:Int) - 1:=by
 have aux:∀ m,m≤N→lastI P m=(min m (thr P N):Int) - 1:=by
  intro m
  induction m with
  | zero=>intro _; simp [lastI]; omega
  | succ m ih =>
   intro hm
   unfold lastI
   have:=lt_thr (P:=P) (N:=N) hd (p:=m) (by omega)
   split
   ·rename_i h
    have:=this.2 h
    omega
   ·rename_i h
    have:¬ m < thr P N:=fun h1=>h (this.1 h1)
    rw [ih (by omega)]
    omega
 rw [aux N (Nat.le_refl _)]
 have:=thr_le P N
 omega
theorem skLT_last {V:List Sp} (hw:Wf V) (key:Bytes):lastI (fun j=>decide (V[j]!.s < key)) V.length=skLT V key:=by
 refine lastI_thr fun p q h1 h2 h3 => ?_
 simp only [decide_eq_true_eq] at h3 ⊢
 rcases Nat.lt_or_ge p q with h4 | h4
 ·have a:=hw.1 p (by omega)
  have b:=hw.2 p q h4 h2
  exact List.lt_trans a (bytes_lt_of (by grind) h3)
 ·obtain rfl:p=q:=by omega
  exact h3
end Go.E
end
section
namespace Go.E
open Go Go.Sort Go.Proofs
def hasK (x:Bytes) (s:Sp):Bool:=decide (¬ x < s.s∧x < s.e)
def valAt (V:List Sp) (x:Bytes):List SV:=match V.find? (hasK x) with
 | some s=>s.ks.map K.sv
 | none=>[]
structure Mx (V:List Sp):Prop where
 ne:∀ s ∈ V,s.s < s.e∧s.ks≠[]
 pw:V.Pairwise fun a b=>¬ b.s < a.e
 mx:∀ l a b m,V=l++a :: b :: m→a.e=b.s→a.ks.map K.sv≠b.ks.map K.sv
theorem Mx.tail {a:Sp} {V:List Sp} (h:Mx (a :: V)):Mx V:=⟨fun s hs=>h.ne s (List.mem_cons_of_mem _ hs),h.pw.of_cons,fun l x b m e=>h.mx (a :: l) x b m (by rw [e]; rfl)⟩
theorem valAt_nil (x:Bytes):valAt [] x=[]:=rfl
theorem valAt_in {a:Sp} {V:List Sp} {x:Bytes} (h1:¬ x < a.s) (h2:x < a.e):valAt (a :: V) x=a.ks.map K.sv:=by
 unfold valAt
 rw [List.find?_cons_of_pos (show hasK x a=true from decide_eq_true ⟨h1,h2⟩)]
theorem valAt_out {a:Sp} {V:List Sp} {x:Bytes} (h:¬ (¬ x < a.s∧x < a.e)):valAt (a :: V) x=valAt V x:=by
 unfold valAt
 rw [List.find?_cons_of_neg (by unfold hasK; simpa using h)]
theorem valAt_ahead {V:List Sp} {x:Bytes} (h:∀ s ∈ V,x < s.s):valAt V x=[]:=by
 unfold valAt
 have:V.find? (hasK x)=none:=List.find?_eq_none.2 fun s hs=>by
  unfold hasK
  rw [decide_eq_true_eq]
  exact fun hh=>hh.1 (h s hs)
 rw [this]
theorem valAt_some {V:List Sp} {x:Bytes} (h:valAt V x≠[]):∃ s ∈ V,¬ x < s.s∧x < s.e∧valAt V x=s.ks.map K.sv:=by
 unfold valAt at h ⊢
 cases hf:V.find? (hasK x) with
 | none=>rw [hf] at h; exact absurd rfl h
 | some s =>
  have:=List.find?_some hf
  unfold hasK at this
  rw [decide_eq_true_eq] at this
  exact ⟨s,List.mem_of_find?_eq_some hf,this.1,this.2,rfl⟩
theorem Mx.after {a:Sp} {V:List Sp} (h:Mx (a :: V)) {x:Bytes} (hx:x < a.e):valAt V x=[] :=
 valAt_ahead fun _ hs=>bytes_trans hx (List.rel_of_pairwise_cons h.pw hs)
theorem map_sv_ne {l:List K} (h:l≠[]):l.map K.sv≠[]:=by simpa using h
theorem mx_end {a b:Sp} {V W:List Sp} (hV:Mx (a :: V)) (hW:Mx (b :: W)) (hf:∀ x,valAt (a :: V) x=valAt (b :: W) x) (hs:a.s=b.s) (hk:a.ks.map K.sv=b.ks.map K.sv):¬ a.e < b.e:=fun hlt=>by
 have ha:=hV.ne a List.mem_cons_self
 have e:=hf a.e
 rw [valAt_in (by rw [← hs]; exact ble_of ha.1) hlt,valAt_out (fun h=>List.lt_irrefl _ h.2)] at e
 obtain ⟨c,hc,h1,h2,h3⟩:=valAt_some (V:=V) (x:=a.e) (by rw [e]; exact map_sv_ne (hW.ne b List.mem_cons_self).2)
 cases V with
 | nil=>simp at hc
 | cons d V =>
  have hd:=hV.ne d (by simp)
  have hda:¬ d.s < a.e:=List.rel_of_pairwise_cons hV.pw List.mem_cons_self
  have hdc:¬ c.s < d.s:=by
   rcases List.mem_cons.1 hc with rfl | hc
   ·exact List.lt_irrefl _
   ·have:=List.rel_of_pairwise_cons hV.tail.pw hc
    exact fun h=>this (List.lt_trans h hd.1)
  have hae:a.e=d.s:=by
   refine bytes_eq_of (fun h=>h1 (bytes_trans h hdc)) hda
  have:valAt (d :: V) a.e=d.ks.map K.sv:=valAt_in (by rw [hae]; exact List.lt_irrefl _) (by rw [hae]; exact hd.1)
  exact hV.mx [] a d V rfl hae (by rw [hk,← e,this])
theorem mx_unique (V W:List Sp) (hV:Mx V) (hW:Mx W) (hf:∀ x,valAt V x=valAt W x):V.map bareS=W.map bareS:=by
 induction V generalizing W with
 | nil =>
  cases W with
  | nil=>rfl
  | cons b W =>
   have hb:=hW.ne b List.mem_cons_self
   have:=hf b.s
   rw [valAt_in (List.lt_irrefl _) hb.1,valAt_nil] at this
   exact absurd this.symm (map_sv_ne hb.2)
 | cons a V ih =>
  cases W with
  | nil =>
   have hb:=hV.ne a List.mem_cons_self
   have:=hf a.s
   rw [valAt_in (List.lt_irrefl _) hb.1,valAt_nil] at this
   exact absurd this (map_sv_ne hb.2)
  | cons b W =>
   have ha:=hV.ne a List.mem_cons_self
   have hb:=hW.ne b List.mem_cons_self
   have first:∀ {c:Sp} {U:List Sp},Mx (c :: U)→∀ {x},valAt (c :: U) x≠[]→¬ x < c.s:=by
    intro c U hU x hx
    obtain ⟨s,hs,h1,h2,_⟩:=valAt_some hx
    rcases List.mem_cons.1 hs with rfl | hs
    ·exact h1
    ·have h3:=List.rel_of_pairwise_cons hU.pw hs
     have h4:=(hU.ne c List.mem_cons_self).1
     intro h5
     exact h1 (bytes_trans (List.lt_trans h5 h4) h3)
   have hs:a.s=b.s:=by
    refine bytes_eq_of (first hW ?_) (first hV ?_)
    ·rw [← hf,valAt_in (List.lt_irrefl _) ha.1]; exact map_sv_ne ha.2
    ·rw [hf,valAt_in (List.lt_irrefl _) hb.1]; exact map_sv_ne hb.2
   have hk:a.ks.map K.sv=b.ks.map K.sv:=by
    have:=hf a.s
    rwa [valAt_in (List.lt_irrefl _) ha.1,hs,valAt_in (List.lt_irrefl _) hb.1] at this
   have he:a.e=b.e:=bytes_eq_of (mx_end hV hW hf hs hk) (mx_end hW hV (fun x=>(hf x).symm) hs.symm hk.symm)
   rw [List.map_cons,List.map_cons,bareS_eq hs he hk]
   congr 1
   refine ih W hV.tail hW.tail fun x => ?_
   by_cases hx:x < a.e
   ·rw [hV.after hx,hW.after (he ▸ hx)]
   ·have:=hf x
    rwa [valAt_out (fun h=>hx h.2),valAt_out (fun h=>hx (he ▸ h.2))] at this
def seenP (V:List Sp):List Sp:=V.filter fun s=>decide (s.ks≠[])
theorem mx_seen {G:List Sp} (hw:Wf G):Mx (seenP (Vw G)):=by
 have hv:=Vw_wf hw
 have hp:(Vw G).Pairwise fun a b=>¬ b.s < a.e:=by
  rw [List.pairwise_iff_getElem]
  intro i j hi hj hij
  have:=hv.2 i j hij hj
  rw [getElem!_pos (Vw G) i hi,getElem!_pos (Vw G) j hj] at this
  grind
 have hne:∀ s ∈ Vw G,s.s < s.e:=fun s hs=>by
  obtain ⟨i,hi,rfl⟩:=List.getElem_of_mem hs
  have:=hv.1 i hi
  rwa [getElem!_pos (Vw G) i hi] at this
 refine ⟨fun s hs => ?_,hp.filter _,fun l a b m e hab hk => ?_⟩
 ·have:=List.mem_filter.1 hs
  exact ⟨hne s this.1,of_decide_eq_true this.2⟩
 ·
  have hsub:∃ p,p+1 < (Vw G).length∧(Vw G)[p]! = a∧(Vw G)[p+1]! = b:=by
   have hma:a ∈ seenP (Vw G):=by rw [e]; simp
   have hmb:b ∈ seenP (Vw G):=by rw [e]; simp
   obtain ⟨i,hi,ei⟩:=List.getElem_of_mem (List.mem_filter.1 hma).1
   obtain ⟨j,hj,ej⟩:=List.getElem_of_mem (List.mem_filter.1 hmb).1
   have ha:=hne a (List.mem_filter.1 hma).1
   have hb:=hne b (List.mem_filter.1 hmb).1
   have hpi:=List.pairwise_iff_getElem.1 hp
   have hij:i < j:=by
    rcases Nat.lt_trichotomy i j with h | h | h
    ·exact h
    ·subst h
     rw [ei] at ej
     subst ej
     rw [hab] at ha
     exact absurd ha (List.lt_irrefl _)
    ·have:=hpi j i hj hi h
     rw [ei,ej] at this
     exfalso
     exact this (List.lt_trans ha (hab ▸ hb))
   refine ⟨i,by omega,by rw [getElem!_pos (Vw G) i hi]; exact ei,?_⟩
   rcases Nat.lt_or_ge (i+1) j with h | h
   ·exfalso
    have h1:=hpi i (i+1) hi (by omega) (by omega)
    have h2:=hpi (i+1) j (by omega) hj h
    have h3:=hne _ (List.getElem_mem (by omega:i+1 < (Vw G).length))
    rw [ei] at h1
    rw [ej,← hab] at h2
    exact h1 (bytes_trans h3 h2)
   ·obtain rfl:j=i+1:=by omega
    rw [getElem!_pos (Vw G) (i+1) hj]; exact ej
  obtain ⟨p,hp1,hpa,hpb⟩:=hsub
  rw [Vw_length] at hp1
  have hn:=run_end (G:=G) (show p < (sts G).length by omega)
  have h1:=stE_gt (G:=G) (show p < (sts G).length by omega)
  rw [Vw_at (by omega:p < (sts G).length)] at hpa
  rw [Vw_at hp1] at hpb
  have hs:=stE_succ hp1
  refine hn ⟨?_,?_,?_,?_⟩
  ·have:=(sts_mem hp1).1; omega
  ·rw [show stE G p - 1+1=(sts G)[p+1]! by omega]
   rw [← hpa,← hpb] at hab
   exact hab
  ·have hka:a.ks≠[]:=of_decide_eq_true (List.mem_filter.1 (show a ∈ seenP (Vw G) by rw [e]; simp)).2
   have:=run_same (G:=G) (p:=p) (j:=stE G p - 1) (by omega) (by omega) (by omega)
   intro h0
   rw [h0] at this
   rw [← hpa] at hka
   exact hka (by simpa using this.symm)
  ·have:=run_same (G:=G) (p:=p) (j:=stE G p - 1) (by omega) (by omega) (by omega)
   rw [this,show stE G p - 1+1=(sts G)[p+1]! by omega]
   rw [← hpa,← hpb] at hk
   exact hk
theorem valAt_at {V:List Sp} (hw:Wf V) {j:Nat} {x:Bytes} (hj:j < V.length) (h1:¬ x < V[j]!.s) (h2:x < V[j]!.e):valAt V x=V[j]!.ks.map K.sv:=by
 unfold valAt
 cases hf:V.find? (hasK x) with
 | none =>
  have:=List.find?_eq_none.1 hf V[j]! (by rw [getElem!_pos V j hj]; exact List.getElem_mem hj)
  unfold hasK at this
  rw [decide_eq_true_eq] at this
  exact absurd ⟨h1,h2⟩ this
 | some s =>
  have h3:=List.find?_some hf
  unfold hasK at h3
  rw [decide_eq_true_eq] at h3
  obtain ⟨i,hi,e⟩:=List.getElem_of_mem (List.mem_of_find?_eq_some hf)
  have hij:i=j:=by
   rcases Nat.lt_trichotomy i j with h | h | h
   ·have:=hw.2 i j h hj
    rw [getElem!_pos V i hi,e] at this
    exact absurd (bytes_trans h3.2 (by grind)) h1
   ·exact h
   ·have:=hw.2 j i h hi
    rw [getElem!_pos V i hi,e] at this
    exact absurd (bytes_trans h2 (by grind)) h3.1
  subst hij
  rw [getElem!_pos V i hi,e]
theorem valAt_none {V:List Sp} {x:Bytes} (h:∀ j,j < V.length→¬ (¬ x < V[j]!.s∧x < V[j]!.e)):valAt V x=[]:=by
 unfold valAt
 have:V.find? (hasK x)=none:=List.find?_eq_none.2 fun s hs=>by
  obtain ⟨j,hj,e⟩:=List.getElem_of_mem hs
  have:=h j hj
  rw [getElem!_pos V j hj,e] at this
  unfold hasK
  rw [decide_eq_true_eq]
  exact this
 rw [this]
theorem run_pt {G:List Sp} (hw:Wf G) {p:Nat} (hp:p < (sts G).length) {x:Bytes} (h1:¬ x < G[(sts G)[p]!]!.s) (h2:x < G[stE G p - 1]!.e):∃ j,(sts G)[p]! ≤ j∧j < stE G p∧¬ x < G[j]!.s∧x < G[j]!.e:=by
 have hg:=stE_gt hp
 have aux:∀ m,(sts G)[p]! + m < stE G p→(x < G[(sts G)[p]! + m]!.e)→∃ j,(sts G)[p]! ≤ j∧j < stE G p∧¬ x < G[j]!.s∧x < G[j]!.e:=by
  intro m
  induction m with
  | zero=>intro h3 h4; exact ⟨(sts G)[p]!,Nat.le_refl _,by omega,h1,h4⟩
  | succ m ih =>
   intro h3 h4
   by_cases h5:x < G[(sts G)[p]! + m]!.e
   ·exact ih (by omega) h5
   ·have hj:=runIn hp (j:=(sts G)[p]! + m) (by omega) (by omega)
    refine ⟨(sts G)[p]! + (m+1),by omega,h3,?_,h4⟩
    rw [show (sts G)[p]! + (m+1)=(sts G)[p]! + m+1 by omega,← hj.2.1]
    exact h5
 refine aux (stE G p - 1 - (sts G)[p]!) (by omega) ?_
 rw [show (sts G)[p]! + (stE G p - 1 - (sts G)[p]!)=stE G p - 1 by omega]
 exact h2
theorem valAt_Vw {G:List Sp} (hw:Wf G) (x:Bytes):valAt (Vw G) x=valAt G x:=by
 by_cases h:∃ p,p < (sts G).length∧¬ x < G[(sts G)[p]!]!.s∧x < G[stE G p - 1]!.e
 ·obtain ⟨p,hp,h1,h2⟩:=h
  obtain ⟨j,h3,h4,h5,h6⟩:=run_pt hw hp h1 h2
  have hv:=Vw_at hp
  have hg:=stE_gt hp
  rw [valAt_at (Vw_wf hw) (j:=p) (by rw [Vw_length]; exact hp) (by rw [hv]; exact h1) (by rw [hv]; exact h2),valAt_at hw (j:=j) (by omega) h5 h6,hv,run_same hp h3 h4]
 ·rw [valAt_none,valAt_none]
  ·intro j hj hh
   obtain ⟨p,hp,h3,h4⟩:=run_of hj
   have hg:=stE_gt hp
   refine h ⟨p,hp,fun h5 => ?_,?_⟩
   ·refine hh.1 (bytes_trans h5 ?_)
    rcases Nat.lt_or_ge (sts G)[p]! j with h6 | h6
    ·have a:=hw.2 _ _ h6 hj
     have b:=hw.1 _ (sts_mem hp).1
     exact fun h7=>by exact absurd (List.lt_trans h7 b) (by grind)
    ·rw [show (sts G)[p]! = j by omega]; exact List.lt_irrefl _
   ·have:=hw.ends (i:=j) (j:=stE G p - 1) (by omega) (by omega)
    exact bytes_trans hh.2 (by grind)
  ·intro j hj hh
   rw [Vw_length] at hj
   rw [Vw_at hj] at hh
   exact h ⟨j,hj,hh⟩
theorem valAt_seen {V:List Sp} (hw:Wf V) (x:Bytes):valAt (seenP V) x=valAt V x:=by
 by_cases h:∃ j,j < V.length∧¬ x < V[j]!.s∧x < V[j]!.e
 ·obtain ⟨j,hj,h1,h2⟩:=h
  rw [valAt_at hw hj h1 h2]
  unfold valAt
  cases hf:(seenP V).find? (hasK x) with
  | none =>
   simp only
   have hk:V[j]!.ks=[]:=Classical.byContradiction fun hk=>by
    have:=List.find?_eq_none.1 hf V[j]! (List.mem_filter.2 ⟨by rw [getElem!_pos V j hj]; exact List.getElem_mem hj,decide_eq_true hk⟩)
    unfold hasK at this
    rw [decide_eq_true_eq] at this
    exact this ⟨h1,h2⟩
   rw [hk]
   rfl
  | some s =>
   have h3:=List.find?_some hf
   unfold hasK at h3
   rw [decide_eq_true_eq] at h3
   have hm:=(List.mem_filter.1 (List.mem_of_find?_eq_some hf)).1
   obtain ⟨i,hi,e⟩:=List.getElem_of_mem hm
   have h4:=valAt_at hw hi (x:=x) (by rw [getElem!_pos V i hi,e]; exact h3.1) (by rw [getElem!_pos V i hi,e]; exact h3.2)
   rw [valAt_at hw hj h1 h2,getElem!_pos V i hi,e] at h4
   exact h4.symm
 ·rw [valAt_none (V:=V) fun j hj hh=>h ⟨j,hj,hh⟩]
  unfold valAt
  have:(seenP V).find? (hasK x)=none:=List.find?_eq_none.2 fun s hs=>by
   obtain ⟨j,hj,e⟩:=List.getElem_of_mem (List.mem_filter.1 hs).1
   unfold hasK
   rw [decide_eq_true_eq]
   intro hh
   exact h ⟨j,hj,by rw [getElem!_pos V j hj,e]; exact hh⟩
  rw [this]
theorem seen_unique {G H:List Sp} (hG:Wf G) (hH:Wf H) (h:∀ x,valAt G x=valAt H x):(seenP (Vw G)).map bareS=(seenP (Vw H)).map bareS :=
 mx_unique _ _ (mx_seen hG) (mx_seen hH) fun x=>by rw [valAt_seen (Vw_wf hG),valAt_seen (Vw_wf hH),valAt_Vw hG,valAt_Vw hH,h]
end Go.E
end
section
namespace Go.E
open Go Go.Sort Go.Proofs
def ptK (l:List Sp) (x:Bytes):List K:=l.flatMap fun s=>if hasK x s then s.ks else []
theorem hasK_iff {x:Bytes} {s:Sp}:hasK x s=true↔¬ x < s.s∧x < s.e:=by unfold hasK; rw [decide_eq_true_eq]
theorem has_cE {L:List Sp} (h:Wf L) {x:Bytes} {j:Nat} (hj:j < L.length):hasK x L[j]! = true↔cE L x=2 * j+1:=by
 have b0:bnd L (2 * j)=L[j]!.s:=by unfold bnd; rw [if_pos (by omega),show 2 * j / 2=j by omega]
 have b1:bnd L (2 * j+1)=L[j]!.e:=by unfold bnd; rw [if_neg (by omega),show (2 * j+1) / 2=j by omega]
 have c0:=lt_cE h (x:=x) (by omega:2 * j < 2 * L.length)
 have c1:=lt_cE h (x:=x) (by omega:2 * j+1 < 2 * L.length)
 rw [b0] at c0
 rw [b1] at c1
 rw [hasK_iff,← c0]
 constructor
 ·rintro ⟨h1,h2⟩
  have:¬ 2 * j+1 < cE L x:=fun h3=>c1.1 h3 h2
  omega
 ·intro h1
  refine ⟨by omega,Classical.byContradiction fun h2 => ?_⟩
  have:=c1.2 h2
  omega
theorem pt_level {L:List Sp} (h:Wf L) (x:Bytes):ptK L x=if cE L x % 2=1 then L[cE L x / 2]!.ks else []:=by
 obtain ⟨c,hc⟩:∃ c,c=cE L x:=⟨_,rfl⟩
 have hle:=cE_le L x
 rw [← hc] at hle ⊢
 have key:∀ (A:List Sp) (o:Nat),(∀ j,j < A.length→o+j < L.length∧A[j]! = L[o+j]!)→ptK A x=if c % 2=1∧o≤c / 2∧c / 2 < o+A.length then L[c / 2]!.ks else []:=by
  intro A
  induction A with
  | nil =>
   intro o _
   rw [if_neg (by simp only [List.length_nil]; omega)]
   rfl
  | cons a A ih =>
   intro o hA
   have h0:=hA 0 (by simp)
   have hx:a=L[o]! := by simpa using h0.2
   have ih:=ih (o+1) fun j hj=>by
    have:=hA (j+1) (by simp only [List.length_cons]; omega)
    rw [show o+(j+1)=o+1+j by omega] at this
    refine ⟨this.1,?_⟩
    rw [← this.2,getElem!_pos A j hj,getElem!_pos (a :: A) (j+1) (by simp only [List.length_cons]; omega)]
    rfl
   show (if hasK x a then a.ks else [])++ptK A x=_
   rw [ih,hx]
   have hc1:=has_cE h (x:=x) (j:=o) (by omega)
   rw [← hc] at hc1
   by_cases hco:c=2 * o+1
   ·rw [if_pos (hc1.2 hco),if_neg (by omega),if_pos (by simp only [List.length_cons]; omega),List.append_nil,show c / 2=o by omega]
   ·rw [if_neg (fun h=>hco (hc1.1 h)),List.nil_append]
    by_cases h5:c % 2=1∧o+1≤c / 2∧c / 2 < o+1+A.length
    ·rw [if_pos h5,if_pos (by simp only [List.length_cons]; omega)]
    ·rw [if_neg h5,if_neg (by simp only [List.length_cons]; omega)]
 have:=key L 0 fun j hj=>⟨by omega,by rw [Nat.zero_add]⟩
 rw [this]
 by_cases h5:c % 2=1
 ·rw [if_pos (by omega),if_pos h5]
 ·rw [if_neg (by omega),if_neg h5]
theorem ptK_append (a b:List Sp) (x:Bytes):ptK (a++b) x=ptK a x++ptK b x:=by unfold ptK; rw [List.flatMap_append]
theorem ptK_flatten (Lv:List (List Sp)) (x:Bytes):ptK Lv.flatten x=Lv.flatMap fun L=>ptK L x:=by
 induction Lv with
 | nil=>rfl
 | cons L Lv ih=>rw [List.flatten_cons,ptK_append,ih,List.flatMap_cons]
theorem range_flatMap {α β:Type} [Inhabited α] (l:List α) (f:α→List β):(List.range l.length).flatMap (fun i=>f l[i]!)=l.flatMap f:=by
 induction l with
 | nil=>rfl
 | cons a l ih =>
  rw [List.length_cons,List.range_succ_eq_map,List.flatMap_cons,List.flatMap_map,List.flatMap_cons,← ih]
  rfl
section
variable {Lv:List (List Sp)} {snap:Nat}
theorem fragK_cE (h:∀ L ∈ Lv,Wf L) (x:Bytes) (u:Nat) (hu:∀ i,i < Lv.length→cp (Lat Lv) (bndsP Lv.flatten) u i=cE (Lat Lv i) x):fragK Lv.length (Lat Lv) (bndsP Lv.flatten) u=ptK Lv.flatten x:=by
 rw [ptK_flatten,← range_flatMap]
 unfold fragK
 refine fm_congr fun i hi => ?_
 rw [List.mem_range] at hi
 rw [hu i hi]
 have:Wf Lv[i]! := by rw [getElem!_pos Lv i hi]; exact h _ (List.getElem_mem hi)
 rw [pt_level this]
 rfl
theorem fragK_pt (h:∀ L ∈ Lv,Wf L) {u:Nat} (h0:0 < u):fragK Lv.length (Lat Lv) (bndsP Lv.flatten) u=ptK Lv.flatten (bndsP Lv.flatten)[u - 1]! :=
 fragK_cE h _ u fun i _=>by unfold cp; rw [if_neg (by omega)]
theorem fragK_zero (h:∀ L ∈ Lv,Wf L):fragK Lv.length (Lat Lv) (bndsP Lv.flatten) 0=[]:=by
 unfold fragK
 refine List.flatMap_eq_nil_iff.2 fun i hi => ?_
 rw [if_neg (by unfold cp; simp)]
theorem cd_of (h:∀ L ∈ Lv,Wf L) (hc:∀ x,Cd (ptK Lv.flatten x)) (u:Nat):Cd (fragK Lv.length (Lat Lv) (bndsP Lv.flatten) u):=by
 rcases Nat.eq_zero_or_pos u with rfl | h0
 ·rw [fragK_zero h]; exact ⟨.nil,by simp⟩
 ·rw [fragK_pt h h0]; exact hc _
theorem Tf_nil:Tf snap []=[]:=by unfold Tf; simp
theorem valAt_GL (h:∀ L ∈ Lv,Wf L) (x:Bytes):valAt (GL snap Lv.length (Lat Lv) (bndsP Lv.flatten)) x=(Tf snap (ptK Lv.flatten x)).map K.sv:=by
 have hB:=bds_of h
 obtain ⟨B,hBe⟩:∃ B,B=bndsP Lv.flatten:=⟨_,rfl⟩
 have hf:=fragK_cE h x (uE B x) (by rw [← hBe]; rw [← hBe] at hB; exact fun i hi=>cp_uE hB hi x)
 rw [← hBe] at hB hf ⊢
 have hu:=uE_le B x
 cases hcv:cov Lv.length (Lat Lv) B (uE B x) with
 | true =>
  have hc:=cov_lt hB hu hcv
  obtain ⟨j,hj,ej⟩:=List.getElem_of_mem (mem_covs.2 ⟨hu,hcv⟩)
  have e':(covs Lv.length (Lat Lv) B)[j]? = some (uE B x):=by rw [List.getElem?_eq_getElem hj,ej]
  have hg:=GL_at (snap:=snap) e'
  have h1:=(lt_uE hB (key:=x) (j:=uE B x - 1) (by omega)).1 (by omega)
  have h2:x < B[uE B x]! := Classical.byContradiction fun h3=>by
   have:=(lt_uE hB (key:=x) (j:=uE B x) hc.2).2 h3
   omega
  rw [valAt_at (GL_wf hB) (j:=j) (by rw [GL_length]; exact hj) (by rw [hg]; exact h1) (by rw [hg]; exact h2),hg,← hf]
  rfl
 | false =>
  have h0:fragK Lv.length (Lat Lv) B (uE B x)=[]:=by
   unfold fragK
   refine List.flatMap_eq_nil_iff.2 fun i hi => ?_
   rw [if_neg fun h1 => ?_]
   rw [cov_iff.2 ⟨i,List.mem_range.1 hi,h1⟩] at hcv
   cases hcv
  rw [← hf,h0,Tf_nil,valAt_none fun j hj hh => ?_]
  ·rfl
  ·rw [GL_length] at hj
   have e:(covs Lv.length (Lat Lv) B)[j]? = some (covs Lv.length (Lat Lv) B)[j]:=List.getElem?_eq_getElem hj
   obtain ⟨u,hue⟩:∃ u,u=(covs Lv.length (Lat Lv) B)[j]:=⟨_,rfl⟩
   rw [← hue] at e
   have hm:=mem_covs.1 (List.mem_of_getElem? e)
   have hc:=cov_lt hB hm.1 hm.2
   rw [GL_at e] at hh
   have h1:=(lt_uE hB (key:=x) (j:=u - 1) (by omega)).2 hh.1
   have h2:¬ u < uE B x:=fun h3=>(lt_uE hB (key:=x) (j:=u) hc.2).1 h3 hh.2
   have:uE B x=u:=by omega
   rw [this,hm.2] at hcv
   cases hcv
end
end Go.E
end
