/- Parts of the proof: Xa, Va, Vb, Vc, Vd, Ve, Vf, Vg, Vh, Xb. -/
import Derived.Test.YtjcbeinpkafjiaaGreatQ09
import Derived.Test.YtjcbeinpkafjiaaGreatQ18
import Derived.Test.YtjcbeinpkafjiaaGreatQ19
import Derived.Test.YtjcbeinpkafjiaaGreatQ20
set_option linter.all false
set_option maxRecDepth 10000
section
namespace Go.E
open Go Go.Sort Go.Proofs Go.Proofs.Tryz
def tJ (P:Prop) (k:ae) (w:World):Prop:=∀ b w',bV w w'→(b=true→P)→k (.bool b) w'
theorem tJ.no {P:Prop} {k:ae} {w w':World} (h:tJ P k w) (x:bV w w'):k (.bool false) w':=h false w' x fun h=>by cases h
theorem tJ.yes {P:Prop} {k:ae} {w w':World} (h:tJ P k w) (x:bV w w') (p:P):k (.bool true) w':=h true w' x fun _=>p
theorem eu {α:Type} {P:α→Prop} {l:List α} {i:Nat} {x:α} (h:∀ y ∈ l.take i,P y) (hx:l[i]? = some x) (hp:P x):∀ y ∈ l.take (i+1),P y:=by
 rw [cj hx]
 intro y hy
 rcases aq.1 hy with hy | hy
 ·exact h y hy
 ·rw [aT.1 hy]; exact hp
def Cl (x:K):Prop:=x.suf.length≤2147483647∧x.val.length≤2147483647
def zT (x:Sp):Prop:=x.s.length≤2147483647∧x.e.length≤2147483647∧x.ks.length≤2147483647∧∀ y ∈ x.ks,Cl y
end Go.E
namespace Go.Proofs
open Go Go.E Go.Sort Go.Proofs.Tryz
section
variable {k:ae} {w:World}
theorem zU {x:K} (hk:tJ (Cl x) k w):aU prog 142 #[.agg #[.int .u64 x.tr,.string ⟨x.suf.toArray⟩,.string ⟨x.val.toArray⟩]] k w:=by
 refine aW [.tmp 2] func142 ?_
 by_cases h1:2147483647 < (x.suf.length:Int)
 ·refine dU @aA @h1 ?_
  exact hk.no (aK _)
 by_cases h2:2147483647 < (x.val.length:Int)
 ·refine dg @aA @h1 @h2 ?_
  exact hk.no (aK _)
 refine dg @aA @h1 @h2 ?_
 exact hk.yes (aK _) ⟨by omega,by omega⟩
theorem zV {v:Value} {l:List K} (hv:Sl KE 3 w v l) (hk:tJ (l.length≤2147483647∧∀ x ∈ l,Cl x) k w):aU prog 127 #[v] k w:=by
 obtain ⟨ka,kc,rfl⟩:=hv.form
 refine aW [.tmp 2] func127 ?_
 by_cases hz:2147483647 < (l.length:Int)
 ·refine bP @hz ?_
  exact hk.no (bV.refl _)
 refine bP @hz ?_
 refine bI (fun i:Nat=>[(2,.bool false),(8,.slice ka l.length kc),(8+1,.int .i64 l.length),(8+2,.int .i64 i)])
  (fun i w'=>i≤l.length∧bV w w'∧∀ x ∈ l.take i,Cl x) (fun i _=>l.length - i) 0 (by kernel_rfl) ?_ ⟨aM _,bV.refl _,by simp⟩ ?_
 ·exact bA
 rintro K2 e i w1 ⟨i2,i3,i4⟩ hK2
 rcases aH i l.length with hi | hi
 rotate_left
 ·have hi':¬ (i:Int) < l.length:=by omega
  obtain rfl:i=l.length:=by omega
  rw [ai] at i4
  refine bP @hi' ?_
  exact hk.yes i3 ⟨by omega,i4⟩
 have hi':(i:Int) < l.length:=by omega
 obtain ⟨g,f,c,hv',hc,hat⟩:=(hv.inc KE.mono i3.inc).at (by omega)
 obtain ⟨rfl,rfl⟩:=sEq hv'
 obtain ⟨x,hx⟩:=gEl hi
 obtain ⟨cs,_,hcs,hR⟩:=hat i x hx
 obtain ⟨rfl,htr⟩:=hR
 have h0:w1.cell? ⟨g,f+i * 3,none⟩=some (.int .u64 x.tr):=hcs 0 _ rfl
 have h1:w1.cell? ⟨g,f+i * 3+1,none⟩=some (.string ⟨x.suf.toArray⟩):=hcs 1 _ rfl
 have h2:w1.cell? ⟨g,f+i * 3+2,none⟩=some (.string ⟨x.val.toArray⟩):=hcs 2 _ rfl
 refine gW @hi' @h0 @h1 @h2 @aA ?_
 refine zU fun b w2 x2 hb => ?_
 have x3:=i3.trans (bV.trans (aK _) x2)
 cases b with
 | false =>
  refine aY ?_
  exact hk.no (x3)
 | true =>
  refine aY ?_
  refine hK2 _ _ (i+1) ?_ ⟨hi,x3,eu i4 hx (hb rfl)⟩ (by omega)
  exact bA
theorem zX {kv:Value} {x:Sp} (hv:Sl KE 3 w kv x.ks) (hk:tJ (zT x) k w):aU prog 93 #[.agg #[.string ⟨x.s.toArray⟩,.string ⟨x.e.toArray⟩,kv]] k w:=by
 obtain ⟨ka,kc,rfl⟩:=hv.form
 refine aW [.tmp 2] func93 ?_
 by_cases h1:2147483647 < (x.s.length:Int)
 ·refine dU @aA @h1 ?_
  exact hk.no (aK _)
 by_cases h2:2147483647 < (x.e.length:Int)
 ·refine dg @aA @h1 @h2 ?_
  exact hk.no (aK _)
 refine dg @aA @h1 @h2 ?_
 refine zV (hv.inc KE.mono (aK _).inc) fun b w2 x2 hb => ?_
 have x3:=(aK _).trans x2
 cases b with
 | false =>
  refine aY ?_
  exact hk.no x3
 | true =>
  refine aY ?_
  exact hk.yes x3 ⟨by omega,by omega,hb rfl⟩
theorem zY {v:Value} {l:List Sp} (hv:Sl jB 3 w v l) (hk:tJ (l.length≤2147483647∧∀ x ∈ l,zT x) k w):aU prog 55 #[v] k w:=by
 obtain ⟨ka,kc,rfl⟩:=hv.form
 refine aW [.tmp 2] func55 ?_
 by_cases hz:2147483647 < (l.length:Int)
 ·refine bP @hz ?_
  exact hk.no (bV.refl _)
 refine bP @hz ?_
 refine bI (fun i:Nat=>[(2,.bool false),(8,.slice ka l.length kc),(8+1,.int .i64 l.length),(8+2,.int .i64 i)])
  (fun i w'=>i≤l.length∧bV w w'∧∀ x ∈ l.take i,zT x) (fun i _=>l.length - i) 0 (by kernel_rfl) ?_ ⟨aM _,bV.refl _,by simp⟩ ?_
 ·exact bA
 rintro K2 e i w1 ⟨i2,i3,i4⟩ hK2
 rcases aH i l.length with hi | hi
 rotate_left
 ·have hi':¬ (i:Int) < l.length:=by omega
  obtain rfl:i=l.length:=by omega
  rw [ai] at i4
  refine bP @hi' ?_
  exact hk.yes i3 ⟨by omega,i4⟩
 have hi':(i:Int) < l.length:=by omega
 obtain ⟨g,f,c,hv',hc,hat⟩:=(hv.inc jB.mono i3.inc).at (by omega)
 obtain ⟨rfl,rfl⟩:=sEq hv'
 obtain ⟨x,hx⟩:=gEl hi
 obtain ⟨cs,_,hcs,hR⟩:=hat i x hx
 obtain ⟨kv,rfl,hkv⟩:=hR
 obtain ⟨kva,kvc,rfl⟩:=hkv.form
 have h0:w1.cell? ⟨g,f+i * 3,none⟩=some (.string ⟨x.s.toArray⟩):=hcs 0 _ rfl
 have h1:w1.cell? ⟨g,f+i * 3+1,none⟩=some (.string ⟨x.e.toArray⟩):=hcs 1 _ rfl
 have h2:w1.cell? ⟨g,f+i * 3+2,none⟩=some (.slice kva x.ks.length kvc):=hcs 2 _ rfl
 refine gW @hi' @h0 @h1 @h2 @aA ?_
 refine zX (hkv.inc KE.mono (aK _).inc) fun b w2 x2 hb => ?_
 have x3:=i3.trans (bV.trans (aK _) x2)
 cases b with
 | false =>
  refine aY ?_
  exact hk.no (x3)
 | true =>
  refine aY ?_
  refine hK2 _ _ (i+1) ?_ ⟨hi,x3,eu i4 hx (hb rfl)⟩ (by omega)
  exact bA
theorem zZ {v:Value} {l:List (List Sp)} (hv:Sl kO 1 w v l) (hk:tJ (l.length≤2147483647∧∀ x ∈ l,x.length≤2147483647∧∀ y ∈ x,zT y) k w):aU prog 13 #[v] k w:=by
 obtain ⟨ka,kc,rfl⟩:=hv.form
 refine aW [.tmp 2] func13 ?_
 by_cases hz:2147483647 < (l.length:Int)
 ·refine bP @hz ?_
  exact hk.no (bV.refl _)
 refine bP @hz ?_
 refine bI (fun i:Nat=>[(2,.bool false),(8,.slice ka l.length kc),(8+1,.int .i64 l.length),(8+2,.int .i64 i)])
  (fun i w'=>i≤l.length∧bV w w'∧∀ x ∈ l.take i,x.length≤2147483647∧∀ y ∈ x,zT y) (fun i _=>l.length - i) 0 (by kernel_rfl) ?_ ⟨aM _,bV.refl _,by simp⟩ ?_
 ·exact bA
 rintro K2 e i w1 ⟨i2,i3,i4⟩ hK2
 rcases aH i l.length with hi | hi
 rotate_left
 ·have hi':¬ (i:Int) < l.length:=by omega
  obtain rfl:i=l.length:=by omega
  rw [ai] at i4
  refine bP @hi' ?_
  exact hk.yes i3 ⟨by omega,i4⟩
 have hi':(i:Int) < l.length:=by omega
 obtain ⟨g,f,c,hv',hc,hat⟩:=(hv.inc kO.mono i3.inc).at (by omega)
 obtain ⟨rfl,rfl⟩:=sEq hv'
 obtain ⟨x,hx⟩:=gEl hi
 obtain ⟨cs,_,hcs,hR⟩:=hat i x hx
 obtain ⟨kv,rfl,hkv⟩:=hR
 obtain ⟨kva,kvc,rfl⟩:=hkv.form
 have h0:w1.cell? ⟨g,f+i * 1,none⟩=some (.slice kva x.length kvc):=hcs 0 _ rfl
 refine dU @hi' @h0 ?_
 refine zY hkv fun b w2 x2 hb => ?_
 have x3:=i3.trans x2
 cases b with
 | false =>
  refine aY ?_
  exact hk.no (x3)
 | true =>
  refine aY ?_
  refine hK2 _ _ (i+1) ?_ ⟨hi,x3,eu i4 hx (hb rfl)⟩ (by omega)
  exact bA
end
end Go.Proofs
end
section
namespace Go.E
open Go Go.Sort Go.Proofs
theorem nO {α β:Type} {l:List α} {f g:α→List β} (h:∀ a ∈ l,f a=g a):l.flatMap f=l.flatMap g:=by
 induction l with
 | nil=>rfl
 | cons x l ih=>rw [bW,bW,h x aR,ih fun a ha=>h a (aZ _ ha)]
theorem BO {α β:Type} {l:List α} {f g:α→Option β} (h:∀ a ∈ l,f a=g a):l.filterMap f=l.filterMap g:=by
 induction l with
 | nil=>rfl
 | cons x l ih=>rw [List.filterMap_cons,List.filterMap_cons,h x aR,ih fun a ha=>h a (aZ _ ha)]
section
variable {α:Type}
def ey (lt:α→α→Bool) (x:α) (l:List α):Nat→Nat
 | 0=>0
 | i+1=>match l[i]? with
  | some y=>if lt x y then ey lt x l i else i+1
  | none=>i+1
def kR (lt:α→α→Bool) (x:α) (l:List α):List α:=l.take (ey lt x l l.length)++x :: l.drop (ey lt x l l.length)
def iT (lt:α→α→Bool) (l:List α):List α:=l.foldl (fun a x=>kR lt x a) []
variable {lt:α→α→Bool}
theorem vN (x:α) (l:List α) (i:Nat):ey lt x l i≤i:=by
 induction i with
 | zero=>exact aD _
 | succ i ih =>
  unfold ey
  split
  ·split
   ·omega
   ·exact aD _
  ·exact aD _
theorem qU (x:α) (l:List α) {i:Nat} (hi:i≤l.length):(∀ j y,ey lt x l i≤j→j < i→l[j]? = some y→lt x y=true)∧∀ j y,ey lt x l i=j+1→l[j]? = some y→lt x y=false:=by
 induction i with
 | zero=>exact ⟨fun j y _ h=>by omega,fun j y h=>by simp [ey] at h⟩
 | succ i ih =>
  have ih:=ih (by omega)
  have hy:l[i]? = some l[i]:=aC (by omega)
  unfold ey
  rw [hy]
  simp only
  split
  ·rename_i hlt
   refine ⟨fun j y h1 h2 h3 => ?_,ih.2⟩
   rcases aH j i with h4 | h4
   ·exact ih.1 j y h1 h4 h3
   ·obtain rfl:j=i:=by omega
    rw [hy] at h3
    cases h3
    exact hlt
  ·rename_i hlt
   refine ⟨fun j y h1 h2 h3=>by omega,fun j y h1 h2 => ?_⟩
   obtain rfl:i=j:=by omega
   rw [hy] at h2
   cases h2
   simpa using hlt
theorem oF (x:α) (l:List α):(kR lt x l).Perm (x :: l):=by
 unfold kR
 refine List.perm_middle.trans ?_
 rw [List.take_append_drop]
theorem vO (x:α) (l:List α):(kR lt x l).length=l.length+1:=by
 simpa using (oF (lt:=lt) x l).length_eq
theorem qW (l a:List α):(l.foldl (fun a x=>kR lt x a) a).Perm (l++a):=by
 induction l generalizing a with
 | nil=>exact List.Perm.refl _
 | cons x l ih =>
  rw [List.foldl_cons]
  refine (ih _).trans ?_
  refine ((oF x a).append_left l).trans ?_
  exact List.perm_middle
theorem gq (l:List α):(iT lt l).Perm l:=by
 have:=qW (lt:=lt) l []
 rwa [bB] at this
theorem gS (l:List α):(iT lt l).length=l.length:=(gq l).length_eq
structure TotB (lt:α→α→Bool):Prop where
 asym:∀ a b,lt a b=true→lt b a=false
 trans:∀ a b c,lt b a=false→lt c b=false→lt c a=false
theorem vP (h:TotB lt) (x:α) {l:List α} (hl:l.Pairwise fun a b=>lt b a=false):(kR lt x l).Pairwise fun a b=>lt b a=false:=by
 have hs:=qU (lt:=lt) x l (aD _)
 have hle:=vN (lt:=lt) x l l.length
 unfold kR
 obtain ⟨j,hj⟩:∃ j,j=ey lt x l l.length:=⟨_,rfl⟩
 rw [← hj] at hs hle ⊢
 have hge:∀ y ∈ l.drop j,lt y x=false:=fun y hy=>by
  obtain ⟨i,hi,e⟩:=aj hy
  rw [List.getElem_drop] at e
  rw [List.length_drop] at hi
  exact h.asym _ _ (hs.1 (j+i) y (by omega) (by omega) (by rw [aC (by omega),e]))
 have hlt:∀ y ∈ l.take j,lt x y=false:=fun y hy=>by
  obtain ⟨i,hi,e⟩:=aj hy
  rw [List.getElem_take] at e
  rw [bH] at hi
  obtain ⟨m,rfl⟩:∃ m,j=m+1:=⟨j - 1,by omega⟩
  have h0:=hs.2 m l[m] rfl (aC (by omega))
  rcases aH i m with h1 | h1
  ·have:=bL.1 hl i m (by omega) (by omega) h1
   rw [e] at this
   exact h.trans _ _ _ this h0
  ·obtain rfl:i=m:=by omega
   rw [← e]; exact h0
 refine List.pairwise_append.2 ⟨hl.sublist (List.take_sublist _ _),List.pairwise_cons.2 ⟨hge,hl.sublist (List.drop_sublist _ _)⟩,fun a ha b hb => ?_⟩
 rcases aa.1 hb with rfl | hb
 ·exact hlt a ha
 ·have:=List.pairwise_append.1 (by rw [List.take_append_drop]; exact hl:(l.take j++l.drop j).Pairwise fun a b=>lt b a=false)
  exact this.2.2 a ha b hb
theorem nP (h:TotB lt) (l:List α):(iT lt l).Pairwise fun a b=>lt b a=false:=by
 have aux:∀ (l a:List α),a.Pairwise (fun a b=>lt b a=false)→(l.foldl (fun a x=>kR lt x a) a).Pairwise fun a b=>lt b a=false:=by
  intro l
  induction l with
  | nil=>exact fun a ha=>ha
  | cons x l ih=>exact fun a ha=>ih _ (vP h x ha)
 exact aux l [] .nil
end
def fa (a b:K):Bool:=if a.tr≠b.tr then decide (b.tr < a.tr) else if a.suf≠b.suf then decide (a.suf < b.suf) else decide (a.val < b.val)
theorem jM {a b:K}:fa b a=false↔b.tr < a.tr∨b.tr=a.tr∧(a.suf < b.suf∨a.suf=b.suf∧¬ b.val < a.val):=by
 unfold fa
 by_cases h:b.tr=a.tr
 ·rw [if_neg (by simpa using h)]
  by_cases h2:b.suf=a.suf
  ·rw [if_neg (by simpa using h2)]
   simp only [decide_eq_false_iff_not]
   constructor
   ·intro h3; exact .inr ⟨h,.inr ⟨h2.symm,h3⟩⟩
   ·rintro (h3 | ⟨_,h3 | ⟨_,h3⟩⟩)
    ·omega
    ·rw [h2] at h3; exact absurd h3 (bj _)
    ·exact h3
  ·rw [if_pos h2]
   simp only [decide_eq_false_iff_not]
   constructor
   ·intro h3
    rcases gJ a.suf b.suf with h4 | h4 | h4
    ·exact .inr ⟨h,.inl h4⟩
    ·exact absurd h4.symm h2
    ·exact absurd h4 h3
   ·rintro (h3 | ⟨_,h3 | ⟨h3,_⟩⟩)
    ·omega
    ·exact fk h3
    ·exact absurd h3.symm h2
 ·rw [if_pos h]
  simp only [decide_eq_false_iff_not]
  omega
theorem za:TotB fa where
 asym a b h:=by
  rw [jM]
  have:¬ fa a b=false:=by rw [h]; simp
  rw [jM] at this
  rcases cg b.tr a.tr with h1 | h1 | h1
  ·exact .inl h1
  ·refine .inr ⟨h1,?_⟩
   rcases gJ a.suf b.suf with h2 | h2 | h2
   ·exact .inl h2
   ·refine .inr ⟨h2,fun h3=>this (.inr ⟨h1.symm,.inr ⟨h2.symm,fk h3⟩⟩)⟩
   ·exact absurd (.inr ⟨h1.symm,.inl h2⟩) this
  ·exact absurd (.inl h1) this
 trans a b c h1 h2:=by
  rw [jM] at h1 h2 ⊢
  rcases h1 with h1 | ⟨h1,h1'⟩
  ·rcases h2 with h2 | ⟨h2,_⟩
   ·exact .inl (by omega)
   ·exact .inl (by omega)
  ·rcases h2 with h2 | ⟨h2,h2'⟩
   ·exact .inl (by omega)
   ·refine .inr ⟨by omega,?_⟩
    rcases h1' with h3 | ⟨h3,h4⟩
    ·rcases h2' with h5 | ⟨h5,_⟩
     ·exact .inl (List.lt_trans h3 h5)
     ·rw [← h5]; exact .inl h3
    ·rcases h2' with h5 | ⟨h5,h6⟩
     ·rw [h3]; exact .inl h5
     ·exact .inr ⟨h3.trans h5,fun h7=>h4 (cT h6 h7)⟩
def dC (ks:List K):List K:=iT fa ks
theorem dO (ks:List K):(dC ks).Perm ks:=gq ks
theorem pA (ks:List K):(dC ks).Pairwise fun a b=>b.tr≤a.tr:=by
 refine (nP za ks).imp fun {a b} h => ?_
 rcases jM.1 h with h | ⟨h,_⟩ <;> omega
def B7 (x y:Bytes):Bool:=decide (¬ y < x)
def iv (b:List Bytes) (x:Bytes):List Bytes:=if b[ey B7 x b b.length]? = some x then b else kR B7 x b
def bN (l:List Sp):List Bytes:=l.foldl (fun b s=>iv (iv b s.s) s.e) []
theorem sF {b:List Bytes} (hb:b.Pairwise (· < ·)) (x:Bytes):(iv b x).Pairwise (· < ·)∧∀ y,y ∈ iv b x↔y=x∨y ∈ b:=by
 have hs:=qU (lt:=B7) x b (aD _)
 have hle:=vN (lt:=B7) x b b.length
 unfold iv
 split
 ·rename_i he
  exact ⟨hb,fun y=>⟨.inr,fun h=>h.elim (fun h=>h ▸ aL he) id⟩⟩
 ·rename_i he
  refine ⟨?_,fun y=>by rw [(oF x b).mem_iff,aa]⟩
  unfold kR
  obtain ⟨j,hj⟩:∃ j,j=ey B7 x b b.length:=⟨_,rfl⟩
  rw [← hj] at hs hle he ⊢
  have hp:=bL.1 hb
  have hge:∀ y ∈ b.drop j,x < y:=fun y hy=>by
   obtain ⟨i,hi,e⟩:=aj hy
   rw [List.getElem_drop] at e
   rw [List.length_drop] at hi
   have h1:=hs.1 (j+i) y (by omega) (by omega) (by rw [aC (by omega),e])
   have h1:¬ y < x:=of_decide_eq_true h1
   rcases gJ x y with h2 | h2 | h2
   ·exact h2
   ·exfalso
    have hj0:j < b.length:=by omega
    have h3:=hs.1 j b[j] (aD _) hj0 (aC hj0)
    have h3:¬ b[j] < x:=of_decide_eq_true h3
    rcases ay i with rfl | hi0
    ·exact he (by rw [aC hj0,h2,← e]; simp)
    ·have:=hp j (j+i) hj0 (by omega) (by omega)
     rw [e,← h2] at this
     exact h3 this
   ·exact absurd h2 h1
  have hlt:∀ y ∈ b.take j,y < x:=fun y hy=>by
   obtain ⟨i,hi,e⟩:=aj hy
   rw [List.getElem_take] at e
   rw [bH] at hi
   obtain ⟨m,rfl⟩:∃ m,j=m+1:=⟨j - 1,by omega⟩
   have h0:=hs.2 m b[m] rfl (aC (by omega))
   have h0:b[m] < x:=by
    have:=of_decide_eq_false h0
    exact Classical.byContradiction fun h=>this h
   rcases aH i m with h1 | h1
   ·have:=hp i m (by omega) (by omega) h1
    rw [e] at this
    exact List.lt_trans this h0
   ·obtain rfl:i=m:=by omega
    rw [← e]; exact h0
  refine List.pairwise_append.2 ⟨hb.sublist (List.take_sublist _ _),List.pairwise_cons.2 ⟨hge,hb.sublist (List.drop_sublist _ _)⟩,fun a ha c hc => ?_⟩
  rcases aa.1 hc with rfl | hc
  ·exact hlt a ha
  ·exact List.lt_trans (hlt a ha) (hge c hc)
theorem mN (l:List Sp):(bN l).Pairwise (· < ·)∧∀ y,y ∈ bN l↔∃ s ∈ l,y=s.s∨y=s.e:=by
 have aux:∀ (l:List Sp) (b:List Bytes),b.Pairwise (· < ·)→(l.foldl (fun b s=>iv (iv b s.s) s.e) b).Pairwise (· < ·)∧∀ y,y ∈ l.foldl (fun b s=>iv (iv b s.s) s.e) b↔y ∈ b∨∃ s ∈ l,y=s.s∨y=s.e:=by
  intro l
  induction l with
  | nil=>exact fun b hb=>⟨hb,fun y=>by simp⟩
  | cons s l ih =>
   intro b hb
   have h1:=sF hb s.s
   have h2:=sF h1.1 s.e
   obtain ⟨a,c⟩:=ih _ h2.1
   refine ⟨a,fun y => ?_⟩
   rw [List.foldl_cons,c,h2.2,h1.2]
   constructor
   ·rintro ((h | h | h) | ⟨t,ht,h⟩)
    ·exact .inr ⟨s,aR,.inr h⟩
    ·exact .inr ⟨s,aR,.inl h⟩
    ·exact .inl h
    ·exact .inr ⟨t,aZ _ ht,h⟩
   ·rintro (h | ⟨t,ht,h⟩)
    ·exact .inl (.inr (.inr h))
    ·rcases aa.1 ht with rfl | ht
     ·rcases h with h | h
      ·exact .inl (.inr (.inl h))
      ·exact .inl (.inl h)
     ·exact .inr ⟨t,ht,h⟩
 obtain ⟨a,c⟩:=aux l [] .nil
 exact ⟨a,fun y=>by show y ∈ l.foldl _ []↔_; rw [c]; simp⟩
theorem yF {L:List Sp} {x:Bytes}:(∃ p,p < 2 * L.length∧cn L p=x)↔∃ s ∈ L,x=s.s∨x=s.e:=by
 constructor
 ·rintro ⟨p,hp,rfl⟩
  refine ⟨L[p / 2]!,by rw [aI L (p / 2) (by omega)]; exact aS _,?_⟩
  unfold cn
  split
  ·exact .inl rfl
  ·exact .inr rfl
 ·rintro ⟨s,hs,h⟩
  obtain ⟨j,hj,rfl⟩:=aj hs
  rcases h with rfl | rfl
  ·exact ⟨2 * j,by omega,by unfold cn; rw [if_pos (by omega),show 2 * j / 2=j by omega,aI L j hj]⟩
  ·exact ⟨2 * j+1,by omega,by unfold cn; rw [if_neg (by omega),show (2 * j+1) / 2=j by omega,aI L j hj]⟩
def eN (Lv:List (List Sp)):Nat→List Sp:=fun i=>Lv[i]!
theorem jU {Lv:List (List Sp)} (h:∀ L ∈ Lv,Wf L):Bds Lv.length (eN Lv) (bN Lv.flatten) where
 wf i hi:=by unfold eN; rw [aI Lv i hi]; exact h _ (aS hi)
 sorted:=(mN _).1
 mem x:=by
  rw [(mN _).2]
  constructor
  ·rintro ⟨s,hs,h1⟩
   obtain ⟨L,hL,hs⟩:=dG.1 hs
   obtain ⟨i,hi,rfl⟩:=aj hL
   exact ⟨i,hi,yF.2 ⟨s,by unfold eN; rw [aI Lv i hi]; exact hs,h1⟩⟩
  ·rintro ⟨i,hi,h1⟩
   obtain ⟨s,hs,h1⟩:=yF.1 h1
   unfold eN at hs
   rw [aI Lv i hi] at hs
   exact ⟨s,dG.2 ⟨_,aS hi,hs⟩,h1⟩
def cP (l:List Sp) (s e:Bytes):List K:=l.flatMap fun x=>if ¬ s < x.s∧¬ x.e < e then x.ks else []
def fL (l:List Sp) (b:List Bytes) (i:Nat):List Sp:=if cP l b[i]! b[i+1]! = [] then [] else [⟨b[i]!,b[i+1]!,dC (cP l b[i]! b[i+1]!)⟩]
def dP (l:List Sp):List Sp:=(List.range ((bN l).length - 1)).flatMap (fL l (bN l))
section
variable {n:Nat} {L:Nat→List Sp} {B:List Bytes}
theorem zd (h:Bds n L B) {i u:Nat} (hi:i < n) (hu:u+1 < B.length) {j:Nat} (hj:j < (L i).length):(¬ B[u]! < (L i)[j]!.s∧¬ (L i)[j]!.e < B[u+1]!)↔cp L B (u+1) i=2 * j+1:=by
 have b0:cn (L i) (2 * j)=(L i)[j]!.s:=by unfold cn; rw [if_pos (by omega),show 2 * j / 2=j by omega]
 have b1:cn (L i) (2 * j+1)=(L i)[j]!.e:=by unfold cn; rw [if_neg (by omega),show (2 * j+1) / 2=j by omega]
 obtain ⟨x,hx,e0⟩:=h.at (p:=2 * j) hi (by omega)
 obtain ⟨y,hy,e1⟩:=h.at (p:=2 * j+1) hi (by omega)
 have c0:=gK h (t:=u+1) (by omega) hi (by omega:2 * j < 2 * (L i).length) hx e0
 have c1:=gK h (t:=u+1) (by omega) hi (by omega:2 * j+1 < 2 * (L i).length) hy e1
 rw [← b0,← b1,← e0,← e1,h.lt (by omega) hx,h.lt hy (by omega)]
 omega
theorem vQ (h:Bds n L B) {i u:Nat} (hi:i < n) (hu:u+1 < B.length):cP (L i) B[u]! B[u+1]! = if cp L B (u+1) i % 2=1 then (L i)[cp L B (u+1) i / 2]!.ks else []:=by
 obtain ⟨c,hc⟩:∃ c,c=cp L B (u+1) i:=⟨_,rfl⟩
 have hle:=ir (L:=L) (B:=B) (u+1) i
 rw [← hc] at hle ⊢
 have key:∀ (A:List Sp) (o:Nat),(∀ j,j < A.length→o+j < (L i).length∧A[j]! = (L i)[o+j]!)→cP A B[u]! B[u+1]! = if c % 2=1∧o≤c / 2∧c / 2 < o+A.length then (L i)[c / 2]!.ks else []:=by
  intro A
  induction A with
  | nil =>
   intro o _
   rw [if_neg (by simp only [List.length_nil]; omega)]
   rfl
  | cons x A ih =>
   intro o hA
   have h0:=hA 0 (by simp)
   have hx:x=(L i)[o]! := by simpa using h0.2
   have ih:=ih (o+1) fun j hj=>by
    have:=hA (j+1) (by simp only [aX]; omega)
    rw [show o+(j+1)=o+1+j by omega] at this
    refine ⟨this.1,?_⟩
    rw [← this.2,aI A j hj,aI (x :: A) (j+1) (by simp only [aX]; omega)]
    rfl
   show (if ¬ B[u]! < x.s∧¬ x.e < B[u+1]! then x.ks else [])++cP A B[u]! B[u+1]! = _
   rw [ih,hx]
   have hc1:=zd h hi hu (j:=o) (by omega)
   rw [← hc] at hc1
   by_cases hco:c=2 * o+1
   ·rw [if_pos (hc1.2 hco),if_neg (by omega),if_pos (by simp only [aX]; omega),bB,show c / 2=o by omega]
   ·rw [if_neg (fun h=>hco (hc1.1 h)),List.nil_append]
    by_cases h5:c % 2=1∧o+1≤c / 2∧c / 2 < o+1+A.length
    ·rw [if_pos h5,if_pos (by simp only [aX]; omega)]
    ·rw [if_neg h5,if_neg (by simp only [aX]; omega)]
 have:=key (L i) 0 fun j hj=>⟨by omega,by rw [Nat.zero_add]⟩
 rw [this]
 by_cases h5:c % 2=1
 ·rw [if_pos (by omega),if_pos h5]
 ·rw [if_neg (by omega),if_neg h5]
end
theorem ze {Lv:List (List Sp)} (h:∀ L ∈ Lv,Wf L) {u:Nat} (hu:u+1 < (bN Lv.flatten).length):cP Lv.flatten (bN Lv.flatten)[u]! (bN Lv.flatten)[u+1]! = cW Lv.length (eN Lv) (bN Lv.flatten) (u+1):=by
 have hB:=jU h
 obtain ⟨B,hBe⟩:∃ B,B=bN Lv.flatten:=⟨_,rfl⟩
 rw [← hBe] at hB hu ⊢
 have e:cW Lv.length (eN Lv) B (u+1)=(List.range Lv.length).flatMap fun i=>cP (eN Lv i) B[u]! B[u+1]! := by
  unfold cW
  refine nO fun i hi => ?_
  rw [List.mem_range] at hi
  exact (vQ hB hi hu).symm
 rw [e]
 have key:∀ (A:List (List Sp)) (o:Nat),(∀ j,j < A.length→A[j]! = eN Lv (o+j))→cP A.flatten B[u]! B[u+1]! = (List.range A.length).flatMap fun i=>cP (eN Lv (o+i)) B[u]! B[u+1]! := by
  intro A
  induction A with
  | nil=>intro o _; rfl
  | cons x A ih =>
   intro o hA
   have h0:=hA 0 (by simp)
   have hx:x=eN Lv o:=by simpa using h0
   rw [List.flatten_cons,aX,List.range_succ_eq_map,bW,List.flatMap_map]
   have:cP (x++A.flatten) B[u]! B[u+1]! = cP x B[u]! B[u+1]! ++ cP A.flatten B[u]! B[u+1]! := by unfold cP; rw [cA]
   rw [this,ih (o+1) fun j hj=>by
    have:=hA (j+1) (by simp only [aX]; omega)
    rw [show o+(j+1)=o+1+j by omega] at this
    rw [← this,aI A j hj,aI (x :: A) (j+1) (by simp only [aX]; omega)]
    rfl,hx]
   congr 1
   refine nO fun i _ => ?_
   rw [show o+1+i=o+(i+1) by omega]
 have:=key Lv 0 fun j _=>by rw [Nat.zero_add]; rfl
 rw [this]
 refine nO fun i _ => ?_
 rw [Nat.zero_add]
theorem nQ {Lv:List (List Sp)} (h:∀ L ∈ Lv,Wf L) (hf:∀ L ∈ Lv,∀ s ∈ L,s.ks≠[]):dP Lv.flatten=(bn Lv.length (eN Lv) (bN Lv.flatten)).map fun u=>⟨(bN Lv.flatten)[u - 1]!,(bN Lv.flatten)[u]!,dC (cW Lv.length (eN Lv) (bN Lv.flatten) u)⟩:=by
 have hB:=jU h
 obtain ⟨B,hBe⟩:∃ B,B=bN Lv.flatten:=⟨_,rfl⟩
 have hc:=fun {u:Nat} (hu:u+1 < B.length)=>(by rw [hBe] at hu ⊢; exact ze h hu:cP Lv.flatten B[u]! B[u+1]! = cW Lv.length (eN Lv) B (u+1))
 unfold dP
 rw [← hBe] at hB ⊢
 have hk:∀ u,u+1 < B.length→(cP Lv.flatten B[u]! B[u+1]! = []↔lC Lv.length (eN Lv) B (u+1)=false):=fun u hu=>by
  rw [hc hu]
  have:lC Lv.length (eN Lv) B (u+1)=true↔cW Lv.length (eN Lv) B (u+1)≠[]:=by
   rw [lT]
   constructor
   ·rintro ⟨i,hi,h1⟩ h0
    unfold cW at h0
    have:=List.flatMap_eq_nil_iff.1 h0 i (List.mem_range.2 hi)
    rw [if_pos h1] at this
    have hl:cp (eN Lv) B (u+1) i / 2 < (eN Lv i).length:=by have:=ir (L:=eN Lv) (B:=B) (u+1) i; omega
    rw [aI (eN Lv i) _ hl] at this
    refine hf _ ?_ _ (aS hl) this
    unfold eN
    rw [aI Lv i hi]
    exact aS hi
   ·intro h0
    refine Classical.byContradiction fun hn=>h0 ?_
    unfold cW
    refine List.flatMap_eq_nil_iff.2 fun i hi => ?_
    rw [if_neg fun h1=>hn ⟨i,List.mem_range.1 hi,h1⟩]
  rw [← Bool.not_eq_true,this,Decidable.not_not]
 have hcov:bn Lv.length (eN Lv) B=(List.range (B.length - 1)).filterMap fun u=>if lC Lv.length (eN Lv) B (u+1) then some (u+1) else none:=by
  have e0:lC Lv.length (eN Lv) B 0=false:=by
   cases h0:lC Lv.length (eN Lv) B 0 with
   | false=>rfl
   | true=>exact absurd (n9 hB (aM _) h0).1 (cx 0)
  have e1:lC Lv.length (eN Lv) B B.length=false:=by
   cases h0:lC Lv.length (eN Lv) B B.length with
   | false=>rfl
   | true=>exact absurd (n9 hB (aD _) h0).2 (cx _)
  unfold bn
  cases hl:B.length with
  | zero=>simp [e0]
  | succ m =>
   rw [hl] at e1
   rw [List.range_succ,List.filter_append,List.filter_cons_of_neg (by rw [e1]; simp),List.filter_nil,bB,List.range_succ_eq_map,List.filter_cons_of_neg (by rw [e0]; simp),Nat.add_sub_cancel]
   rw [List.filter_map,← List.filterMap_eq_filter,List.map_filterMap]
   refine BO fun u _ => ?_
   simp only [Function.comp,Option.guard]
   split <;> rfl
 rw [hcov,List.map_filterMap]
 have hr:∀ m,m≤B.length - 1→(List.range m).flatMap (fL Lv.flatten B)=(List.range m).filterMap fun x=>(if lC Lv.length (eN Lv) B (x+1) then some (x+1) else none).map fun u=>(⟨B[u - 1]!,B[u]!,dC (cW Lv.length (eN Lv) B u)⟩:Sp):=by
  intro m
  induction m with
  | zero=>intro _; rfl
  | succ m ih =>
   intro hm
   rw [List.range_succ,cA,List.filterMap_append,ih (by omega)]
   congr 1
   have hu:m+1 < B.length:=by omega
   have:=hk m hu
   rw [bW,List.flatMap_nil,bB]
   unfold fL
   cases hcv:lC Lv.length (eN Lv) B (m+1) with
   | false=>rw [if_pos (this.2 hcv)]; simp [hcv]
   | true =>
    rw [if_neg (fun h=>by rw [this.1 h] at hcv; cases hcv),hc hu]
    simp [hcv]
 exact hr _ (aD _)
end Go.E
end
section
namespace Go.E
open Go Go.Sort Go.Proofs
abbrev SV:=Bytes × Bytes
def ez (st:List SV) (k:K):List SV :=
 if ag k.tr=19 then [] else st.filter (fun x=>decide (x.1≠k.suf))++if ag k.tr=21 then [(k.suf,k.val)] else []
def gu (a b:SV):Bool:=decide (a.1 < b.1)
def iw (st:List SV) (ks:List K):List SV:=iT gu (ks.reverse.foldl ez st)
theorem xG (l:List K) (hd:l.Pairwise fun x y=>x.tr≤y.tr) (hc:l.Pairwise fun x y=>x.suf=y.suf→x.tr≠y.tr) (hk:∀ x ∈ l,ag x.tr=19∨ag x.tr=20∨ag x.tr=21) :
    (l.foldl ez []).Pairwise (fun a b=>a.1≠b.1)∧∀ p,p ∈ l.foldl ez []↔∃ x ∈ l,ag x.tr=21∧p=x.sv∧∀ y ∈ l,(ag y.tr=19→y.tr < x.tr)∧(ag y.tr≠19→y.suf=x.suf→y.tr≤x.tr):=by
 have aux:∀ (m l:List K),(m++l).Pairwise (fun x y=>x.tr≤y.tr)→(m++l).Pairwise (fun x y=>x.suf=y.suf→x.tr≠y.tr)→(∀ x ∈ m++l,ag x.tr=19∨ag x.tr=20∨ag x.tr=21)→∀ st:List SV,
     st.Pairwise (fun a b=>a.1≠b.1)→(∀ p,p ∈ st↔∃ x ∈ m,ag x.tr=21∧p=x.sv∧∀ y ∈ m,(ag y.tr=19→y.tr < x.tr)∧(ag y.tr≠19→y.suf=x.suf→y.tr≤x.tr)) →
     (l.foldl ez st).Pairwise (fun a b=>a.1≠b.1)∧∀ p,p ∈ l.foldl ez st↔∃ x ∈ m++l,ag x.tr=21∧p=x.sv∧∀ y ∈ m++l,(ag y.tr=19→y.tr < x.tr)∧(ag y.tr≠19→y.suf=x.suf→y.tr≤x.tr):=by
  intro m l
  induction l generalizing m with
  | nil=>intro _ _ _ st h1 h2; rw [bB]; exact ⟨h1,h2⟩
  | cons k l ih =>
   intro hd hc hk st h1 h2
   rw [List.foldl_cons]
   have ih:=ih (m++[k]) (by simpa using hd) (by simpa using hc) (by simpa using hk) (ez st k)
   rw [eE,List.singleton_append] at ih
   have hkm:∀ y ∈ m,y.tr≤k.tr∧(y.suf=k.suf→y.tr≠k.tr):=fun y hy=>⟨(List.pairwise_append.1 hd).2.2 y hy k aR,(List.pairwise_append.1 hc).2.2 y hy k aR⟩
   have hkk:=hk k (by simp)
   refine ih ?_ fun p => ?_
   ·unfold ez
    split
    ·exact .nil
    ·refine List.pairwise_append.2 ⟨h1.filter _,by split <;> simp,fun a ha b hb => ?_⟩
     have:=(bC.1 ha).2
     simp only [decide_eq_true_eq] at this
     split at hb
     ·rw [aT.1 hb]; exact this
     ·simp at hb
   ·unfold ez
    split
    ·rename_i h19
     simp only [List.not_mem_nil,false_iff]
     rintro ⟨x,hx,hx1,hx2,hx3⟩
     have h4:=(hx3 k (by simp)).1 h19
     rcases aq.1 hx with hx | hx
     ·have:=(hkm x hx).1; omega
     ·rw [aT.1 hx] at h4; omega
    ·rename_i h19
     rw [aq,bC,h2]
     constructor
     ·rintro (⟨⟨x,hx,hx1,rfl,hx3⟩,hne⟩ | h)
      ·simp only [decide_eq_true_eq] at hne
       refine ⟨x,List.mem_append_left _ hx,hx1,rfl,fun y hy => ?_⟩
       rcases aq.1 hy with hy | hy
       ·exact hx3 y hy
       ·rw [aT.1 hy]
        exact ⟨fun h=>absurd h h19,fun _ h=>absurd h.symm hne⟩
      ·split at h
       ·rename_i h21
        rw [aT.1 h]
        refine ⟨k,by simp,h21,rfl,fun y hy => ?_⟩
        rcases aq.1 hy with hy | hy
        ·have:=hkm y hy
         refine ⟨fun h9 => ?_,fun _ _=>this.1⟩
         rcases aH y.tr k.tr with h5 | h5
         ·exact h5
         ·have:y.tr=k.tr:=by omega
          rw [this] at h9; omega
        ·rw [aT.1 hy]
         exact ⟨fun h=>absurd h h19,fun _ _=>aD _⟩
       ·simp at h
     ·rintro ⟨x,hx,hx1,rfl,hx3⟩
      rcases aq.1 hx with hx | hx
      ·refine .inl ⟨⟨x,hx,hx1,rfl,fun y hy=>hx3 y (List.mem_append_left _ hy)⟩,?_⟩
       simp only [decide_eq_true_eq]
       intro he
       have h5:=(hx3 k (by simp)).2 h19 he.symm
       have h6:=hkm x hx
       exact h6.2 he (by omega)
      ·rw [aT.1 hx] at hx1 ⊢
       rw [if_pos hx1]
       exact .inr (aT.2 rfl)
 have:=aux [] l (by simpa using hd) (by simpa using hc) (by simpa using hk) [] .nil (by simp)
 simpa using this
theorem vR {a b:List SV} (ha:a.Pairwise fun x y=>x.1 < y.1) (hb:b.Pairwise fun x y=>x.1 < y.1) (h:∀ x,x ∈ a↔x ∈ b):a=b:=by
 induction a generalizing b with
 | nil =>
  cases b with
  | nil=>rfl
  | cons y b=>exact absurd ((h y).2 aR) (by simp)
 | cons x a ih =>
  cases b with
  | nil=>exact absurd ((h x).1 aR) (by simp)
  | cons y b =>
   have ha':=fun {z}=>bb (a':=z) ha
   have hb':=fun {z}=>bb (a':=z) hb
   have hxy:x=y:=by
    rcases aa.1 ((h x).1 aR) with e | h1
    ·exact e
    ·rcases aa.1 ((h y).2 aR) with e | h2
     ·exact e.symm
     ·exact absurd (ha' h2) (fk (hb' h1))
   subst hxy
   congr 1
   refine ih ha.of_cons hb.of_cons fun z => ?_
   have:=h z
   rw [aa,aa] at this
   constructor
   ·intro hz
    rcases this.1 (.inr hz) with e | h1
    ·subst e; exact absurd (ha' hz) (bj _)
    ·exact h1
   ·intro hz
    rcases this.2 (.inr hz) with e | h1
    ·subst e; exact absurd (hb' hz) (bj _)
    ·exact h1
theorem xH:TotB gu where
 asym a b h:=by
  have h:a.1 < b.1:=of_decide_eq_true h
  exact aF (fk h)
 trans a b c h1 h2:=by
  have h1:¬ b.1 < a.1:=of_decide_eq_false h1
  have h2:¬ c.1 < b.1:=of_decide_eq_false h2
  exact aF fun h3=>h1 (cT h2 h3)
theorem qX {l:List SV} (h:l.Pairwise fun a b=>a.1≠b.1):(iT gu l).Pairwise fun a b=>a.1 < b.1:=by
 have h1:=nP xH l
 have h2:(iT gu l).Pairwise fun a b=>a.1≠b.1:=(List.Perm.pairwise_iff (fun h=>Ne.symm h) (gq l)).2 h
 refine (h1.and h2).imp fun {a b} h => ?_
 have h3:¬ b.1 < a.1:=of_decide_eq_false h.1
 rcases gJ a.1 b.1 with h4 | h4 | h4
 ·exact h4
 ·exact absurd h4 h.2
 ·exact absurd h4 h3
def iK (snap:Nat) (ks:List K):List K:=ks.filter fun x=>eT snap x.tr
theorem BP {snap:Nat} {ks:List K} (h:Cd ks):iw [] (iK snap (dC ks))=(Tf snap ks).map K.sv:=by
 have hm:∀ x,x ∈ (iK snap (dC ks)).reverse↔x ∈ ks∧eT snap x.tr=true:=fun x=>by rw [List.mem_reverse]; unfold iK; rw [bC,(dO ks).mem_iff]
 have hp:(dC ks).Pairwise fun x y=>x.suf=y.suf→x.tr≠y.tr:=(List.Perm.pairwise_iff (fun {x y} h e e2=>h e.symm e2.symm) (dO ks)).2 h.dist
 have fs:=xG (iK snap (dC ks)).reverse (by rw [List.pairwise_reverse]; exact (pA ks).filter _) (by rw [List.pairwise_reverse]; exact (hp.filter _).imp fun {x y} h e e2=>h e.symm e2.symm) fun x hx=>h.kind x ((hm x).1 hx).1
 refine vR (qX fs.1) (by rw [List.pairwise_map]; exact rq h) fun p => ?_
 unfold iw
 rw [(gq _).mem_iff,fs.2,cM]
 constructor
 ·rintro ⟨x,hx,h1,rfl,h2⟩
  refine ⟨x,mH.2 ⟨((hm x).1 hx).1,je.2 ⟨((hm x).1 hx).2,h1,fun y hy hv=>h2 y ((hm y).2 ⟨hy,hv⟩)⟩⟩,rfl⟩
 ·rintro ⟨x,hx,rfl⟩
  obtain ⟨h1,h2⟩:=mH.1 hx
  obtain ⟨h2,h3,h4⟩:=je.1 h2
  exact ⟨x,(hm x).2 ⟨h1,h2⟩,h3,rfl,fun y hy=>h4 y ((hm y).1 hy).1 ((hm y).1 hy).2⟩
def qY (p:SV):K:=⟨0,p.1,p.2⟩
theorem vS (l:List SV):(l.map qY).map K.sv=l:=by
 rw [eF]
 exact List.map_id'' (fun _=>rfl) l
theorem zf {l m:List SV} (h:l.map qY=m.map qY):l=m:=by rw [← vS l,h,vS]
def vT (x:Sp):Sp:=⟨x.s,x.e,(iw [] x.ks).map qY⟩
def vV (out:List Sp) (x:Sp):List Sp:=match out.getLast? with
 | some y=>if y.e=x.s∧x.ks≠[]∧y.ks=x.ks then out.dropLast++[⟨y.s,x.e,y.ks⟩] else out++[x]
 | none=>[x]
def DV (lo hi:Option Bytes) (x:Sp):Bool:=(match lo with | some l=>decide (l < x.e) | none=>true) && match hi with | some h=>decide (x.s < h) | none=>true
def nR (l:List Sp) (snap:Nat):List Sp:=(dP l).map fun x=>⟨x.s,x.e,iK snap x.ks⟩
def BQ (l:List Sp) (snap:Nat) (lo hi:Option Bytes):List Sp:=(((nR l snap).filter (DV lo hi)).map vT).foldl vV []
def fT (x:Sp):Sp:=⟨x.s,x.e,(x.ks.map K.sv).map qY⟩
def B8 (G:List Sp) (m:Nat):List Sp:=(List.range ((List.range m).filter (lD K.sv G)).length).map fun p =>
 ⟨G[((List.range m).filter (lD K.sv G))[p]!]!.s,G[(if p+1 < ((List.range m).filter (lD K.sv G)).length then ((List.range m).filter (lD K.sv G))[p+1]! else m) - 1]!.e,G[((List.range m).filter (lD K.sv G))[p]!]!.ks⟩
theorem BR (G:List Sp):B8 G G.length=Vw K.sv G:=rfl
theorem zg (G:List Sp) {m:Nat} (hm:m≤G.length):((G.take m).map fT).foldl vV []=(B8 G m).map fT∧(0 < m→∃ j,((List.range m).filter (lD K.sv G)).getLast? = some j∧j < m∧G[j]!.ks.map K.sv=G[m - 1]!.ks.map K.sv):=by
 induction m with
 | zero=>exact ⟨rfl,fun h=>absurd h (cx 0)⟩
 | succ m ih =>
  obtain ⟨ih1,ih2⟩:=ih (by omega)
  have hG:G.take (m+1)=G.take m++[G[m]!]:=by rw [List.take_add_one,aC (by omega:m < G.length),aI G m (by omega)]; rfl
  rw [hG,cF,List.foldl_append,ih1,List.map_singleton,List.foldl_cons,List.foldl_nil]
  obtain ⟨S,hS⟩:∃ S,S=(List.range m).filter (lD K.sv G):=⟨_,rfl⟩
  have hS1:(List.range (m+1)).filter (lD K.sv G)=if lD K.sv G m then S++[m] else S:=by
   rw [List.range_succ,List.filter_append,← hS]
   cases h:lD K.sv G m with
   | true=>rw [List.filter_cons_of_pos h]; rfl
   | false=>rw [List.filter_cons_of_neg (by rw [h]; simp)]; simp
  have hVm:B8 G m=(List.range S.length).map fun p=>⟨G[S[p]!]!.s,G[(if p+1 < S.length then S[p+1]! else m) - 1]!.e,G[S[p]!]!.ks⟩:=by unfold B8; rw [← hS]
  rcases ay m with rfl | hm0
  ·have h0:lD K.sv G 0=true:=aQ (.inl rfl)
   rw [h0] at hS1
   have hS0:S=[]:=by rw [hS]; rfl
   rw [if_pos rfl,hS0,List.nil_append] at hS1
   refine ⟨?_,fun _=>⟨0,by rw [hS1]; rfl,by omega,rfl⟩⟩
   rw [hVm,hS0]
   show vV [] (fT G[0]!)=_
   unfold B8
   rw [hS1]
   rfl
  ·obtain ⟨j,hj,hjm,hje⟩:=ih2 hm0
   rw [← hS] at hj
   obtain ⟨S',rfl⟩:∃ S',S=S'++[j]:=List.getLast?_eq_some_iff.1 hj
   have hlast:B8 G m=((List.range S'.length).map fun p=>(⟨G[(S'++[j])[p]!]!.s,G[(S'++[j])[p+1]! - 1]!.e,G[(S'++[j])[p]!]!.ks⟩:Sp))++[⟨G[j]!.s,G[m - 1]!.e,G[j]!.ks⟩]:=by
    rw [hVm,aO,ak,List.range_succ,cF]
    congr 1
    ·refine List.map_congr_left fun p hp => ?_
     rw [List.mem_range] at hp
     rw [if_pos (by omega)]
    ·simp only [List.map_cons,List.map_nil]
     rw [if_neg (by omega)]
     have:(S'++[j])[S'.length]! = j:=by rw [aI (S'++[j]) S'.length (by simp)]; simp
     rw [this]
   have hjoin:lD K.sv G m=decide (¬ (G[m - 1]!.e=G[m]!.s∧G[m]!.ks≠[]∧G[m - 1]!.ks.map K.sv=G[m]!.ks.map K.sv)):=by
    unfold lD
    refine decide_eq_decide.2 ?_
    have hh:eo K.sv G (m - 1)↔m - 1+1 < G.length∧G[m - 1]!.e=G[m - 1+1]!.s∧G[m - 1]!.ks≠[]∧G[m - 1]!.ks.map K.sv=G[m - 1+1]!.ks.map K.sv:=Iff.rfl
    rw [hh,show m - 1+1=m by omega]
    constructor
    ·rintro (h | h)
     ·omega
     ·rintro ⟨h1,h2,h3⟩
      exact h ⟨by omega,h1,fun h4=>h2 (by rw [h4] at h3; simpa using h3.symm),h3⟩
    ·intro h
     refine .inr fun ⟨_,h1,h2,h3⟩=>h ⟨h1,fun h4=>h2 (by rw [h4] at h3; simpa using h3),h3⟩
   rw [hlast,cF,List.map_singleton]
   unfold vV
   rw [List.getLast?_append,List.getLast?_singleton]
   simp only [Option.or_some,Option.some_or]
   have hb1:((fT G[m]!).ks≠[])↔G[m]!.ks≠[]:=by unfold fT; simp
   have hb2:((fT (⟨G[j]!.s,G[m - 1]!.e,G[j]!.ks⟩:Sp)).ks=(fT G[m]!).ks)↔G[m - 1]!.ks.map K.sv=G[m]!.ks.map K.sv:=by
    rw [← hje]
    constructor
    ·intro h; exact zf h
    ·intro h; exact congrArg (List.map qY) h
   by_cases hc:G[m - 1]!.e=G[m]!.s∧G[m]!.ks≠[]∧G[m - 1]!.ks.map K.sv=G[m]!.ks.map K.sv
   ·rw [if_pos (by refine ⟨hc.1,hb1.2 hc.2.1,hb2.2 hc.2.2⟩)]
    have hst:lD K.sv G m=false:=by rw [hjoin]; exact aF fun h=>h hc
    rw [hst,if_neg (by simp)] at hS1
    refine ⟨?_,fun _=>⟨j,by rw [hS1]; exact hj,by omega,by rw [show m+1 - 1=m by omega,hje,hc.2.2]⟩⟩
    rw [List.dropLast_concat]
    unfold B8
    rw [hS1,aO,ak,List.range_succ,cF,cF]
    congr 1
    ·rw [eF,eF]
     refine List.map_congr_left fun p hp => ?_
     rw [List.mem_range] at hp
     simp only [Function.comp]
     rw [if_pos (by omega)]
    ·simp only [List.map_cons,List.map_nil]
     rw [if_neg (by omega)]
     have:(S'++[j])[S'.length]! = j:=by rw [aI (S'++[j]) S'.length (by simp)]; simp
     rw [this,show m+1 - 1=m by omega]
     rfl
   ·rw [if_neg (by rintro ⟨h1,h2,h3⟩; exact hc ⟨h1,hb1.1 h2,hb2.1 h3⟩)]
    have hst:lD K.sv G m=true:=by rw [hjoin]; exact aQ hc
    rw [hst,if_pos rfl] at hS1
    refine ⟨?_,fun _=>⟨m,by rw [hS1]; simp,by omega,by rw [show m+1 - 1=m by omega]⟩⟩
    rw [show (List.map fT (List.map (fun p=>(⟨G[(S'++[j])[p]!]!.s,G[(S'++[j])[p+1]! - 1]!.e,G[(S'++[j])[p]!]!.ks⟩:Sp)) (List.range S'.length))++[fT ⟨G[j]!.s,G[m - 1]!.e,G[j]!.ks⟩])=(B8 G m).map fT by rw [hlast,cF]; rfl]
    have hV1:B8 G (m+1)=(List.range (S'++[j]++[m]).length).map fun p=>(⟨G[(S'++[j]++[m])[p]!]!.s,G[(if p+1 < (S'++[j]++[m]).length then (S'++[j]++[m])[p+1]! else m+1) - 1]!.e,G[(S'++[j]++[m])[p]!]!.ks⟩:Sp):=by unfold B8; rw [hS1]
    have hl1:(S'++[j]++[m]).length=(S'++[j]).length+1:=by simp
    rw [hV1,hVm,hl1,List.range_succ,cF,cF]
    congr 1
    ·rw [eF,eF]
     refine List.map_congr_left fun p hp => ?_
     rw [List.mem_range] at hp
     simp only [Function.comp]
     have e1:(S'++[j]++[m])[p]! = (S'++[j])[p]! := by rw [aI (S'++[j]++[m]) p (by simp only [aO,ak] at hp ⊢; omega),aI (S'++[j]) p hp,List.getElem_append_left hp]
     rw [e1,if_pos (show p+1 < (S'++[j]).length+1 by omega)]
     by_cases hp1:p+1 < (S'++[j]).length
     ·have e2:(S'++[j]++[m])[p+1]! = (S'++[j])[p+1]! := by rw [aI (S'++[j]++[m]) (p+1) (by simp only [aO,ak] at hp1 ⊢; omega),aI (S'++[j]) (p+1) hp1,List.getElem_append_left hp1]
      rw [if_pos hp1,e2]
     ·have hpe:p+1=(S'++[j]).length:=by omega
      have e2:(S'++[j]++[m])[p+1]! = m:=by rw [hpe,aI (S'++[j]++[m]) _ (by simp only [aO,ak]; omega)]; simp
      rw [if_neg hp1,e2]
    ·simp only [List.map_cons,List.map_nil]
     rw [if_neg (by omega)]
     have:(S'++[j]++[m])[(S'++[j]).length]! = m:=by rw [aI (S'++[j]++[m]) _ (by simp only [aO,ak]; omega)]; simp
     rw [this,show m+1 - 1=m by omega]
theorem Cm (G:List Sp):(G.map fT).foldl vV []=(Vw K.sv G).map fT:=by
 have:=(zg G (aD G.length)).1
 rwa [ai,BR] at this
end Go.E
end
section
namespace Go.E
open Go Go.Sort Go.Proofs
theorem xI {α:Type} (P:α→Bool) (G:List α) (a e:Nat) (h:∀ j (hj:j < G.length),P G[j]=true↔a≤j∧j < e):G.filter P=(G.take e).drop a:=by
 induction G generalizing a e with
 | nil=>simp
 | cons x G ih =>
  have h0:=h 0 (by simp)
  have hs:=fun j (hj:j < G.length)=>h (j+1) (by simp only [aX]; omega)
  simp only [List.getElem_cons_zero] at h0
  simp only [List.getElem_cons_succ] at hs
  cases e with
  | zero =>
   rw [List.filter_cons_of_neg (by rw [h0]; omega),ih 0 0 fun j hj=>by rw [hs j hj]; omega]
   simp
  | succ e =>
   cases a with
   | zero=>rw [List.filter_cons_of_pos (by rw [h0]; omega),ih 0 e fun j hj=>by rw [hs j hj]; omega]; simp
   | succ a=>rw [List.filter_cons_of_neg (by rw [h0]; omega),ih a e fun j hj=>by rw [hs j hj]; omega]; simp
theorem Cn {lo hi:Option Bytes} {x:Sp}:DV lo hi x=true↔(∀ l,lo=some l→l < x.e)∧∀ h,hi=some h→x.s < h:=by
 unfold DV
 rw [az]
 cases lo <;> cases hi <;> simp
theorem zh {G:List Sp} (hw:Wf G) (lo hi:Option Bytes):G.filter (DV lo hi)=GB G lo hi:=by
 unfold GB
 refine xI _ _ _ _ fun j hj => ?_
 rw [Cn,oq hw hj,ou hw hj,aI G j hj]
theorem vW {Lv:List (List Sp)} {snap:Nat} (h:∀ L ∈ Lv,Wf L) (hf:∀ L ∈ Lv,∀ s ∈ L,s.ks≠[]) (hc:∀ u,Cd (cW Lv.length (eN Lv) (bN Lv.flatten) u)) :
    (nR Lv.flatten snap).map vT=(GL (Tf snap) Lv.length (eN Lv) (bN Lv.flatten)).map fT:=by
 unfold nR GL
 rw [nQ h hf,eF,eF,eF]
 refine List.map_congr_left fun u _ => ?_
 simp only [Function.comp,vT,fT,kK]
 rw [BP (hc u)]
theorem Cp {Lv:List (List Sp)} {snap:Nat} (h:∀ L ∈ Lv,Wf L) (hf:∀ L ∈ Lv,∀ s ∈ L,s.ks≠[]) (hc:∀ u,Cd (cW Lv.length (eN Lv) (bN Lv.flatten) u)) (lo hi:Option Bytes) :
    BQ Lv.flatten snap lo hi=(Vw K.sv (GB (GL (Tf snap) Lv.length (eN Lv) (bN Lv.flatten)) lo hi)).map fT:=by
 have e1:((nR Lv.flatten snap).filter (DV lo hi)).map vT=((nR Lv.flatten snap).map vT).filter (DV lo hi):=by
  rw [List.filter_map]
  rfl
 have e2:((GL (Tf snap) Lv.length (eN Lv) (bN Lv.flatten)).map fT).filter (DV lo hi)=((GL (Tf snap) Lv.length (eN Lv) (bN Lv.flatten)).filter (DV lo hi)).map fT:=by
  rw [List.filter_map]
  rfl
 unfold BQ
 rw [e1,vW h hf hc,e2,zh (uj (jU h)),Cm]
theorem DW {β:Type} [DecidableEq β] {π:K→β} {G:List Sp} (hw:Wf G):Wf (Vw π G):=by
 refine ⟨fun i hi => ?_,fun i j hij hj => ?_⟩
 ·rw [ct] at hi
  rw [gN hi]
  have h1:=cv hi
  have a:=hw.1 _ (fD hi).1
  have b:=hw.ends (i:=(cI π G)[i]!) (j:=fO π G i - 1) (by omega) (by omega)
  simp only
  exact bw a (by grind)
 ·rw [ct] at hj
  rw [gN hj,gN (by omega:i < (cI π G).length)]
  have h1:=cv (show i < (cI π G).length by omega)
  have h2:=wx hij hj
  exact hw.2 _ _ (by omega) (fD hj).1
end Go.E
end
section
set_option linter.unusedSectionVars false
namespace Go.E
open Go Go.Sort Go.Proofs
def iy (x:Bytes) (s:Sp):Bool:=decide (¬ x < s.s∧x < s.e)
def jN {β:Type} (π:K→β) (V:List Sp) (x:Bytes):List β:=match V.find? (iy x) with
 | some s=>s.ks.map π
 | none=>[]
structure Mx {β:Type} (π:K→β) (V:List Sp):Prop where
 ne:∀ s ∈ V,s.s < s.e∧s.ks≠[]
 pw:V.Pairwise fun a b=>¬ b.s < a.e
 mx:∀ l a b m,V=l++a :: b :: m→a.e=b.s→a.ks.map π≠b.ks.map π
section
variable {β:Type} [DecidableEq β] {π:K→β}
theorem Mx.tail {a:Sp} {V:List Sp} (h:Mx π (a :: V)):Mx π V:=⟨fun s hs=>h.ne s (aZ _ hs),h.pw.of_cons,fun l x b m e=>h.mx (a :: l) x b m (by rw [e]; rfl)⟩
theorem vX {V:List Sp} {x:Bytes} (h:∀ s ∈ V,x < s.s):jN π V x=[]:=by
 unfold jN
 have:V.find? (iy x)=none:=List.find?_eq_none.2 fun s hs=>by
  unfold iy
  rw [decide_eq_true_eq]
  exact fun hh=>hh.1 (h s hs)
 rw [this]
theorem Mx.after {a:Sp} {V:List Sp} (h:Mx π (a :: V)) {x:Bytes} (hx:x < a.e):jN π V x=[] :=
 vX fun _ hs=>bw hx (bb h.pw hs)
theorem nV {V:List Sp} (hw:Wf V) {j:Nat} {x:Bytes} (hj:j < V.length) (h1:¬ x < V[j]!.s) (h2:x < V[j]!.e):jN π V x=V[j]!.ks.map π:=by
 unfold jN
 cases hf:V.find? (iy x) with
 | none =>
  have:=List.find?_eq_none.1 hf V[j]! (by rw [aI V j hj]; exact aS hj)
  unfold iy at this
  rw [decide_eq_true_eq] at this
  exact absurd ⟨h1,h2⟩ this
 | some s =>
  have h3:=List.find?_some hf
  unfold iy at h3
  rw [decide_eq_true_eq] at h3
  obtain ⟨i,hi,e⟩:=aj (List.mem_of_find?_eq_some hf)
  have hij:i=j:=by
   rcases cg i j with h | h | h
   ·have:=hw.2 i j h hj
    rw [aI V i hi,e] at this
    exact absurd (bw h3.2 (by grind)) h1
   ·exact h
   ·have:=hw.2 j i h hi
    rw [aI V i hi,e] at this
    exact absurd (bw h2 (by grind)) h3.1
  subst hij
  rw [aI V i hi,e]
theorem kC {V:List Sp} {x:Bytes} (h:∀ j,j < V.length→¬ (¬ x < V[j]!.s∧x < V[j]!.e)):jN π V x=[]:=by
 unfold jN
 have:V.find? (iy x)=none:=List.find?_eq_none.2 fun s hs=>by
  obtain ⟨j,hj,e⟩:=aj hs
  have:=h j hj
  rw [aI V j hj,e] at this
  unfold iy
  rw [decide_eq_true_eq]
  exact this
 rw [this]
theorem Ea {G:List Sp} (hw:Wf G) {p:Nat} (hp:p < (cI π G).length) {x:Bytes} (h1:¬ x < G[(cI π G)[p]!]!.s) (h2:x < G[fO π G p - 1]!.e):∃ j,(cI π G)[p]! ≤ j∧j < fO π G p∧¬ x < G[j]!.s∧x < G[j]!.e:=by
 have hg:=cv hp
 have aux:∀ m,(cI π G)[p]! + m < fO π G p→(x < G[(cI π G)[p]! + m]!.e)→∃ j,(cI π G)[p]! ≤ j∧j < fO π G p∧¬ x < G[j]!.s∧x < G[j]!.e:=by
  intro m
  induction m with
  | zero=>intro h3 h4; exact ⟨(cI π G)[p]!,aD _,by omega,h1,h4⟩
  | succ m ih =>
   intro h3 h4
   by_cases h5:x < G[(cI π G)[p]! + m]!.e
   ·exact ih (by omega) h5
   ·have hj:=oe hp (j:=(cI π G)[p]! + m) (by omega) (by omega)
    refine ⟨(cI π G)[p]! + (m+1),by omega,h3,?_,h4⟩
    rw [show (cI π G)[p]! + (m+1)=(cI π G)[p]! + m+1 by omega,← hj.2.1]
    exact h5
 refine aux (fO π G p - 1 - (cI π G)[p]!) (by omega) ?_
 rw [show (cI π G)[p]! + (fO π G p - 1 - (cI π G)[p]!)=fO π G p - 1 by omega]
 exact h2
theorem BT {G:List Sp} (hw:Wf G) (x:Bytes):jN π (Vw π G) x=jN π G x:=by
 by_cases h:∃ p,p < (cI π G).length∧¬ x < G[(cI π G)[p]!]!.s∧x < G[fO π G p - 1]!.e
 ·obtain ⟨p,hp,h1,h2⟩:=h
  obtain ⟨j,h3,h4,h5,h6⟩:=Ea hw hp h1 h2
  have hv:=gN hp
  have hg:=cv hp
  rw [nV (DW hw) (j:=p) (by rw [ct]; exact hp) (by rw [hv]; exact h1) (by rw [hv]; exact h2),nV hw (j:=j) (by omega) h5 h6,hv,qK hp h3 h4]
 ·rw [kC,kC]
  ·intro j hj hh
   obtain ⟨p,hp,h3,h4⟩:=wW (π:=π) hj
   have hg:=cv hp
   refine h ⟨p,hp,fun h5 => ?_,?_⟩
   ·refine hh.1 (bw h5 ?_)
    rcases aH (cI π G)[p]! j with h6 | h6
    ·have a:=hw.2 _ _ h6 hj
     have b:=hw.1 _ (fD hp).1
     exact fun h7=>by exact absurd (List.lt_trans h7 b) (by grind)
    ·rw [show (cI π G)[p]! = j by omega]; exact bj _
   ·have:=hw.ends (i:=j) (j:=fO π G p - 1) (by omega) (by omega)
    exact bw hh.2 (by grind)
  ·intro j hj hh
   rw [ct] at hj
   rw [gN hj] at hh
   exact h ⟨j,hj,hh⟩
end
end Go.E
end
section
namespace Go.E
open Go Go.Sort Go.Proofs
def lZ (l:List Sp) (x:Bytes):List K:=l.flatMap fun s=>if iy x s then s.ks else []
theorem BU {x:Bytes} {s:Sp}:iy x s=true↔¬ x < s.s∧x < s.e:=by unfold iy; rw [decide_eq_true_eq]
theorem Eb {L:List Sp} (h:Wf L) {x:Bytes} {j:Nat} (hj:j < L.length):iy x L[j]! = true↔cE L x=2 * j+1:=by
 have b0:cn L (2 * j)=L[j]!.s:=by unfold cn; rw [if_pos (by omega),show 2 * j / 2=j by omega]
 have b1:cn L (2 * j+1)=L[j]!.e:=by unfold cn; rw [if_neg (by omega),show (2 * j+1) / 2=j by omega]
 have c0:=rp h (x:=x) (by omega:2 * j < 2 * L.length)
 have c1:=rp h (x:=x) (by omega:2 * j+1 < 2 * L.length)
 rw [b0] at c0
 rw [b1] at c1
 rw [BU,← c0]
 constructor
 ·rintro ⟨h1,h2⟩
  have:¬ 2 * j+1 < cE L x:=fun h3=>c1.1 h3 h2
  omega
 ·intro h1
  refine ⟨by omega,Classical.byContradiction fun h2 => ?_⟩
  have:=c1.2 h2
  omega
theorem BV {L:List Sp} (h:Wf L) (x:Bytes):lZ L x=if cE L x % 2=1 then L[cE L x / 2]!.ks else []:=by
 obtain ⟨c,hc⟩:∃ c,c=cE L x:=⟨_,rfl⟩
 have hle:=xt L x
 rw [← hc] at hle ⊢
 have key:∀ (A:List Sp) (o:Nat),(∀ j,j < A.length→o+j < L.length∧A[j]! = L[o+j]!)→lZ A x=if c % 2=1∧o≤c / 2∧c / 2 < o+A.length then L[c / 2]!.ks else []:=by
  intro A
  induction A with
  | nil =>
   intro o _
   rw [if_neg (by simp only [List.length_nil]; omega)]
   rfl
  | cons a A ih =>
   intro o hA
   have h0:=hA 0 (by simp)
   have hx:a=L[o]! := by simpa using h0.2
   have ih:=ih (o+1) fun j hj=>by
    have:=hA (j+1) (by simp only [aX]; omega)
    rw [show o+(j+1)=o+1+j by omega] at this
    refine ⟨this.1,?_⟩
    rw [← this.2,aI A j hj,aI (a :: A) (j+1) (by simp only [aX]; omega)]
    rfl
   show (if iy x a then a.ks else [])++lZ A x=_
   rw [ih,hx]
   have hc1:=Eb h (x:=x) (j:=o) (by omega)
   rw [← hc] at hc1
   by_cases hco:c=2 * o+1
   ·rw [if_pos (hc1.2 hco),if_neg (by omega),if_pos (by simp only [aX]; omega),bB,show c / 2=o by omega]
   ·rw [if_neg (fun h=>hco (hc1.1 h)),List.nil_append]
    by_cases h5:c % 2=1∧o+1≤c / 2∧c / 2 < o+1+A.length
    ·rw [if_pos h5,if_pos (by simp only [aX]; omega)]
    ·rw [if_neg h5,if_neg (by simp only [aX]; omega)]
 have:=key L 0 fun j hj=>⟨by omega,by rw [Nat.zero_add]⟩
 rw [this]
 by_cases h5:c % 2=1
 ·rw [if_pos (by omega),if_pos h5]
 ·rw [if_neg (by omega),if_neg h5]
theorem qZ (a b:List Sp) (x:Bytes):lZ (a++b) x=lZ a x++lZ b x:=by unfold lZ; rw [cA]
theorem vY (Lv:List (List Sp)) (x:Bytes):lZ Lv.flatten x=Lv.flatMap fun L=>lZ L x:=by
 induction Lv with
 | nil=>rfl
 | cons L Lv ih=>rw [List.flatten_cons,qZ,ih,bW]
theorem rM {α β:Type} [Inhabited α] (l:List α) (f:α→List β):(List.range l.length).flatMap (fun i=>f l[i]!)=l.flatMap f:=by
 induction l with
 | nil=>rfl
 | cons a l ih =>
  rw [aX,List.range_succ_eq_map,bW,List.flatMap_map,bW,← ih]
  rfl
section
variable {Lv:List (List Sp)} {snap:Nat}
theorem nW (h:∀ L ∈ Lv,Wf L) (x:Bytes) (u:Nat) (hu:∀ i,i < Lv.length→cp (eN Lv) (bN Lv.flatten) u i=cE (eN Lv i) x):cW Lv.length (eN Lv) (bN Lv.flatten) u=lZ Lv.flatten x:=by
 rw [vY,← rM]
 unfold cW
 refine nO fun i hi => ?_
 rw [List.mem_range] at hi
 rw [hu i hi]
 have:Wf Lv[i]! := by rw [aI Lv i hi]; exact h _ (aS hi)
 rw [BV this]
 rfl
theorem zi {β:Type} [DecidableEq β] {π:K→β} {F:List K→List K} (hF0:F []=[]) (h:∀ L ∈ Lv,Wf L) (x:Bytes):jN π (GL F Lv.length (eN Lv) (bN Lv.flatten)) x=(F (lZ Lv.flatten x)).map π:=by
 have hB:=jU h
 obtain ⟨B,hBe⟩:∃ B,B=bN Lv.flatten:=⟨_,rfl⟩
 have hf:=nW h x (uE B x) (by rw [← hBe]; rw [← hBe] at hB; exact fun i hi=>uk hB hi x)
 rw [← hBe] at hB hf ⊢
 have hu:=lE B x
 cases hcv:lC Lv.length (eN Lv) B (uE B x) with
 | true =>
  have hc:=n9 hB hu hcv
  obtain ⟨j,hj,ej⟩:=aj (cX.2 ⟨hu,hcv⟩)
  have e':(bn Lv.length (eN Lv) B)[j]? = some (uE B x):=by rw [aC hj,ej]
  have hg:=jh (F:=F) e'
  have h1:=(kM hB (key:=x) (j:=uE B x - 1) (by omega)).1 (by omega)
  have h2:x < B[uE B x]! := Classical.byContradiction fun h3=>by
   have:=(kM hB (key:=x) (j:=uE B x) hc.2).2 h3
   omega
  rw [nV (uj hB) (j:=j) (by rw [bp]; exact hj) (by rw [hg]; exact h1) (by rw [hg]; exact h2),hg,← hf]
  rfl
 | false =>
  have h0:cW Lv.length (eN Lv) B (uE B x)=[]:=by
   unfold cW
   refine List.flatMap_eq_nil_iff.2 fun i hi => ?_
   rw [if_neg fun h1 => ?_]
   rw [lT.2 ⟨i,List.mem_range.1 hi,h1⟩] at hcv
   cases hcv
  rw [← hf,h0,hF0,kC fun j hj hh => ?_]
  ·rfl
  ·rw [bp] at hj
   have e:(bn Lv.length (eN Lv) B)[j]? = some (bn Lv.length (eN Lv) B)[j]:=aC hj
   obtain ⟨u,hue⟩:∃ u,u=(bn Lv.length (eN Lv) B)[j]:=⟨_,rfl⟩
   rw [← hue] at e
   have hm:=cX.1 (aL e)
   have hc:=n9 hB hm.1 hm.2
   rw [jh e] at hh
   have h1:=(kM hB (key:=x) (j:=u - 1) (by omega)).2 hh.1
   have h2:¬ u < uE B x:=fun h3=>(kM hB (key:=x) (j:=u) hc.2).1 h3 hh.2
   have:uE B x=u:=by omega
   rw [this,hm.2] at hcv
   cases hcv
end
end Go.E
end
section
namespace Go.E
open Go Go.Sort Go.Proofs
end Go.E
end
section
namespace Go.E
open Go Go.Sort Go.Proofs
end Go.E
end
section
namespace Go.E
open Go Go.Sort Go.Proofs
def lH (ks:List K):Prop:=(∀ x ∈ ks,(ag x.tr=19∨ag x.tr=20∨ag x.tr=21)∧(ag x.tr=19→x.suf=[])∧(ag x.tr≠21→x.val=[])) ∧
 ks.Pairwise fun x k=>¬ x.tr < k.tr∧¬ (x.tr / 256=k.tr / 256∧x.suf=k.suf∧(ag k.tr=19↔ag x.tr=19))
theorem lH.cd {ks:List K} (h:lH ks):Cd ks:=by
 refine ⟨h.2.imp fun {x y} hxy e e2=>hxy.2 ⟨by rw [e2],e,by rw [e2]⟩,fun x hx=>(h.1 x hx).1⟩
theorem Cd.perm {a b:List K} (h:Cd a) (p:a.Perm b):Cd b:=⟨(List.Perm.pairwise_iff (fun {x y} h e e2=>h e.symm e2.symm) p).1 h.dist,fun x hx=>h.kind x (p.mem_iff.2 hx)⟩
structure LvOk (Lv:List (List Sp)) (n:Nat):Prop where
 n6:Lv.length≤6
 sz:∀ L ∈ Lv,L.length≤n
 wf:∀ L ∈ Lv,Wf L
 ks:∀ L ∈ Lv,∀ s ∈ L,s.ks≠[]∧s.ks.length≤40
 rk:∀ f ∈ dP Lv.flatten,lH f.ks
theorem lI (b:List Bytes) (x:Bytes):(iv b x).length≤b.length+1:=by
 unfold iv
 split
 ·omega
 ·rw [vO]; exact aD _
theorem ib (l:List Sp):(bN l).length≤2 * l.length:=by
 have aux:∀ (l:List Sp) (b:List Bytes),(l.foldl (fun b s=>iv (iv b s.s) s.e) b).length≤b.length+2 * l.length:=by
  intro l
  induction l with
  | nil=>exact fun b=>aD _
  | cons s l ih =>
   intro b
   rw [List.foldl_cons,aX]
   have h1:=ih (iv (iv b s.s) s.e)
   have h2:=lI b s.s
   have h3:=lI (iv b s.s) s.e
   omega
 have:=aux l []
 simpa [bN] using this
theorem fE {α:Type} {Lv:List (List α)} {n:Nat} (h:∀ L ∈ Lv,L.length≤n):Lv.flatten.length≤Lv.length * n:=by
 induction Lv with
 | nil=>simp
 | cons L Lv ih =>
  have h1:=h L aR
  have h2:=ih fun L hL=>h L (aZ _ hL)
  rw [List.flatten_cons,aO,aX,Nat.add_mul]
  omega
section
variable {Lv:List (List Sp)} {n:Nat}
theorem LvOk.cd (h:LvOk Lv n) (x:Bytes):Cd (lZ Lv.flatten x):=by
 have hB:=jU h.wf
 have hf:=nW h.wf x (uE (bN Lv.flatten) x) fun i hi=>uk hB hi x
 rw [← hf]
 cases hcv:lC Lv.length (eN Lv) (bN Lv.flatten) (uE (bN Lv.flatten) x) with
 | true =>
  have hm:(⟨(bN Lv.flatten)[uE (bN Lv.flatten) x - 1]!,(bN Lv.flatten)[uE (bN Lv.flatten) x]!,dC (cW Lv.length (eN Lv) (bN Lv.flatten) (uE (bN Lv.flatten) x))⟩:Sp) ∈ dP Lv.flatten:=by
   rw [nQ h.wf fun L hL s hs=>(h.ks L hL s hs).1,cM]
   exact ⟨_,cX.2 ⟨lE _ _,hcv⟩,rfl⟩
  exact (h.rk _ hm).cd.perm (dO _)
 | false =>
  have h0:cW Lv.length (eN Lv) (bN Lv.flatten) (uE (bN Lv.flatten) x)=[]:=by
   unfold cW
   refine List.flatMap_eq_nil_iff.2 fun i hi => ?_
   rw [if_neg fun h1 => ?_]
   rw [lT.2 ⟨i,List.mem_range.1 hi,h1⟩] at hcv
   cases hcv
  rw [h0]
  exact ⟨.nil,by simp⟩
theorem vZ {Lv:List (List Sp)} {m:Nat} (h:∀ L ∈ Lv,∀ s ∈ L,s.ks.length≤m) (B:List Bytes) (u:Nat):(cW Lv.length (eN Lv) B u).length≤Lv.length * m:=by
 unfold cW
 have:∀ l:List Nat,(∀ i ∈ l,i < Lv.length)→(l.flatMap fun i=>if cp (eN Lv) B u i % 2=1 then (eN Lv i)[cp (eN Lv) B u i / 2]!.ks else []).length≤l.length * m:=by
  intro l
  induction l with
  | nil=>intro _; simp
  | cons i l ih =>
   intro hl
   have hi:=hl i aR
   have:=ih fun j hj=>hl j (aZ _ hj)
   rw [bW,aO,aX,Nat.add_mul]
   have hh:(if cp (eN Lv) B u i % 2=1 then (eN Lv i)[cp (eN Lv) B u i / 2]!.ks else []).length≤m:=by
    split
    ·have hL:eN Lv i ∈ Lv:=by unfold eN; rw [aI Lv i hi]; exact aS hi
     have hlt:cp (eN Lv) B u i / 2 < (eN Lv i).length:=by have:=ir (L:=eN Lv) (B:=B) u i; omega
     rw [aI (eN Lv i) _ hlt]
     exact h _ hL _ (aS hlt)
    ·exact aM _
   omega
 simpa using this (List.range Lv.length) fun i hi=>List.mem_range.1 hi
end
end Go.E
end
section
namespace Go.E
open Go Go.Sort Go.Proofs Go.Proofs.Tryz
theorem yG (x y:Bytes):Op.bytesLess x y=decide (x < y):=by
 induction x generalizing y with
 | nil=>cases y <;> simp [Op.bytesLess]
 | cons a x ih =>
  cases y with
  | nil=>simp [Op.bytesLess]
  | cons b y =>
   rw [au]
   simp [Op.bytesLess,ih,List.cons_lt_cons_iff]
section
variable {a b:Bytes} {q:Value→Prop}
@[go_sem high] theorem Gm:jX .eql ⟨a.toArray⟩ ⟨b.toArray⟩ q=q (.bool (decide (a=b))):=by
 rw [Aa,ByteArray.toList_mk,ByteArray.toList_mk]
 congr 2
 rw [au]; simp
@[go_sem high] theorem Gn:jX .neq ⟨a.toArray⟩ ⟨b.toArray⟩ q=q (.bool (decide (a≠b))):=by
 rw [Ab,ByteArray.toList_mk,ByteArray.toList_mk]
 congr 2
 rw [au]; simp
@[go_sem high] theorem Gp:jX .lss ⟨a.toArray⟩ ⟨b.toArray⟩ q=q (.bool (decide (a < b))):=by
 rw [Ac,ByteArray.toList_mk,ByteArray.toList_mk,yG]
theorem Hf (a b:Bytes):(decide (a < b) || a == b)=decide (¬ b < a):=by
 rw [au]
 simp only [Bool.or_eq_true,decide_eq_true_eq,beq_iff_eq]
 constructor
 ·rintro (h | rfl)
  ·exact fk h
  ·exact bj _
 ·intro h
  rcases gJ a b with h1 | h1 | h1
  ·exact .inl h1
  ·exact .inr h1
  ·exact absurd h1 h
@[go_sem high] theorem Gq:jX .leq ⟨a.toArray⟩ ⟨b.toArray⟩ q=q (.bool (decide (¬ b < a))):=by
 rw [Ad,ByteArray.toList_mk,ByteArray.toList_mk,yG,Hf]
@[go_sem high] theorem Gs:jX .gtr ⟨a.toArray⟩ ⟨b.toArray⟩ q=q (.bool (decide (b < a))):=by
 rw [Ae,ByteArray.toList_mk,ByteArray.toList_mk,yG,Hf]
 by_cases h:b < a
 ·rw [aQ h,aF fun hn=>hn h]; rfl
 ·rw [aF h,aQ h]; rfl
@[go_sem high] theorem Gt:jX .geq ⟨a.toArray⟩ ⟨b.toArray⟩ q=q (.bool (decide (¬ a < b))):=by
 rw [Af,ByteArray.toList_mk,ByteArray.toList_mk,yG]
 by_cases h:a < b
 ·rw [aQ h,aF fun hn=>hn h]; rfl
 ·rw [aF h,aQ h]; rfl
end
theorem Ec {l:List Sp} (h1:∀ i (h:i < l.length),l[i].s < l[i].e) (h2:∀ i (h:i+1 < l.length),¬ l[i+1].s < l[i].e):Wf l:=by
 refine ⟨fun i hi=>by rw [aI l i hi]; exact h1 i hi,fun i j hij hj => ?_⟩
 have aux:∀ m,∀ (hm:i+1+m < l.length),¬ l[i+1+m].s < (l[i]'(by omega)).e:=by
  intro m
  induction m with
  | zero=>intro hm; exact h2 i (by omega)
  | succ m ih =>
   intro hm h3
   have a:=h1 (i+1+m) (by omega)
   have b:=h2 (i+1+m) (by omega)
   exact ih (by omega) (List.lt_trans (bw a b) h3)
 rw [aI l i (by omega),aI l j hj]
 have:=aux (j - (i+1)) (by omega)
 simp only [show i+1+(j - (i+1))=j by omega] at this
 grind
end Go.E
namespace Go.Proofs
open Go Go.E Go.Sort Go.Proofs.Tryz
section
variable {k:ae} {d w:World}
theorem nX {t:Nat} (hk:k (.int .u8 (ag t)) w):aU prog 48 #[.int .u64 t] k w:=by
 refine aW [.tmp 2] func48 ?_
 refine aY ?_
 have e8:IntKind.u8.wrap (t:Int)=(ag t:Nat):=by
  unfold ag
  simp [IntKind.wrap,IntKind.bits,IntKind.signed]
 rw [e8]
 exact hk
theorem tK {t:Nat} (hk:k (.int .u64 (t / 256:Nat)) w):aU prog 79 #[.int .u64 t] k w:=by
 have h8:(0:Int)≤8:=by decide
 have e:=yp (a:=t) (s:=8) (n:=8) (m:=256) rfl rfl
 refine aW [.tmp 2] func79 ?_
 simp (disch:=first | exact dZ | fail) only [go_sem,eh h8,e]
 exact hk
theorem qa {t snap:Nat} (ht:t < 18446744073709551616) (hk:k (.bool (eT snap t)) w):aU prog 74 #[.int .u64 t,.int .u64 snap] k w:=by
 have e:∀ {ty:TypeId} {xo yo:Operand} {q:Value→Prop},cZ prog .and ty xo yo (.int .u64 (t / 256:Nat)) (.int .u64 36028797018963968) q=q (.int .u64 (t / 256 &&& 36028797018963968:Nat)):=by
  intro ty xo yo q
  exact lP (P:=prog) (t:=ty) (xo:=xo) (yo:=yo) (q:=q) (a:=t / 256) (b:=36028797018963968) (by omega) (by decide)
 refine aW [.tmp 4] func74 ?_
 refine aY ?_
 refine tK ?_
 by_cases hl:t / 256 < snap
 ·have hl':((t / 256:Nat):Int) < snap:=by omega
  refine bP @hl' ?_
  have hv:eT snap t=true:=by unfold eT; simp [hl]
  rw [hv] at hk
  exact hk
 ·have hl':¬ ((t / 256:Nat):Int) < snap:=by omega
  refine dU @hl' @e ?_
  have hv:eT snap t=(((t / 256 &&& 36028797018963968:Nat):Int) != 0):=by
   unfold eT
   rw [au]
   simp [hl]
  rw [hv] at hk
  exact hk
theorem nY {kv:Value} {x:Sp} {key:Bytes} (hf:∃ a n c,kv = .slice a n c) (hk:∀ w',bV w w'→k (.bool (iy key x)) w'):aU prog 27 #[.agg #[.string ⟨x.s.toArray⟩,.string ⟨x.e.toArray⟩,kv],.string ⟨key.toArray⟩] k w:=by
 obtain ⟨a,n,c,rfl⟩:=hf
 refine aW [.tmp 4] func27 ?_
 by_cases h1:key < x.s
 ·have e:iy key x=false:=aF fun h=>h.1 h1
  rw [e] at hk
  refine dg @aA @h1 @not_true_eq_false ?_
  exact hk _ (aK _)
 ·by_cases h2:key < x.e
  ·have e:iy key x=true:=aQ ⟨h1,h2⟩
   rw [e] at hk
   refine eI @aA @h1 @h2 @not_false_eq_true ?_
   exact hk _ (aK _)
  ·have e:iy key x=false:=aF fun h=>h2 h.2
   rw [e] at hk
   refine eI @aA @h1 @h2 @not_false_eq_true ?_
   exact hk _ (aK _)
theorem vd {x y:K} (hk:∀ w',bV w w'→k (.bool (fa x y)) w'):aU prog 112 #[.agg #[.int .u64 x.tr,.string ⟨x.suf.toArray⟩,.string ⟨x.val.toArray⟩],.agg #[.int .u64 y.tr,.string ⟨y.suf.toArray⟩,.string ⟨y.val.toArray⟩]] k w:=by
 have x2:∀ a b,bV w ((w.alloc a).alloc b):=fun a b=>(aK _).trans (aK _)
 refine aW [.tmp 4] func112 ?_
 by_cases h1:x.tr=y.tr
 ·have h1':((x.tr:Int) != y.tr)=false:=by rw [h1]; simp
  by_cases h2:x.suf=y.suf
  ·have e:fa x y=decide (x.val < y.val):=by unfold fa; rw [if_neg (by simpa using h1),if_neg (by simpa using h2)]
   rw [e] at hk
   simp (disch:=first | exact dZ | fail) only [go_sem,aA,h1',h2,ne_eq,not_true_eq_false]
   exact hk _ (x2 _ _)
  ·have e:fa x y=decide (x.suf < y.suf):=by unfold fa; rw [if_neg (by simpa using h1),if_pos h2]
   rw [e] at hk
   simp (disch:=first | exact dZ | fail) only [go_sem,aA,h1',h2,ne_eq,not_false_eq_true]
   exact hk _ (x2 _ _)
 ·have h1':((x.tr:Int) != y.tr)=true:=by simp; omega
  have e:fa x y=decide ((y.tr:Int) < x.tr):=by unfold fa; rw [if_pos h1]; exact decide_eq_decide.2 (by omega)
  rw [e] at hk
  refine dU @aA @h1' ?_
  exact hk _ (x2 _ _)
end
end Go.Proofs
end
