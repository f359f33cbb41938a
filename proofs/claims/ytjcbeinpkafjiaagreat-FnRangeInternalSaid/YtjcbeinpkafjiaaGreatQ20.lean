/- Parts of the proof: Du, Dx, Ck, Wc, We, Wf, Wg. -/
import Derived.Test.YtjcbeinpkafjiaaGreatQ09
import Derived.Test.YtjcbeinpkafjiaaGreatQ17
import Derived.Test.YtjcbeinpkafjiaaGreatQ19
set_option linter.all false
set_option maxRecDepth 10000
section
namespace Go.Proofs
open Go Go.E Go.Sort
section
variable {k:ae} {d w:World} {U Bf C:Nat} {rt:TypeId} {rv:Value} {is:Option Addr} {ps:Int}
theorem BF {x:Sp} {b o j:Nat} (h:dB 1 w b o x) (hj:j < x.ks.length):∃ g f c s n m v p q,w.cell? ⟨b,o+2,none⟩=some (.slice (some ⟨g,f,none⟩) x.ks.length c)∧x.ks.length≤c∧w.cell? ⟨g,f+j * 3+1,none⟩=some (.slice s n m)∧eO w (.slice s n m) x.ks[j]!.suf∧w.cell? ⟨g,f+j * 3+2,none⟩=some (.slice v p q)∧eO w (.slice v p q) x.ks[j]!.val:=by
 obtain ⟨_,_,⟨kv,k1,k2⟩,_⟩:=h
 obtain ⟨g,f,c,e,hc,hx⟩:=k2.at (by omega)
 obtain ⟨_,_,⟨sv,s1,s2⟩,vv,v1,v2⟩:=hx j x.ks[j]! (by rw [aI x.ks j hj]; exact aC hj)
 obtain ⟨a,m,e1⟩:=av s2
 obtain ⟨a2,m2,e2⟩:=av v2
 rw [e] at k1
 rw [e1] at s1 s2
 rw [e2] at v1 v2
 exact ⟨g,f,c,a,_,m,a2,_,m2,k1,hc,s1,s2,v1,v2⟩
set_option maxHeartbeats 1000000 in
theorem lG {xb xo yb yo:Nat} {x y:Sp} (u93:w.cell? ⟨U,93,none⟩=some (.bool false)) (hx:dB 1 w xb xo x) (hy:dB 1 w yb yo y) (hl:x.ks.length < 100000)
    (hk:∀ w',bV w w'→k (.bool (decide (x.ks≠[]∧x.ks.map K.sv=y.ks.map K.sv))) w'):aU Tryz.prog 189 #[.pointer (some ⟨U,0,none⟩),.func (.func 103) #[] #[],.pointer (some ⟨xb,xo,none⟩),.pointer (some ⟨yb,yo,none⟩)] k w:=by
 obtain ⟨_,_,⟨xv,x1,x2⟩,x3⟩:=hx
 obtain ⟨_,_,⟨yv,y1,y2⟩,y3⟩:=hy
 obtain ⟨xa,xc,rfl⟩:=x2.form
 obtain ⟨ya,yc,rfl⟩:=y2.form
 have vx:((1:Int) != 1)=false:=by decide
 refine aW [.tmp 8] Tryz.func189 ?_
 refine bP @u93 ?_
 refine ao (sq [0,1,2] (.read 3 (sq [4,5,6,7] (.read 8 (sq [9,10,11,12,13,14] (.read 15 (sq [16,17,18] .done))))))) ?_
 by_cases hne:x.ks.length=y.ks.length
 ·have hne':((x.ks.length:Int) != (y.ks.length:Int))=false:=by rw [hne]; simp
  by_cases h0:x.ks.length=0
  ·have h0':((x.ks.length:Int) == 0)=true:=by rw [h0]; rfl
   refine eI @x1 @y1 @hne' @h0' ?_
   have hks:x.ks=[]:=ah.1 h0
   have:=hk w.drew (Keep.refl _ w).drew
   rw [aF (by rw [hks]; simp)] at this
   exact this
  ·have h0':((x.ks.length:Int) == 0)=false:=by rw [beq_eq_false_iff_ne]; omega
   refine tb @x1 @y1 @x3 @y3 @vx @hne' @h0' ?_
   have hks:x.ks≠[]:=fun h=>h0 (by rw [h]; rfl)
   refine gX (fun res:Bool=>[(9,.bool res)]) (fun res w'=>bV w w'∧res=decide (x.ks.map K.sv=y.ks.map K.sv)) (by kernel_rfl) (fun K hK => ?_) ?_
   ·refine bI (fun i:Nat=>[(1,.func (.func 103) #[] #[]),(2,.pointer (some ⟨xb,xo,none⟩)),(3,.pointer (some ⟨yb,yo,none⟩)),(9,.bool true),(52,.int .i64 x.ks.length),(53,.int .i64 i)])
      (fun i w'=>bV w w'∧(∀ j,j < i→x.ks[j]!.sv=y.ks[j]!.sv)∧i≤x.ks.length) (fun i _=>x.ks.length - i) 0 (by kernel_rfl) ?_ ⟨(Keep.refl _ w).drew,fun j hj=>by omega,aM _⟩ ?_
    ·exact bA
    rintro K2 e i w1 ⟨i1,i2,i3⟩ hK2
    by_cases hi:i < x.ks.length
    ·have hi':(i:Int) < x.ks.length:=by omega
     have hiy':(i:Int) < y.ks.length:=by omega
     have hx1:dB 1 w1 xb xo x:=dB.mono 1 _ _ _ _ _ i1.inc ⟨by assumption,by assumption,⟨_,x1,x2⟩,x3⟩
     have hy1:dB 1 w1 yb yo y:=dB.mono 1 _ _ _ _ _ i1.inc ⟨by assumption,by assumption,⟨_,y1,y2⟩,y3⟩
     obtain ⟨g,f,c,s,n,m,v,p,q,a1,a2,a3,a4,a5,a6⟩:=BF hx1 hi
     obtain ⟨g',f',c',s',n',m',v',p',q',b1,b2,b3,b4,b5,b6⟩:=BF hy1 (show i < y.ks.length by omega)
     refine bP @hi' ?_
     refine ao (sq [0,1,2,3] (.read 4 (sq [5,6,7] (.read 8 (sq [9,10,11] (.read 12 (sq [13,14,15] (.read 16 (.eff 17 [] (sq [18] .done)))))))))) ?_
     refine me @a1 @b1 @a3 @b3 @hi' @hiy' ?_
     refine gi (by exact a4) (by exact b4) ?_
     have bad:x.ks[i]!.sv≠y.ks[i]!.sv→false=decide (x.ks.map Go.E.K.sv=y.ks.map Go.E.K.sv):=by
      intro hn
      symm
      rw [decide_eq_false_iff_not]
      intro he
      have:=congrArg (fun l=>l[i]?) he
      simp only [bX] at this
      rw [aC hi,aC (show i < y.ks.length by omega)] at this
      rw [aI x.ks i hi,aI y.ks i (by omega)] at hn
      exact hn (by simpa using this)
     by_cases hs:x.ks[i]!.suf=y.ks[i]!.suf
     ·rw [aQ hs]
      refine aY ?_
      refine ao (sq [0,1,2] (.read 3 (sq [4,5,6] (.read 7 (sq [8,9,10] (.read 11 (sq [12,13,14] (.read 15 (.eff 16 [] (sq [17] .done)))))))))) ?_
      refine me @a1 @b1 @a5 @b5 @hi' @hiy' ?_
      refine gi (by exact a6) (by exact b6) ?_
      by_cases hv:x.ks[i]!.val=y.ks[i]!.val
      ·rw [aQ hv]
       refine aY ?_
       refine hK2 _ _ (i+1) ?_ ⟨i1.drew.drew,fun j hj => ?_,by omega⟩ (by omega)
       ·exact bA
       ·rcases bO (show j≤i by omega) with h | h
        ·exact i2 j h
        ·subst h
         unfold Go.E.K.sv
         rw [hs,hv]
      ·rw [aF hv]
       refine aY ?_
       refine hK _ _ false ?_ ⟨i1.drew.drew,bad fun h=>hv (congrArg Prod.snd h)⟩
       exact bA
     ·rw [aF hs]
      refine aY ?_
      refine hK _ _ false ?_ ⟨i1.drew,bad fun h=>hs (congrArg Prod.fst h)⟩
      exact bA
    ·have hi':¬ (i:Int) < x.ks.length:=by omega
     refine bP @hi' ?_
     refine hK _ _ true ?_ ⟨i1,?_⟩
     ·exact bA
     ·symm
      rw [decide_eq_true_eq]
      refine List.ext_getElem (by simp [hne]) fun j h1 h2 => ?_
      simp only [bK] at h1 h2
      have:=i2 j (by omega)
      rw [aI x.ks j h1,aI y.ks j h2] at this
      simpa using this
   ·rintro e res w1 ⟨i1,rfl⟩
    refine aY ?_
    have:=hk w1 i1
    rw [show decide (x.ks≠[]∧x.ks.map K.sv=y.ks.map K.sv)=decide (x.ks.map K.sv=y.ks.map K.sv) by rw [decide_eq_decide]; exact ⟨fun h=>h.2,fun h=>⟨hks,h⟩⟩] at this
    exact this
 ·have hne':((x.ks.length:Int) != (y.ks.length:Int))=true:=by rw [bne_iff_ne]; omega
  refine dg @x1 @y1 @hne' ?_
  have:=hk w.drew (Keep.refl _ w).drew
  rw [aF (by rintro ⟨_,h⟩; have:=congrArg List.length h; simp at this; exact hne this)] at this
  exact this
end
end Go.Proofs
end
section
namespace Go.Proofs
open Go Go.E Go.Sort Go.Proofs.Tryz
section
variable {k:ae} {d w:World}
theorem BG {ord:Int} {x:Sp} {b o j:Nat} (h:dB ord w b o x) (hj:j < x.ks.length):∃ g f c s n m v p q,w.cell? ⟨b,o+2,none⟩=some (.slice (some ⟨g,f,none⟩) x.ks.length c)∧x.ks.length≤c∧w.cell? ⟨g,f+j * 3+1,none⟩=some (.slice s n m)∧eO w (.slice s n m) x.ks[j]!.suf∧w.cell? ⟨g,f+j * 3+2,none⟩=some (.slice v p q)∧eO w (.slice v p q) x.ks[j]!.val∧w.cell? ⟨g,f+j * 3,none⟩=some (.int .u64 x.ks[j]!.tr):=by
 obtain ⟨_,_,⟨kv,k1,k2⟩,_⟩:=h
 obtain ⟨g,f,c,e,hc,hx⟩:=k2.at (by omega)
 obtain ⟨t1,_,⟨sv,s1,s2⟩,vv,v1,v2⟩:=hx j x.ks[j]! (by rw [aI x.ks j hj]; exact aC hj)
 obtain ⟨a,m,e1⟩:=av s2
 obtain ⟨a2,m2,e2⟩:=av v2
 rw [e] at k1
 rw [e1] at s1 s2
 rw [e2] at v1 v2
 exact ⟨g,f,c,a,_,m,a2,_,m2,k1,hc,s1,s2,v1,v2,t1⟩
set_option maxHeartbeats 1000000 in
theorem j9 {xb xo yb yo:Nat} {x y:Sp} (hx:dB 0 w xb xo x) (hy:dB 0 w yb yo y) (hl:x.ks.length < 100000)
    (hk:∀ w',bV w w'→k (.bool (decide (x.ks=y.ks))) w'):aU prog 100 #[.func (.func 103) #[] #[],.pointer (some ⟨xb,xo,none⟩),.pointer (some ⟨yb,yo,none⟩)] k w:=by
 obtain ⟨_,_,⟨xv,x1,x2⟩,x3⟩:=hx
 obtain ⟨_,_,⟨yv,y1,y2⟩,y3⟩:=hy
 obtain ⟨xa,xc,rfl⟩:=x2.form
 obtain ⟨ya,yc,rfl⟩:=y2.form
 have n00:((0:Int) != 0)=false:=by decide
 refine aW [.tmp 6] func100 ?_
 refine dg @x3 @y3 @n00 ?_
 refine ao (sq [0,1,2] (.read 3 (sq [4,5,6,7] (.read 8 (sq [9,10] .done))))) ?_
 by_cases hne:x.ks.length=y.ks.length
 ·have hne':((x.ks.length:Int) != (y.ks.length:Int))=false:=by rw [hne]; simp
  refine dg @x1 @y1 @hne' ?_
  refine bI (fun i:Nat=>[(0,.func (.func 103) #[] #[]),(1,.pointer (some ⟨xb,xo,none⟩)),(2,.pointer (some ⟨yb,yo,none⟩)),(36,.int .i64 x.ks.length),(37,.int .i64 i)])
   (fun i w'=>bV w w'∧(∀ j,j < i→x.ks[j]! = y.ks[j]!)∧i≤x.ks.length) (fun i _=>x.ks.length - i) 0 (by kernel_rfl) ?_ ⟨(Keep.refl _ w).drew,fun j hj=>by omega,aM _⟩ ?_
  ·exact bA
  rintro K2 e i w1 ⟨i1,i2,i3⟩ hK2
  by_cases hi:i < x.ks.length
  ·have hi':(i:Int) < x.ks.length:=by omega
   have hiy':(i:Int) < y.ks.length:=by omega
   have hx1:dB 0 w1 xb xo x:=dB.mono 0 _ _ _ _ _ i1.inc ⟨by assumption,by assumption,⟨_,x1,x2⟩,x3⟩
   have hy1:dB 0 w1 yb yo y:=dB.mono 0 _ _ _ _ _ i1.inc ⟨by assumption,by assumption,⟨_,y1,y2⟩,y3⟩
   obtain ⟨g,f,c,s,n,m,v,p,q,a1,a2,a3,a4,a5,a6,a7⟩:=BG hx1 hi
   obtain ⟨g',f',c',s',n',m',v',p',q',b1,b2,b3,b4,b5,b6,b7⟩:=BG hy1 (show i < y.ks.length by omega)
   have bad:x.ks[i]! ≠ y.ks[i]! → ∀ w',bV w w'→k (.bool false) w':=fun hn w' hw'=>by
    have:=hk w' hw'
    rwa [aF fun he=>hn (by rw [he])] at this
   refine bP @hi' ?_
   refine ao (sq [0,1,2] (.read 3 (sq [4,5,6] (.read 7 (sq [8,9,10] (.read 11 (sq [12,13,14] (.read 15 (sq [16] .done))))))))) ?_
   by_cases ht:x.ks[i]!.tr=y.ks[i]!.tr
   ·have ht':((x.ks[i]!.tr:Int) != (y.ks[i]!.tr:Int))=false:=by rw [ht]; simp
    refine tb @a1 @b1 @a7 @b7 @hi' @hiy' @ht' ?_
    refine ao (sq [0,1,2,3] (.read 4 (sq [5,6,7] (.read 8 (sq [9,10,11] (.read 12 (sq [13,14,15] (.read 16 (.eff 17 [] (sq [18] .done)))))))))) ?_
    refine me @a1 @b1 @a3 @b3 @hi' @hiy' ?_
    refine gi (by exact a4) (by exact b4) ?_
    by_cases hs:x.ks[i]!.suf=y.ks[i]!.suf
    ·rw [aQ hs]
     refine aY ?_
     refine ao (sq [0,1,2] (.read 3 (sq [4,5,6] (.read 7 (sq [8,9,10] (.read 11 (sq [12,13,14] (.read 15 (.eff 16 [] (sq [17] .done)))))))))) ?_
     refine me @a1 @b1 @a5 @b5 @hi' @hiy' ?_
     refine gi (by exact a6) (by exact b6) ?_
     by_cases hv:x.ks[i]!.val=y.ks[i]!.val
     ·rw [aQ hv]
      refine aY ?_
      refine hK2 _ _ (i+1) ?_ ⟨i1.drew.drew.drew,fun j hj => ?_,by omega⟩ (by omega)
      ·exact bA
      ·rcases bO (show j≤i by omega) with h | h
       ·exact i2 j h
       ·subst h
        cases hX:x.ks[j]!
        cases hY:y.ks[j]!
        rw [hX,hY] at ht hs hv
        simp only at ht hs hv
        rw [ht,hs,hv]
     ·rw [aF hv]
      refine aY ?_
      exact bad (fun h=>hv (by rw [h])) _ i1.drew.drew.drew
    ·rw [aF hs]
     refine aY ?_
     exact bad (fun h=>hs (by rw [h])) _ i1.drew.drew
   ·have ht':((x.ks[i]!.tr:Int) != (y.ks[i]!.tr:Int))=true:=by rw [bne_iff_ne]; omega
    refine tb @a1 @b1 @a7 @b7 @hi' @hiy' @ht' ?_
    exact bad (fun h=>ht (by rw [h])) _ i1.drew
  ·have hi':¬ (i:Int) < x.ks.length:=by omega
   refine bP @hi' ?_
   have:=hk w1 i1
   rwa [aQ (List.ext_getElem hne fun j h1 h2=>by
    have:=i2 j (by omega)
    rwa [aI x.ks j h1,aI y.ks j h2] at this)] at this
 ·have hne':((x.ks.length:Int) != (y.ks.length:Int))=true:=by rw [bne_iff_ne]; omega
  refine dg @x1 @y1 @hne' ?_
  have:=hk w.drew (Keep.refl _ w).drew
  rwa [aF fun h=>hne (by rw [h])] at this
theorem vH {xb xo yb yo:Nat} {x y:Sp} (hx:dB 0 w xb xo x) (hy:dB 0 w yb yo y) (hl:x.ks.length < 100000)
    (hk : ∀ w', bV w w' → k (.bool (decide (x.ks.map (id : K → K) = y.ks.map id))) w') : bm prog (.iface 228 (.func (.func 100) #[] #[])) "ShouldDefragment" #[.func (.func 103) #[] #[], .pointer (some ⟨xb, xo, none⟩), .pointer (some ⟨yb, yo, none⟩)] k w := by
 rw [Tryz.iv228_ShouldDefragment]
 refine aW [.tmp 8] func240 ?_
 refine aY ?_
 refine j9 hx hy hl fun w' x' => ?_
 refine aY ?_
 have:=hk w' x'
 simp only [List.map_id] at this
 exact this
end
end Go.Proofs
end
section
namespace Go.E
open Go Go.Sort Go.Proofs
theorem xB {α:Type} {R:α→α→Prop} (hR:∀ x y,R x y→¬ R y x) {a b:List α} (ha:a.Pairwise R) (hb:b.Pairwise R) (h:∀ x,x ∈ a↔x ∈ b):a=b:=by
 induction a generalizing b with
 | nil =>
  cases b with
  | nil=>rfl
  | cons y b=>exact absurd ((h y).2 aR) (by simp)
 | cons x a ih =>
  cases b with
  | nil=>exact absurd ((h x).1 aR) (by simp)
  | cons y b =>
   have ha':=fun {z}=>bb (a':=z) ha
   have hb':=fun {z}=>bb (a':=z) hb
   have hxy:x=y:=by
    rcases aa.1 ((h x).1 aR) with e | h1
    ·exact e
    ·rcases aa.1 ((h y).2 aR) with e | h2
     ·exact e.symm
     ·exact absurd (ha' h2) (hR _ _ (hb' h1))
   subst hxy
   congr 1
   refine ih ha.of_cons hb.of_cons fun z => ?_
   have:=h z
   rw [aa,aa] at this
   constructor
   ·intro hz
    rcases this.1 (.inr hz) with e | h1
    ·subst e; exact absurd (ha' hz) (hR _ _ (ha' hz))
    ·exact h1
   ·intro hz
    rcases this.2 (.inr hz) with e | h1
    ·subst e; exact absurd (hb' hz) (hR _ _ (hb' hz))
    ·exact h1
def BH (snap:Nat) (ks:List K) (x:K):Bool :=
 eT snap x.tr && decide (ag x.tr≠19) && ks.all fun y => !eT snap y.tr || (if ag y.tr=19 then decide (y.tr < x.tr) else decide (y.suf=x.suf→y.tr≤x.tr))
def Uf (snap:Nat) (ks:List K):List K:=(ks.filter (BH snap ks)).mergeSort zw
def z4 (x y:K):Bool:=decide (y.tr≤x.tr)
def qq (snap:Nat) (x:K):Bool:=eT snap x.tr && decide (ag x.tr=19)
def pQ (snap:Nat) (ks:List K):List K:=((ks.filter (qq snap)).mergeSort z4).take 1
def qs (snap:Nat) (ks:List K):List K:=Uf snap ks++pQ snap ks
theorem gQ {snap:Nat} {ks:List K} {x:K}:BH snap ks x=true↔eT snap x.tr=true∧ag x.tr≠19∧∀ y ∈ ks,eT snap y.tr=true→(ag y.tr=19→y.tr < x.tr)∧(ag y.tr≠19→y.suf=x.suf→y.tr≤x.tr):=by
 unfold BH
 simp only [az,decide_eq_true_eq,List.all_eq_true,Bool.or_eq_true,Bool.not_eq_true']
 constructor
 ·rintro ⟨⟨h1,h2⟩,h3⟩
  refine ⟨h1,h2,fun y hy hv => ?_⟩
  rcases h3 y hy with h | h
  ·rw [hv] at h; simp at h
  ·split at h
   ·rename_i h9
    exact ⟨fun _=>by simpa using h,fun h'=>absurd h9 h'⟩
   ·rename_i h9
    exact ⟨fun h'=>absurd h' h9,fun _=>of_decide_eq_true h⟩
 ·rintro ⟨h1,h2,h3⟩
  refine ⟨⟨h1,h2⟩,fun y hy => ?_⟩
  by_cases hv:eT snap y.tr=true
  ·right
   obtain ⟨a,b⟩:=h3 y hy hv
   split
   ·rename_i h9; simpa using a h9
   ·rename_i h9; exact aQ (b h9)
  ·left; simpa using hv
theorem kA {snap:Nat} {ks:List K} {x:K}:x ∈ Uf snap ks↔x ∈ ks∧BH snap ks x=true:=by
 unfold Uf
 rw [List.mem_mergeSort,bC]
theorem xC (l:List K):(l.mergeSort zw).Pairwise fun x y=>zw x y=true:=by
 refine List.pairwise_mergeSort (fun a b c h1 h2 => ?_) (fun a b => ?_) _
 ·simp only [zw,decide_eq_true_eq] at h1 h2 ⊢
  intro h3
  exact h1 (cT h2 h3)
 ·simp only [zw,Bool.or_eq_true,decide_eq_true_eq]
  by_cases hab:b.suf < a.suf
  ·exact .inr (fk hab)
  ·exact .inl hab
theorem xD (l:List K):(l.mergeSort z4).Pairwise fun x y=>z4 x y=true:=by
 refine List.pairwise_mergeSort (fun a b c h1 h2 => ?_) (fun a b => ?_) _
 ·simp only [z4,decide_eq_true_eq] at h1 h2 ⊢
  omega
 ·simp only [z4,Bool.or_eq_true,decide_eq_true_eq]
  omega
theorem sD {snap:Nat} {ks:List K} (h:Cd ks):(Uf snap ks).Pairwise fun x y=>x.suf < y.suf:=by
 have h2:(Uf snap ks).Pairwise fun x y=>x.suf=y.suf→x.tr≠y.tr:=by
  unfold Uf
  refine (List.Perm.pairwise_iff ?_ (List.mergeSort_perm _ _)).2 (List.Pairwise.sublist List.filter_sublist h.dist)
  intro x y hxy e e2
  exact hxy e.symm e2.symm
 have h1:(Uf snap ks).Pairwise fun x y=>zw x y=true:=xC _
 have h3:=h1.and h2
 rw [bL] at h3 ⊢
 intro i j hi hj hij
 obtain ⟨a,b⟩:=h3 i j hi hj hij
 simp only [zw,decide_eq_true_eq] at a
 rcases gJ (Uf snap ks)[i].suf (Uf snap ks)[j].suf with c | c | c
 ·exact c
 ·exfalso
  have m1:=kA.1 (aS hi)
  have m2:=kA.1 (aS hj)
  obtain ⟨v1,k1,a1⟩:=gQ.1 m1.2
  obtain ⟨v2,k2,a2⟩:=gQ.1 m2.2
  have e1:=(a1 _ m2.1 v2).2 k2 c.symm
  have e2:=(a2 _ m1.1 v1).2 k1 c
  exact b c (by omega)
 ·exact absurd c a
theorem GH {snap:Nat} {l r:List KR} {ks:List K} (hd:DK l) (hc:CoR snap l r) (hks:(l.map KR.k).Perm ks) (h:Cd ks):r.map KR.k=Uf snap ks:=by
 refine mr ?_ (sD h) fun x => ?_
 ·rw [List.pairwise_map]
  exact hc.sorted
 ·rw [kA,gQ,cM]
  constructor
  ·rintro ⟨a,ha,rfl⟩
   rw [hc.mem,iJ hd] at ha
   obtain ⟨⟨p1,p2,p3,p4⟩,p5⟩:=ha
   refine ⟨hks.mem_iff.1 (List.mem_map_of_mem p1),p2,p3,fun y hy hv => ?_⟩
   obtain ⟨b,hb,rfl⟩:=cM.1 (hks.mem_iff.2 hy)
   refine ⟨p4 b hb hv,fun h9 hs => ?_⟩
   by_cases hbp:b ∈ jD snap l
   ·exact p5 b hbp hs
   ·rw [iJ hd] at hbp
    have:∃ z ∈ l,eT snap z.k.tr=true∧ag z.k.tr=19∧¬ b.k.tr > z.k.tr:=by
     refine Classical.byContradiction fun hno=>hbp ⟨hb,hv,h9,fun z hz hzv hz9 => ?_⟩
     refine Classical.byContradiction fun hlt=>hno ⟨z,hz,hzv,hz9,hlt⟩
    obtain ⟨z,hz,hzv,hz9,hlt⟩:=this
    have:=p4 z hz hzv hz9
    omega
  ·rintro ⟨h1,h2,h3,h4⟩
   obtain ⟨a,ha,rfl⟩:=cM.1 (hks.mem_iff.2 h1)
   refine ⟨a,?_,rfl⟩
   rw [hc.mem,iJ hd]
   refine ⟨⟨ha,h2,h3,fun y hy hv h9=>(h4 y.k (hks.mem_iff.1 (List.mem_map_of_mem hy)) hv).1 h9⟩,fun y hy hs => ?_⟩
   obtain ⟨q1,q2,q3,_⟩:=(iJ hd y).1 hy
   exact (h4 y.k (hks.mem_iff.1 (List.mem_map_of_mem q1)) q2).2 q3 hs
theorem zN {snap:Nat} {l:List KR}:iZ snap l=l.find? fun x=>qq snap x.k:=by
 induction l with
 | nil=>rfl
 | cons x l ih =>
  unfold iZ
  rw [List.find?_cons]
  unfold qq
  by_cases hv:eT snap x.k.tr=true
  ·rw [if_pos hv,hv]
   by_cases h9:ag x.k.tr=19
   ·simp [h9]
   ·simp only [h9,if_false,decide_false,Bool.and_false]
    exact ih
  ·rw [if_neg hv]
   have:eT snap x.k.tr=false:=by simpa using hv
   simp only [this,Bool.false_and]
   exact ih
theorem EY {snap:Nat} {l:List KR} {ks:List K} (hd:DK l) (hks:(l.map KR.k).Perm ks) (h:Cd ks) (h9:∀ x ∈ ks,ag x.tr=19→x.suf=[]):(iZ snap l).toList.map KR.k=pQ snap ks:=by
 have hA:(l.filter fun x=>qq snap x.k).map KR.k=(ks.filter (qq snap)).mergeSort z4:=by
  have hmem:∀ x:K,x ∈ (l.filter fun x=>qq snap x.k).map KR.k↔x ∈ (ks.filter (qq snap)).mergeSort z4:=fun x=>by
   rw [List.mem_mergeSort,bC,← hks.mem_iff]
   simp only [cM,bC]
   constructor
   ·rintro ⟨a,⟨h1,h2⟩,rfl⟩; exact ⟨⟨a,h1,rfl⟩,h2⟩
   ·rintro ⟨⟨a,h1,rfl⟩,h2⟩; exact ⟨a,⟨h1,h2⟩,rfl⟩
  have hk9:∀ x:K,qq snap x=true→ag x.tr=19:=fun x hx=>by
   unfold qq at hx
   simp only [az,decide_eq_true_eq] at hx
   exact hx.2
  refine xB (R:=fun x y:K=>y.tr < x.tr) (fun x y h1 h2=>by omega) ?_ ?_ hmem
  ·rw [List.pairwise_map]
   have h1:(l.filter fun x=>qq snap x.k).Pairwise fun x y=>y.k.tr≤x.k.tr∧(x.k.suf=y.k.suf→y.k.tr < x.k.tr):=List.Pairwise.sublist List.filter_sublist hd
   refine h1.imp_of_mem fun {x y} hx hy hxy=>hxy.2 ?_
   have a:=bC.1 hx
   have b:=bC.1 hy
   rw [h9 _ (hks.mem_iff.1 (List.mem_map_of_mem a.1)) (hk9 _ a.2),h9 _ (hks.mem_iff.1 (List.mem_map_of_mem b.1)) (hk9 _ b.2)]
  ·have h2:((ks.filter (qq snap)).mergeSort z4).Pairwise fun x y=>x.suf=y.suf→x.tr≠y.tr:=by
     refine (List.Perm.pairwise_iff ?_ (List.mergeSort_perm _ _)).2 (List.Pairwise.sublist List.filter_sublist h.dist)
     intro x y hxy e e2
     exact hxy e.symm e2.symm
   refine ((xD _).and h2).imp_of_mem fun {x y} hx hy hxy => ?_
   rw [List.mem_mergeSort] at hx hy
   have a:=bC.1 hx
   have b:=bC.1 hy
   have:=hxy.2 (by rw [h9 _ a.1 (hk9 _ a.2),h9 _ b.1 (hk9 _ b.2)])
   have h3:=hxy.1
   simp only [z4,decide_eq_true_eq] at h3
   omega
 unfold pQ
 rw [← hA,zN,← List.head?_filter,← List.map_take]
 cases (l.filter fun x=>qq snap x.k) <;> rfl
theorem GI {snap:Nat} {l r:List KR} {ks:List K} (hd:DK l) (hc:CoR snap l r) (hks:(l.map KR.k).Perm ks) (h:Cd ks) (h9:∀ x ∈ ks,ag x.tr=19→x.suf=[]):(r++(iZ snap l).toList).map KR.k=qs snap ks:=by
 rw [cF,GH hd hc hks h,EY hd hks h h9]; rfl
end Go.E
end
section
namespace Go.E
open Go Go.Sort Go.Proofs
section
variable {d:World} {U Bf C snap:Nat} {Ls:Array Lvl} {B:List Bytes} {lo hi:Option Bytes} {lov hiv:Value}
theorem BI {G:List Sp} {j:Nat} (hj:j < (GB G lo hi).length):∃ i,i < G.length∧(GB G lo hi)[j]! = G[i]! := by
 refine ⟨aB G lo+j,?_,nJ (G:=G) hj⟩
 have:=cS (G:=G) (lo:=lo) (hi:=hi)
 have:=iS (G:=G) (hi:=hi)
 omega
theorem vI {n:Nat} {L:Nat→List Sp} {u:Nat} {x:K} (h:x ∈ cW n L B u):∃ i,i < n∧∃ sp ∈ L i,x ∈ sp.ks:=by
 unfold cW at h
 obtain ⟨i,hi,hx⟩:=dF.1 h
 rw [List.mem_range] at hi
 split at hx
 ·refine ⟨i,hi,(L i)[cp L B u i / 2]!,?_,hx⟩
  rcases aH (cp L B u i / 2) (L i).length with hl | hl
  ·rw [aI (L i) (cp L B u i / 2) hl]; exact aS hl
  ·rw [getElem!_neg (L i) (cp L B u i / 2) (by omega)] at hx
   exact absurd hx (by simp [default,instInhabitedSp.default])
 ·simp at hx
theorem tG {F:List K→List K} {n:Nat} {L:Nat→List Sp} {j:Nat} (hj:j < (GL F n L B).length):∃ u,u≤B.length∧(GL F n L B)[j]! = kK F n L B u:=by
 rw [bp] at hj
 have e:(bn n L B)[j]? = some (bn n L B)[j]:=aC hj
 exact ⟨_,(cX.1 (aS hj)).1,jh e⟩
structure UK where
 it:Bool
 F:List K→List K
 ord:Int
 β:Type
 dec:DecidableEq β
 π:K→β
 mt:TypeId
 mv:Value
instance (q:UK):DecidableEq q.β:=q.dec
abbrev UK.Z (q:UK) (d:World) (U Bf C snap:Nat):TX:=uX d U Bf C snap q.it q.F q.ord
abbrev UK.Y (q:UK):DX:=⟨81,6,q.ord,q.β,q.dec,q.π,q.mt,q.mv⟩
structure UC (q:UK) (d:World) (U Bf C:Nat) (Ls:Array Lvl) (snap:Nat) (B:List Bytes) (lov hiv:Value) (lo hi:Option Bytes):Prop where
 m:MS d U 2 Bf (q.Z d U Bf C snap) Ls B
 small:B.length < 999999
 bd:uv lo hi
 c0:d.cell? ⟨C,0,none⟩=some (.func (.func 102) #[] #[])
 kl:∀ i,i < Ls.size→∀ sp ∈ Ls[i]!.L,∀ x ∈ sp.ks,x.suf.length≤4294967296∧x.val.length≤4294967296
 fs:∀ ks x,x ∈ q.F ks→x ∈ ks
 fl:∀ ks,(q.F ks).length≤ks.length
 meth:∀ {w:World} {xb xo yb yo:Nat} {x y:Sp} {k:ae},w.cell? ⟨U,93,none⟩=some (.bool q.it)→dB q.ord w xb xo x→dB q.ord w yb yo y→x.ks≠[]→x.ks.length < 100000→(∀ w',bV w w'→k (.bool (decide (x.ks.map q.π=y.ks.map q.π))) w') →
  bm Tryz.prog (.iface q.mt q.mv) "ShouldDefragment" #[.func (.func 103) #[] #[], .pointer (some ⟨xb, xo, none⟩), .pointer (some ⟨yb, yo, none⟩)] k w
abbrev uG (q:UK) (Ls:Array Lvl) (B:List Bytes):List Sp:=GL q.F Ls.size (Lf Ls) B
abbrev uV (q:UK) (Ls:Array Lvl) (B:List Bytes) (lo hi:Option Bytes):List Sp:=Vw q.π (GB (uG q Ls B) lo hi)
abbrev uM (q:UK) (d:World) (U Bf C snap:Nat) (Ls:Array Lvl):Nat→Nat→Prop:=mT U 2 Bf (q.Z d U Bf C snap) Ls
abbrev uW (q:UK) (d:World) (U Bf C snap:Nat) (Ls:Array Lvl) (B:List Bytes):World→(Nat→Prop)→Int→Prop:=Mi d U 2 Bf (q.Z d U Bf C snap) Ls B
abbrev uD (q:UK) (d:World) (U Bf C snap:Nat) (Ls:Array Lvl) (B:List Bytes) (lov hiv:Value) (lo hi:Option Bytes):World→(Nat→Prop)→Int→Prop:=Bd d U U 6 224 (.pointer (some ⟨U,2,none⟩)) lov hiv lo hi (uG q Ls B) (uW q d U Bf C snap Ls B)
variable {q:UK}
theorem UC.bc (c:UC q d U Bf C Ls snap B lov hiv lo hi):BC d U U 6 224 (.pointer (some ⟨U,2,none⟩)) lo hi (uG q Ls B) True True (fun _=>True) (uM q d U Bf C snap Ls) (uW q d U Bf C snap Ls B) q.ord where
 f:=H4 c.m c.small
 t x h1 h2:=by
  rintro (⟨_,_,h⟩ | ⟨h,_⟩ | ⟨i,hi,h⟩ | h)
  ·omega
  ·exact c.m.mc.ne h.symm
  ·exact c.m.mc.iU i hi h.symm
  ·rcases h with ⟨_,h⟩ | ⟨h,_⟩
   ·omega
   ·exact c.m.mc.ne h.symm
 s h hs:=by
  obtain ⟨u,pos,vk,vb,vs,lk,xb,sc,_⟩:=h
  exact (sc.r.sp U hs).1 rfl
 o:=c.m.mc.oU
 b:=c.bd
theorem zO (c:UC q d U Bf C Ls snap B lov hiv lo hi) {u:Nat} (hu:u≤B.length):(kK q.F Ls.size (Lf Ls) B u).s.length≤4294967296∧(kK q.F Ls.size (Lf Ls) B u).e.length≤4294967296∧(kK q.F Ls.size (Lf Ls) B u).ks.length < 100000∧∀ x ∈ (kK q.F Ls.size (Lf Ls) B u).ks,x.suf.length≤4294967296∧x.val.length≤4294967296:=by
 have hb:∀ i:Nat,(B[i]!).length≤4294967296:=fun i=>by
  rcases aH i B.length with h | h
  ·rw [aI B i h]
   exact fS (c.m.blen _ (aS h))
  ·rw [getElem!_neg B i (by omega)]; exact aM _
 refine ⟨hb _,hb _,Nat.lt_of_le_of_lt (c.fl _) (c.m.len u),fun x hx => ?_⟩
 obtain ⟨i,hi,sp,hsp,hk⟩:=vI (c.fs _ _ hx)
 exact c.kl i hi sp hsp x hk
theorem UC.tl (c:UC q d U Bf C Ls snap B lov hiv lo hi) {w:World} {S:Nat→Prop} {p:Int} {b x:Nat} (h:uW q d U Bf C snap Ls B w S p) (ht:uM q d U Bf C snap Ls b x∨bM U b x):b < w.heap.size:=by
 obtain ⟨u,pos,vk,vb,vs,lk,xb,sc,_⟩:=h
 obtain ⟨HK,ti,_⟩:=c.m.ti
 have hU:=aE sc.g.bufs
 rcases ht with (⟨rfl,_⟩ | ⟨rfl,_⟩ | ⟨i,hi,rfl⟩ | ht) | ⟨rfl,_,_⟩
 ·exact hU
 ·exact aE sc.g.lvls
 ·exact aE (sc.g.lv i hi).iter.c0
 ·exact ti.tl sc.r.x ht
 ·exact hU
theorem UC.dc (c:UC q d U Bf C Ls snap B lov hiv lo hi):DC d q.Y U Bf C U 6 226 (.pointer (some ⟨U,72,none⟩)) (GB (uG q Ls B) lo hi) (True∧lo=none) (True∧hi=none) (fun key=>True∧uw lo hi key) (bT U (uM q d U Bf C snap Ls)) (uD q d U Bf C snap Ls B lov hiv lo hi) where
 f:=H5 c.bc
 t x h1 h2:=by
  have h1:81≤x:=h1
  have h2:x≤81+11:=h2
  rintro ((⟨_,_,h⟩ | ⟨h,_⟩ | ⟨i,hi,h⟩ | h) | ⟨_,_,_⟩)
  ·omega
  ·exact c.m.mc.ne h.symm
  ·exact c.m.mc.iU i hi h.symm
  ·rcases h with ⟨_,h⟩ | ⟨h,_⟩
   ·omega
   ·exact c.m.mc.ne h.symm
  ·omega
 tB x h1 h2:=by
  have h1:6≤x:=h1
  have h2:x≤6+2:=h2
  rintro ((⟨h,_⟩ | ⟨_,h⟩ | ⟨i,hi,h⟩ | h) | ⟨h,_⟩)
  ·exact c.m.mc.ne h
  ·omega
  ·exact c.m.mc.iB i hi h.symm
  ·rcases h with ⟨h,_⟩ | ⟨_,h⟩
   ·exact c.m.mc.ne h
   ·omega
  ·exact c.m.mc.ne h
 s h:=by
  obtain ⟨p,is,ps,h,_⟩:=h
  obtain ⟨u,pos,vk,vb,vs,lk,xb,sc,_⟩:=h
  exact ⟨fun hs=>(sc.r.sp U hs).1 rfl,fun hs=>(sc.r.sp Bf hs).2.1 rfl⟩
 tl h ht:=by
  obtain ⟨p,is,ps,h,_⟩:=h
  exact c.tl h ht
 meth h hx hy hne hl hk:=by
  obtain ⟨p,is,ps,h,_⟩:=h
  obtain ⟨u,pos,vk,vb,vs,lk,xb,sc,_⟩:=h
  exact c.meth sc.r.x.u93 hx hy hne hl hk
 tp y h1 h2 := .inl (.inl ⟨rfl,by omega,by omega⟩)
 oU:=c.m.mc.oU
 oB:=c.m.mc.oB
 ne:=c.m.mc.ne
 cmp0:=c.c0
 len j hj:=by
  obtain ⟨i,hi,e⟩:=BI hj
  obtain ⟨u,hu,e2⟩:=tG hi
  rw [e,e2]
  exact zO c hu
theorem UC.wi {KS:List K→List K→Prop} (hKL:∀ a b,KS a b→a.length=b.length) (hKS:∀ ks b,(q.F ks).map q.π=b.map q.π→KS (q.F ks) b) (c:UC q d U Bf C Ls snap B lov hiv lo hi):WI (.iface 229 (.pointer (some ⟨U,81,none⟩))) d (uV q Ls B lo hi) (True∧lo=none) (True∧hi=none) (fun key=>True∧uw lo hi key) KS
    (Gl d q.Y U Bf C U 6 226 (.pointer (some ⟨U,72,none⟩)) (GB (uG q Ls B) lo hi) (bT U (uM q d U Bf C snap Ls)) (uD q d U Bf C snap Ls B lov hiv lo hi)):=by
 refine H6 hKL c.dc (fun b x h => ?_) fun j i hj hi he => ?_
 ·rcases h with (⟨rfl,_⟩ | ⟨rfl,_⟩ | ⟨i,hi,rfl⟩ | h) | ⟨rfl,_,_⟩
  ·exact c.m.mc.oU
  ·exact c.m.mc.oB
  ·exact c.m.mc.oI i hi
  ·rcases h with ⟨rfl,_⟩ | ⟨rfl,_⟩
   ·exact c.m.mc.oU
   ·exact c.m.mc.oB
  ·exact c.m.mc.oU
 ·obtain ⟨i',hi',e⟩:=BI hj
  obtain ⟨u,hu,e2⟩:=tG hi'
  rw [e,e2] at he ⊢
  exact hKS _ _ he
def qT (ks:List K):Prop:=∀ x ∈ ks,ag x.tr=21
theorem Ci (a b:List K) (h:GF qT a b):a.length=b.length:=by simpa using congrArg List.length h.1
theorem EZ (snap:Nat) (ks b:List K) (h:(Tf snap ks).map K.sv=b.map K.sv):GF qT (Tf snap ks) b:=⟨h,fun x hx=>(je.1 (mH.1 hx).2).2.1⟩
theorem zP {w:World} {xb xo yb yo:Nat} {x y:Sp} {k:ae} (h:w.cell? ⟨U,93,none⟩=some (.bool false)) (hx:dB 1 w xb xo x) (hy:dB 1 w yb yo y) (hne:x.ks≠[]) (hl:x.ks.length < 100000) (hk:∀ w',bV w w'→k (.bool (decide (x.ks.map K.sv=y.ks.map K.sv))) w') :
    bm Tryz.prog (.iface 221 (.pointer (some ⟨U, 0, none⟩))) "ShouldDefragment" #[.func (.func 103) #[] #[], .pointer (some ⟨xb, xo, none⟩), .pointer (some ⟨yb, yo, none⟩)] k w := by
 rw [Tryz.iv221_ShouldDefragment]
 refine lG h hx hy hl fun w' x' => ?_
 have:=hk w' x'
 rw [show decide (x.ks≠[]∧x.ks.map K.sv=y.ks.map K.sv)=decide (x.ks.map K.sv=y.ks.map K.sv) by rw [decide_eq_decide]; exact ⟨fun h=>h.2,fun h=>⟨hne,h⟩⟩]
 exact this
theorem zQ (snap:Nat) (ks:List K):(Tf snap ks).length≤ks.length:=by
 unfold Tf
 rw [List.length_mergeSort]
 exact bz _ _
def If (snap:Nat) (ks:List K):List K:=qN (qs snap ks)
theorem mM (l:List K):(qN l).Perm l:=by
 unfold qN xi
 split
 ·exact List.Perm.refl _
 ·have:=(pdq_sorts zy pT l.toArray 0 l.toArray.size (bitsLen l.toArray.size) true true (by omega) (aD _) (.inl rfl)).1
  simpa using dL this (aD _)
theorem BJ {snap:Nat} {ks:List K} {x:K}:x ∈ If snap ks↔x ∈ qs snap ks:=(mM _).mem_iff
theorem tH {snap:Nat} {ks:List K} {x:K} (h:x ∈ qs snap ks):x ∈ ks:=by
 unfold qs at h
 rcases aq.1 h with h | h
 ·exact (kA.1 h).1
 ·unfold pQ at h
  have:=List.mem_of_mem_take h
  rw [List.mem_mergeSort] at this
  exact (bC.1 this).1
theorem xE (p r:K→Bool) (h:∀ x,p x=true→r x=false) (l:List K):(l.filter p).length+(l.filter r).length≤l.length:=by
 induction l with
 | nil=>simp
 | cons x l ih =>
  rw [List.filter_cons,List.filter_cons,aX]
  cases hp:p x with
  | true=>rw [h x hp]; simp only [if_true,aX,Bool.false_eq_true,if_false]; omega
  | false =>
   cases hr:r x <;> simp only [if_true,aX,Bool.false_eq_true,if_false] <;> omega
theorem xF (snap:Nat) (ks:List K):(qs snap ks).length≤ks.length:=by
 unfold qs Uf pQ
 rw [aO,List.length_mergeSort]
 have h1:=xE (BH snap ks) (qq snap) (fun x hx=>by
  have:=(gQ.1 hx).2.1
  unfold qq
  simp [this]) ks
 have h2:(((ks.filter (qq snap)).mergeSort z4).take 1).length≤(ks.filter (qq snap)).length:=by
  rw [bH,List.length_mergeSort]; omega
 omega
theorem lY (snap:Nat) (ks:List K):(If snap ks).length≤ks.length:=by
 unfold If
 rw [(mM _).length_eq]
 exact xF _ _
theorem vJ (ne:Bf≠U) (oU:dA d U) (oB:dA d Bf) (hC:d.cell? ⟨C,1,none⟩=some (.func (.func 103) #[] #[])) (hs:snap < 18446744073709551616):TI d U (2+4) Bf (fun ks=>∀ x ∈ ks,ag x.tr=19→x.suf=[]) (uX d U Bf C snap true (If snap) 0):=by
 refine UX.ti ne oU oB fun {w S l ks ka sa ea cap sn sc en ec k} hX q6 q7 q8 q9 hkey fU fB hd hv hS hdk hl hp hcd h9 hq => ?_
 obtain ⟨vs,ls,os,oo,rfl⟩:=hX.s
 refine lu hX.u0 hX.u1 hX.u93 hX.u94 hC hX.c9 hkey os ⟨_,q6⟩ ⟨_,q7⟩ q8 ⟨_,q9⟩ fU fB hd oU oB ne (fun g hg=>⟨(hv g hg).1,(hv g hg).2.1,(hv g hg).2.2.1⟩) (fun g hg=>⟨(hS g hg).1,(hS g hg).2,oo g hg,fun h=>(hv g h).2.2.2 hg⟩) hdk hl (fun x hx=>hcd.kind _ (hp.mem_iff.1 (List.mem_map_of_mem hx))) hs (fun _ w' r v L hcr p6 p7 p8 p9 ok os' hL b9 nw k4 => ?_) (fun h=>by cases h)
 obtain ⟨va,vc,rfl,_,_⟩:=bF os'.own
 refine hq w' (fun b=>(Value.slice va L.length vc).ownBlock=some b) l _ p6 p7 p8 (p9 _ q9) ok rfl ⟨va,L.length,vc,L,L,rfl,os'.own,rfl,ai,os'.good,?_,fun g hg => .inr hg⟩ (hX.tr k4 ne (fun g hg=>⟨(hv g hg).1,(hv g hg).2.1⟩) (fun g hg=>⟨(hS g hg).1,(hS g hg).2,oo g hg⟩) hd os' b9 nw) nw (k4.mono fun b x _ h => ?_)
 ·rw [hL,GI hdk hcr hp hcd h9]; rfl
 rcases h with ⟨h1,h2,h3⟩ | ⟨h1,h2,h3⟩ | h | h
 ·exact .inl ⟨h1,h2,h3⟩
 ·exact .inr (.inl (.inr ⟨h1,by omega⟩))
 ·exact .inr (.inr (.inl h))
 ·exact .inr (.inr (.inr h))
end
end Go.E
end
section
namespace Go.E
open Go Go.Sort Go.Proofs Go.Proofs.Tryz
open Classical in
theorem vL {d w w2:World} (hi:cH d w) (x:bV w w2):∃ d2,Gr d w d2 w2∧∀ b o u,w.heap.size≤b→w2.cell? ⟨b,o,none⟩=some u→d2.cell? ⟨b,o,none⟩=some u:=by
 let D:Nat→Bool:=fun b=>decide (¬ dA d b∨w.heap.size≤b)
 have hD:∀ b o u,d.cell? ⟨b,o,none⟩=some u→D b=true:=fun b o u hu=>aQ (.inl fun ho=>by rw [ho o] at hu; simp at hu)
 refine ⟨only w2 D,⟨x,qF (hi.trans x.inc) D hD,qC w2 D,fun b hb ho=>qE w2 D (aF fun h=>h.elim (fun h=>h ho) fun h=>by omega)⟩,fun b o u hb hu => ?_⟩
 rw [ic,show D b=true from aQ (.inr hb),if_pos rfl]
 exact hu
theorem fC.imp {α:Type} {R R2:World→Nat→Nat→α→Prop} {sz:Nat} {w:World} {v:Value} {l:List α} (h:fC R sz w v l) (hi:∀ b o x,x ∈ l→R w b o x→R2 w b o x):fC R2 sz w v l:=by
 unfold fC at h ⊢
 split at h
 ·exact h
 ·exact ⟨h.1,h.2.1,h.2.2.1,fun i x hx=>hi _ _ _ (aL hx) (h.2.2.2 i x hx)⟩
 ·exact h.elim
def KB:gY K:=fun w cs x=>∃ a b,cs=[.int .u64 x.tr,a,b]∧x.tr < 18446744073709551616∧eO w a x.suf∧eO w b x.val
theorem KB.mono:ga KB:=fun _ _ _ _ hi ⟨a,b,h1,h2,h3,h4⟩=>⟨a,b,h1,h2,h3.inc hi,h4.inc hi⟩
def B6:gY Sp:=fun w cs x=>∃ a b v,cs=[a,b,v,.int .i8 0]∧nz a=true∧eO w a x.s∧nz b=true∧eO w b x.e∧Sl KB 3 w v x.ks
theorem B6.mono:ga B6:=fun _ _ _ _ hi ⟨a,b,v,h1,h2,h3,h4,h5,h6⟩=>⟨a,b,v,h1,h2,h3.inc hi,h4,h5.inc hi,h6.inc KB.mono hi⟩
theorem KB.key {w:World} {b o:Nat} {x:K} (h:Cf KB 3 w b o x):ld w b o x:=by
 obtain ⟨cs,_,hc,a,a2,rfl,h2,h3,h4⟩:=h
 exact ⟨hc 0 _ rfl,h2,⟨a,hc 1 _ rfl,h3⟩,a2,hc 2 _ rfl,h4⟩
theorem B6.span {w:World} {b o:Nat} {x:Sp} (h:Cf B6 4 w b o x):uZ w b o x:=by
 obtain ⟨cs,_,hc,a,a2,v,rfl,h2,h3,h4,h5,h6⟩:=h
 exact ⟨⟨a,hc 0 _ rfl,h2,h3⟩,⟨a2,hc 1 _ rfl,h4,h5⟩,⟨v,hc 2 _ rfl,h6.imp fun _ _ _ _ h=>KB.key h⟩,hc 3 _ rfl⟩
def Cj (x:K):Prop:=x.suf.length≤4294967296∧x.val.length≤4294967296
def BK (x:Sp):Prop:=x.s.length≤4294967296∧x.e.length≤4294967296∧x.ks.length < 1000000∧∀ k ∈ x.ks,Cj k
end Go.E
namespace Go.Proofs
open Go Go.E Go.Sort Go.Proofs.Tryz
section
variable {k:ae} {d w:World}
theorem dq {s:Bytes} {q:ae} (hinc:cH d w) (hs:s.length≤4294967296) (hk:∀ d2 w2 a n c,Gr d w d2 w2→eO d2 (.slice (some a) n c) s→q (.slice (some a) n c) w2):FC prog 9 107 (.string ⟨s.toArray⟩) q w:=by
 unfold FC
 refine wS Tryz.underlying9 Tryz.underlying107 Tryz.underlying5 (by simp only [ByteArray.size,List.size_toArray]; omega) fun n c w2 h2 hn x2 _ => ?_
 obtain ⟨d2,g2,e2⟩:=vL hinc x2
 have h3:eO w2 (.slice (some ⟨w.heap.size,0,none⟩) n c) s:=h2
 exact hk d2 w2 _ n c g2 ⟨h3.1,h3.2.1,fun i v hv=>e2 _ _ _ (aD _) (h3.2.2 i v hv)⟩
theorem sE {s:Bytes} (hinc:cH d w) (hs:s.length≤4294967296) (hk:∀ d2 w2 v,Gr d w d2 w2→eO d2 v s→k v w2):aU prog 126 #[.string ⟨s.toArray⟩] k w:=by
 refine aW [.tmp 2] func126 ?_
 cases s with
 | nil =>
  refine aY ?_
  exact hk d w _ (Gr.refl hinc) ⟨rfl,rfl⟩
 | cons a s =>
  have e:((⟨(a :: s).toArray⟩:ByteArray).toList == (⟨#[]⟩:ByteArray).toList)=false:=by rw [ByteArray.toList_mk,ByteArray.toList_mk]; rfl
  refine bP @e ?_
  refine dq hinc hs fun d2 w2 a2 n c g2 h2 => ?_
  refine aY ?_
  exact hk d2 w2 _ g2 h2
theorem rL {v:Value} {l:List K} (hv:Sl KE 3 d v l) (hl:l.length < 1000000) (hlen:∀ x ∈ l,Cj x) (hinc:cH d w) (hk:∀ d' w' v',LoopL KB 3 256 d w d' w' v' l→k v' w'):aU prog 91 #[v] k w:=by
 obtain ⟨ka,kc,rfl⟩:=hv.form
 refine aW [.tmp 2] func91 ?_
 refine aY ?_
 refine bI (fun b:Nat × Value=>[(3,b.2),(6,.slice ka l.length kc),(7,.int .i64 l.length),(8,.int .i64 b.1)])
  (fun b w'=>b.1≤l.length∧∃ d1,LoopL KB 3 256 d w d1 w' b.2 (l.take b.1)) (fun b _=>l.length - b.1) (0,.slice none 0 0) (by kernel_rfl) ?_ ⟨aM _,d,LoopL.nil hinc⟩ ?_
 ·exact bA
 rintro K2 e ⟨i,v⟩ w1 ⟨i2,d1,i3⟩ hK2
 simp only at i2 i3
 rcases aH i l.length with hi | hi
 rotate_left
 ·have hi':¬ (i:Int) < l.length:=by omega
  refine bP @hi' ?_
  obtain rfl:i=l.length:=by omega
  rw [ai] at i3
  exact hk d1 w1 v i3
 have hi':(i:Int) < l.length:=by omega
 obtain ⟨g,f,c,hv',hc,hat⟩:=(hv.inc KE.mono i3.g.i).at (by omega)
 obtain ⟨rfl,rfl⟩:=sEq hv'
 obtain ⟨x,hx⟩:=gEl hi
 obtain ⟨cs,_,hcs,hR⟩:=hat i x hx
 have hmem:=aL hx
 obtain ⟨rfl,htr⟩:=hR
 have h0:w1.cell? ⟨g,f+i * 3,none⟩=some (.int .u64 x.tr):=i3.g.j _ _ _ (hcs 0 _ rfl)
 have h1:w1.cell? ⟨g,f+i * 3+1,none⟩=some (.string ⟨x.suf.toArray⟩):=i3.g.j _ _ _ (hcs 1 _ rfl)
 have h2:w1.cell? ⟨g,f+i * 3+2,none⟩=some (.string ⟨x.val.toArray⟩):=i3.g.j _ _ _ (hcs 2 _ rfl)
 refine eI @hi' @h0 @h1 @h2 ?_
 refine ao (sq [0,1] (.read 2 (sq [3] (.read 4 (sq [6] (.read 7 (.eff 5 [2,7] (.eff 8 [2] (sq [9] (.eff 10 [] (.eff 11 [] (sq [12] .done)))))))))))) ?_
 refine aY ?_
 obtain ⟨sb,hsb⟩:∃ sb,sb=w1.heap.size:=⟨_,rfl⟩
 obtain ⟨w3,hw3⟩:∃ w3,w3=(w1.alloc (.cells #[.int .u64 x.tr,.string ⟨x.suf.toArray⟩,.string ⟨x.val.toArray⟩] 62)).drew:=⟨_,rfl⟩
 have x3:bV w1 w3:=by rw [hw3]; exact Keep.drew (aK _)
 have p0:w3.cell? ⟨sb,0,none⟩=some (.int .u64 x.tr):=by rw [hw3,hsb]; exact bU @aA
 have p1:w3.cell? ⟨sb,1,none⟩=some (.string ⟨x.suf.toArray⟩):=by rw [hw3,hsb]; exact bU @aA
 have p2:w3.cell? ⟨sb,2,none⟩=some (.string ⟨x.val.toArray⟩):=by rw [hw3,hsb]; exact bU @aA
 rw [← hw3,← hsb]
 have i4:=i3.ext KB.mono x3
 refine sE i4.g.j (hlen x hmem).1 fun d4 w4 v4 g4 b4 => ?_
 have i5:=i4.call KB.mono g4
 obtain ⟨a4,c4,rfl⟩:=av b4
 have p0:=g4.x.cell p0
 have p1:=g4.x.cell p1
 have p2:=g4.x.cell p2
 refine dg @p0 @p1 @p2 ?_
 refine sE i5.g.j (hlen x hmem).2 fun d5 w5 v5 g5 b5 => ?_
 have i6:=i5.call KB.mono g5
 obtain ⟨a5,c5,rfl⟩:=av b5
 have p0:=g5.x.cell p0
 have p1:=g5.x.cell p1
 have p2:=g5.x.cell p2
 obtain ⟨va,vcap,rfl,_⟩:=i6.form
 refine dg @p0 @p1 @p2 ?_
 obtain ⟨css,o6⟩:=i6.o
 refine pP x [.int .u64 x.tr,.slice a4 x.suf.length c4,.slice a5 x.val.length c5] rw110 o6 ⟨_,_,rfl,htr,b4.inc g5.i,b5⟩ rfl (.inl rfl) rfl rfl (by simp [Value.oneCell']) (by rw [eD i2]; omega) i6.g.j fun v2 w2 o2 k2 n2 j2 _ => ?_
 refine dg @p0 @p1 @p2 ?_
 refine hK2 _ _ (i+1,v2) ?_ ⟨hi,d5,?_⟩ (by simp only; omega)
 ·exact bA
 ·rw [cj hx]
  exact i6.more o2 k2 n2 j2
theorem gR {v:Value} {l:List K} (hv:Sl KE 3 d v l) (hl:l.length < 1000000) (hlen:∀ x ∈ l,Cj x) (hinc:cH d w) (hk:∀ d' w' v',Gr d w d' w'→Sl KB 3 d' v' l→k v' w'):aU prog 91 #[v] k w :=
 rL hv hl hlen hinc fun d1 w1 v i3=>by
  obtain ⟨d2,g2,_,_,s2⟩:=i3.done KB.mono
  exact hk d2 w1 v g2 s2
theorem BL {kv:Value} {x:Sp} (hv:Sl KE 3 d kv x.ks) (hl:BK x) (hinc:cH d w) (hk:∀ d' w' a b v',Gr d w d' w'→nz a=true→eO d' a x.s→nz b=true→eO d' b x.e→Sl KB 3 d' v' x.ks→k (.agg #[a,b,v',.int .i8 0]) w') :
    aU prog 84 #[.agg #[.string ⟨x.s.toArray⟩,.string ⟨x.e.toArray⟩,kv]] k w:=by
 obtain ⟨ka,kc,rfl⟩:=hv.form
 refine aW [.cell 2 114] func84 ?_
 refine aY ?_
 refine ao (sq [0] (.read 1 (sq [3] (.read 4 (sq [6] (.read 7 (.alt (.alt (.eff 2 [4,7] (.alt (.eff 5 [1,7] (.eff 8 [1,4] (sq [9] (.eff 10 [] .done)))) (.eff 8 [1,4] (.eff 5 [1,7] (sq [9] (.eff 10 [] .done)))))) (.eff 5 [1,7] (.alt (.eff 2 [4,7] (.eff 8 [1,4] (sq [9] (.eff 10 [] .done)))) (.eff 8 [1,4] (.eff 2 [4,7] (sq [9] (.eff 10 [] .done))))))) (.eff 8 [1,4] (.alt (.eff 2 [4,7] (.eff 5 [1,7] (sq [9] (.eff 10 [] .done)))) (.eff 5 [1,7] (.eff 2 [4,7] (sq [9] (.eff 10 [] .done))))))))))))) ?_
 refine aY ?_
 obtain ⟨b,hb⟩:∃ b,b=w.heap.size:=⟨_,rfl⟩
 obtain ⟨w1,hw1⟩:∃ w1,w1=((w.alloc (.cells #[.string ⟨x.s.toArray⟩,.string ⟨x.e.toArray⟩,.slice ka x.ks.length kc] 56)).alloc (.cells #[.slice none 0 0,.slice none 0 0,.slice none 0 0,.int .i8 0] 114)).drew:=⟨_,rfl⟩
 rw [← hw1,← hb]
 have k1:bV w w1:=by rw [hw1]; exact Keep.drew ((aK _).trans (aK _))
 have z1:w1.heap.size=w.heap.size+2:=by rw [hw1,World.size_drew,World.size_alloc,World.size_alloc]
 have a0:w1.cell? ⟨b,0,none⟩=some (.string ⟨x.s.toArray⟩):=by rw [hw1,hb]; exact bU @aA
 have a1:w1.cell? ⟨b,1,none⟩=some (.string ⟨x.e.toArray⟩):=by rw [hw1,hb]; exact bU @aA
 have a2:w1.cell? ⟨b,2,none⟩=some (.slice ka x.ks.length kc):=by rw [hw1,hb]; exact bU @aA
 have b0:w1.cell? ⟨b+1,0,none⟩=some (.slice none 0 0):=by rw [hw1,hb]; exact bU @aA
 have b1:w1.cell? ⟨b+1,1,none⟩=some (.slice none 0 0):=by rw [hw1,hb]; exact bU @aA
 have b2:w1.cell? ⟨b+1,2,none⟩=some (.slice none 0 0):=by rw [hw1,hb]; exact bU @aA
 have b3:w1.cell? ⟨b+1,3,none⟩=some (.int .i8 0):=by rw [hw1,hb]; exact bU @aA
 have f1:∀ o,w1.frozen? ⟨b+1,o,none⟩=false:=fun o=>by rw [hw1,hb]; simp (disch:=first | exact dZ | fail) only [go_sem]
 have ob:dA d (b+1):=hinc.out (by omega)
 have t1:Gr d w1 d w1:=Gr.refl (hinc.trans k1.inc)
 refine ⟨⟨?_,?_⟩,?_⟩
 ·refine dq t1.j hl.1 fun d2 w2 sa sn sc g2 hS => ?_
  have t2:=t1.trans g2
  have c0:=t2.x.cell a0
  have c1:=t2.x.cell a1
  have c2:=t2.x.cell a2
  refine dg @c0 @c1 @c2 ?_
  refine ⟨?_,?_⟩
  ·refine dq t2.j hl.2.1 fun d3 w3 ea en ec g3 hE => ?_
   have t3:=t2.trans g3
   have hS:=hS.inc g3.i
   have c0:=t3.x.cell a0
   have c1:=t3.x.cell a1
   have c2:=t3.x.cell a2
   refine dg @c0 @c1 @c2 ?_
   refine gR (hv.inc KE.mono t3.i) hl.2.2.1 hl.2.2.2 t3.j fun d4 w4 v4 g4 hQ => ?_
   obtain ⟨va,vc,rfl⟩:=hQ.form
   have t4:=t3.trans g4
   have hS:=hS.inc g4.i
   have hE:=hE.inc g4.i
   have c0:=t4.x.cell a0
   have c1:=t4.x.cell a1
   have c2:=t4.x.cell a2
   have b0:=t4.x.cell b0
   have b1:=t4.x.cell b1
   have b2:=t4.x.cell b2
   have b3:=t4.x.cell b3
   have f4:∀ o,w4.frozen? ⟨b+1,o,none⟩=false:=fun o=>by rw [t4.x.frozen _ o (by omega)]; exact f1 o
   refine yj @c0 @c1 @c2 @b0 @b1 @b2 @b3 @f4 ?_
   have k4:=k1.trans t4.x
   have ho:dA d4 (b+1):=t4.o _ (by omega) ob
   refine hk d4 _ _ _ _ ⟨bQ (bQ (bQ (bQ k4 (by omega)) (by omega)) (by omega)) (by omega),t4.i,?_,fun c hc ho=>t4.o c (aG hc k1.size) ho⟩ rfl hS rfl hE hQ
   exact (((t4.j.set ho).set ho).set ho).set ho
  ·refine gR (hv.inc KE.mono t2.i) hl.2.2.1 hl.2.2.2 t2.j fun d3 w3 v4 g3 hQ => ?_
   obtain ⟨va,vc,rfl⟩:=hQ.form
   have t3:=t2.trans g3
   have hS:=hS.inc g3.i
   have c0:=t3.x.cell a0
   have c1:=t3.x.cell a1
   have c2:=t3.x.cell a2
   refine dg @c0 @c1 @c2 ?_
   refine dq t3.j hl.2.1 fun d4 w4 ea en ec g4 hE => ?_
   have t4:=t3.trans g4
   have hS:=hS.inc g4.i
   have hQ:=hQ.inc KB.mono g4.i
   have c0:=t4.x.cell a0
   have c1:=t4.x.cell a1
   have c2:=t4.x.cell a2
   have b0:=t4.x.cell b0
   have b1:=t4.x.cell b1
   have b2:=t4.x.cell b2
   have b3:=t4.x.cell b3
   have f4:∀ o,w4.frozen? ⟨b+1,o,none⟩=false:=fun o=>by rw [t4.x.frozen _ o (by omega)]; exact f1 o
   refine yj @c0 @c1 @c2 @b0 @b1 @b2 @b3 @f4 ?_
   have k4:=k1.trans t4.x
   have ho:dA d4 (b+1):=t4.o _ (by omega) ob
   refine hk d4 _ _ _ _ ⟨bQ (bQ (bQ (bQ k4 (by omega)) (by omega)) (by omega)) (by omega),t4.i,?_,fun c hc ho=>t4.o c (aG hc k1.size) ho⟩ rfl hS rfl hE hQ
   exact (((t4.j.set ho).set ho).set ho).set ho
 ·refine dq t1.j hl.2.1 fun d2 w2 ea en ec g2 hE => ?_
  have t2:=t1.trans g2
  have c0:=t2.x.cell a0
  have c1:=t2.x.cell a1
  have c2:=t2.x.cell a2
  refine dg @c0 @c1 @c2 ?_
  refine ⟨?_,?_⟩
  ·refine dq t2.j hl.1 fun d3 w3 sa sn sc g3 hS => ?_
   have t3:=t2.trans g3
   have hE:=hE.inc g3.i
   have c0:=t3.x.cell a0
   have c1:=t3.x.cell a1
   have c2:=t3.x.cell a2
   refine dg @c0 @c1 @c2 ?_
   refine gR (hv.inc KE.mono t3.i) hl.2.2.1 hl.2.2.2 t3.j fun d4 w4 v4 g4 hQ => ?_
   obtain ⟨va,vc,rfl⟩:=hQ.form
   have t4:=t3.trans g4
   have hE:=hE.inc g4.i
   have hS:=hS.inc g4.i
   have c0:=t4.x.cell a0
   have c1:=t4.x.cell a1
   have c2:=t4.x.cell a2
   have b0:=t4.x.cell b0
   have b1:=t4.x.cell b1
   have b2:=t4.x.cell b2
   have b3:=t4.x.cell b3
   have f4:∀ o,w4.frozen? ⟨b+1,o,none⟩=false:=fun o=>by rw [t4.x.frozen _ o (by omega)]; exact f1 o
   refine yj @c0 @c1 @c2 @b0 @b1 @b2 @b3 @f4 ?_
   have k4:=k1.trans t4.x
   have ho:dA d4 (b+1):=t4.o _ (by omega) ob
   refine hk d4 _ _ _ _ ⟨bQ (bQ (bQ (bQ k4 (by omega)) (by omega)) (by omega)) (by omega),t4.i,?_,fun c hc ho=>t4.o c (aG hc k1.size) ho⟩ rfl hS rfl hE hQ
   exact (((t4.j.set ho).set ho).set ho).set ho
  ·refine gR (hv.inc KE.mono t2.i) hl.2.2.1 hl.2.2.2 t2.j fun d3 w3 v4 g3 hQ => ?_
   obtain ⟨va,vc,rfl⟩:=hQ.form
   have t3:=t2.trans g3
   have hE:=hE.inc g3.i
   have c0:=t3.x.cell a0
   have c1:=t3.x.cell a1
   have c2:=t3.x.cell a2
   refine dg @c0 @c1 @c2 ?_
   refine dq t3.j hl.1 fun d4 w4 sa sn sc g4 hS => ?_
   have t4:=t3.trans g4
   have hE:=hE.inc g4.i
   have hQ:=hQ.inc KB.mono g4.i
   have c0:=t4.x.cell a0
   have c1:=t4.x.cell a1
   have c2:=t4.x.cell a2
   have b0:=t4.x.cell b0
   have b1:=t4.x.cell b1
   have b2:=t4.x.cell b2
   have b3:=t4.x.cell b3
   have f4:∀ o,w4.frozen? ⟨b+1,o,none⟩=false:=fun o=>by rw [t4.x.frozen _ o (by omega)]; exact f1 o
   refine yj @c0 @c1 @c2 @b0 @b1 @b2 @b3 @f4 ?_
   have k4:=k1.trans t4.x
   have ho:dA d4 (b+1):=t4.o _ (by omega) ob
   refine hk d4 _ _ _ _ ⟨bQ (bQ (bQ (bQ k4 (by omega)) (by omega)) (by omega)) (by omega),t4.i,?_,fun c hc ho=>t4.o c (aG hc k1.size) ho⟩ rfl hS rfl hE hQ
   exact (((t4.j.set ho).set ho).set ho).set ho
 ·refine gR (hv.inc KE.mono t1.i) hl.2.2.1 hl.2.2.2 t1.j fun d2 w2 v4 g2 hQ => ?_
  obtain ⟨va,vc,rfl⟩:=hQ.form
  have t2:=t1.trans g2
  have c0:=t2.x.cell a0
  have c1:=t2.x.cell a1
  have c2:=t2.x.cell a2
  refine dg @c0 @c1 @c2 ?_
  refine ⟨?_,?_⟩
  ·refine dq t2.j hl.1 fun d3 w3 sa sn sc g3 hS => ?_
   have t3:=t2.trans g3
   have hQ:=hQ.inc KB.mono g3.i
   have c0:=t3.x.cell a0
   have c1:=t3.x.cell a1
   have c2:=t3.x.cell a2
   refine dg @c0 @c1 @c2 ?_
   refine dq t3.j hl.2.1 fun d4 w4 ea en ec g4 hE => ?_
   have t4:=t3.trans g4
   have hQ:=hQ.inc KB.mono g4.i
   have hS:=hS.inc g4.i
   have c0:=t4.x.cell a0
   have c1:=t4.x.cell a1
   have c2:=t4.x.cell a2
   have b0:=t4.x.cell b0
   have b1:=t4.x.cell b1
   have b2:=t4.x.cell b2
   have b3:=t4.x.cell b3
   have f4:∀ o,w4.frozen? ⟨b+1,o,none⟩=false:=fun o=>by rw [t4.x.frozen _ o (by omega)]; exact f1 o
   refine yj @c0 @c1 @c2 @b0 @b1 @b2 @b3 @f4 ?_
   have k4:=k1.trans t4.x
   have ho:dA d4 (b+1):=t4.o _ (by omega) ob
   refine hk d4 _ _ _ _ ⟨bQ (bQ (bQ (bQ k4 (by omega)) (by omega)) (by omega)) (by omega),t4.i,?_,fun c hc ho=>t4.o c (aG hc k1.size) ho⟩ rfl hS rfl hE hQ
   exact (((t4.j.set ho).set ho).set ho).set ho
  ·refine dq t2.j hl.2.1 fun d3 w3 ea en ec g3 hE => ?_
   have t3:=t2.trans g3
   have hQ:=hQ.inc KB.mono g3.i
   have c0:=t3.x.cell a0
   have c1:=t3.x.cell a1
   have c2:=t3.x.cell a2
   refine dg @c0 @c1 @c2 ?_
   refine dq t3.j hl.1 fun d4 w4 sa sn sc g4 hS => ?_
   have t4:=t3.trans g4
   have hQ:=hQ.inc KB.mono g4.i
   have hE:=hE.inc g4.i
   have c0:=t4.x.cell a0
   have c1:=t4.x.cell a1
   have c2:=t4.x.cell a2
   have b0:=t4.x.cell b0
   have b1:=t4.x.cell b1
   have b2:=t4.x.cell b2
   have b3:=t4.x.cell b3
   have f4:∀ o,w4.frozen? ⟨b+1,o,none⟩=false:=fun o=>by rw [t4.x.frozen _ o (by omega)]; exact f1 o
   refine yj @c0 @c1 @c2 @b0 @b1 @b2 @b3 @f4 ?_
   have k4:=k1.trans t4.x
   have ho:dA d4 (b+1):=t4.o _ (by omega) ob
   refine hk d4 _ _ _ _ ⟨bQ (bQ (bQ (bQ k4 (by omega)) (by omega)) (by omega)) (by omega),t4.i,?_,fun c hc ho=>t4.o c (aG hc k1.size) ho⟩ rfl hS rfl hE hQ
   exact (((t4.j.set ho).set ho).set ho).set ho
theorem zR {v:Value} {l:List Sp} (hv:Sl jB 3 d v l) (hl:l.length < 1000000) (hlen:∀ x ∈ l,BK x) (hinc:cH d w) (hk:∀ d' w' v',Gr d w d' w'→Sl B6 4 d' v' l→k v' w'):aU prog 86 #[v] k w:=by
 obtain ⟨ka,kc,rfl⟩:=hv.form
 refine aW [.tmp 2] func86 ?_
 refine aY ?_
 refine bI (fun b:Nat × Value=>[(3,b.2),(6,.slice ka l.length kc),(7,.int .i64 l.length),(8,.int .i64 b.1)])
  (fun b w'=>b.1≤l.length∧∃ d1,LoopL B6 4 114 d w d1 w' b.2 (l.take b.1)) (fun b _=>l.length - b.1) (0,.slice none 0 0) (by kernel_rfl) ?_ ⟨aM _,d,LoopL.nil hinc⟩ ?_
 ·exact bA
 rintro K2 e ⟨i,v⟩ w1 ⟨i2,d1,i3⟩ hK2
 simp only at i2 i3
 rcases aH i l.length with hi | hi
 rotate_left
 ·have hi':¬ (i:Int) < l.length:=by omega
  refine bP @hi' ?_
  obtain rfl:i=l.length:=by omega
  rw [ai] at i3
  obtain ⟨d2,g2,_,_,s2⟩:=i3.done B6.mono
  exact hk d2 w1 v g2 s2
 have hi':(i:Int) < l.length:=by omega
 obtain ⟨g,f,c,hv',hc,hat⟩:=(hv.inc jB.mono i3.g.i).at (by omega)
 obtain ⟨rfl,rfl⟩:=sEq hv'
 obtain ⟨x,hx⟩:=gEl hi
 obtain ⟨cs,_,hcs,hR⟩:=hat i x hx
 have hmem:=aL hx
 obtain ⟨kv,rfl,hkv⟩:=hR
 obtain ⟨kva,kvc,rfl⟩:=hkv.form
 have h0:w1.cell? ⟨g,f+i * 3,none⟩=some (.string ⟨x.s.toArray⟩):=i3.g.j _ _ _ (hcs 0 _ rfl)
 have h1:w1.cell? ⟨g,f+i * 3+1,none⟩=some (.string ⟨x.e.toArray⟩):=i3.g.j _ _ _ (hcs 1 _ rfl)
 have h2:w1.cell? ⟨g,f+i * 3+2,none⟩=some (.slice kva x.ks.length kvc):=i3.g.j _ _ _ (hcs 2 _ rfl)
 refine eI @hi' @h0 @h1 @h2 ?_
 have x3:bV w1 (w1.alloc (.cells #[.string ⟨x.s.toArray⟩,.string ⟨x.e.toArray⟩,.slice kva x.ks.length kvc] 56)):=aK _
 have i4:=i3.ext B6.mono x3
 refine BL hkv (hlen x hmem) i4.g.j fun d4 w4 sa ea v4 g4 s1 s2 s3 s4 s5 => ?_
 have i5:=i4.call B6.mono g4
 obtain ⟨sa',sc',rfl⟩:=av s2
 obtain ⟨ea',ec',rfl⟩:=av s4
 obtain ⟨va,vcap,rfl,_⟩:=i5.form
 obtain ⟨k4,c4,rfl⟩:=s5.form
 refine aY ?_
 obtain ⟨css,o5⟩:=i5.o
 refine pP x [.slice sa' x.s.length sc',.slice ea' x.e.length ec',.slice k4 x.ks.length c4,.int .i8 0] rw195 o5 ⟨_,_,_,rfl,s1,s2,s3,s4,s5⟩ rfl (.inl rfl) rfl rfl (by simp [Value.oneCell']) (by rw [eD i2]; omega) i5.g.j fun v2 w2 o2 k2 n2 j2 _ => ?_
 refine aY ?_
 refine hK2 _ _ (i+1,v2) ?_ ⟨hi,d4,?_⟩ (by simp only; omega)
 ·exact bA
 ·rw [cj hx]
  exact i5.more o2 k2 n2 j2
end
end Go.Proofs
end
section
namespace Go.E
open Go Go.Sort Go.Proofs Go.Proofs.Tryz
def kO:gY (List Sp):=fun w cs x=>∃ v,cs=[v]∧Sl jB 3 w v x
theorem kO.mono:ga kO:=fun _ _ _ _ hi ⟨v,h1,h2⟩=>⟨v,h1,h2.inc jB.mono hi⟩
def zS:gY Lvl:=fun _ cs x=>cs=[.iface 233 (.pointer (some ⟨x.I,0,none⟩))]
theorem zS.mono:ga zS:=fun _ _ _ _ _ h=>h
structure ItsAt (n:Nat) (d w:World) (Ls:List Lvl):Prop where
 at_:∀ x ∈ Ls,IterAt w x.I x.b x.o x.L.length (-1)∧hJ d x.b x.o x.L∧dA d x.I∧n≤x.I∧x.I < w.heap.size
 ne:Ls.Pairwise fun x y=>x.I≠y.I
theorem ItsAt.keep {n:Nat} {d d2 w w2:World} {Ls:List Lvl} {M:Nat→Nat→Prop} (h:ItsAt n d w Ls) (hk:Keep M w w2) (hm:∀ x ∈ Ls,∀ o,¬ M x.I o) (hi:cH d d2) (ho:∀ b,dA d b→(∃ x ∈ Ls,x.I=b)→dA d2 b):ItsAt n d2 w2 Ls where
 at_ x hx:=by
  obtain ⟨a1,a2,a3,a4,a5⟩:=h.at_ x hx
  exact ⟨a1.keep hk (hm x hx),a2.inc hi,ho _ a3 ⟨x,hx,rfl⟩,a4,aG a5 hk.size⟩
 ne:=h.ne
def Ck:Obj := .cells #[.func (.func 102) #[] #[],.func (.func 103) #[] #[],.func (.func 104) #[] #[],.nilFunc,.func (.func 106) #[] #[],.nilFunc,.func (.func 108) #[] #[],.func (.func 109) #[] #[],
 .string ⟨#[108,101,118,101,108,100,98,46,66,121,116,101,119,105,115,101,67,111,109,112,97,114,97,116,111,114]⟩] 208
end Go.E
namespace Go.Proofs
open Go Go.E Go.Sort Go.Proofs.Tryz
section
variable {k:ae} {d w:World}
theorem lg (hk:k (.pointer (some ⟨w.heap.size,0,none⟩)) (w.alloc Ck)):aU prog 66 #[] k w:=by
 refine aW [.tmp 0] func66 ?_
 refine aY ?_
 exact hk
theorem vM {a:Option Addr} {n c:Nat} (hk:k (.pointer (some ⟨w.heap.size,0,none⟩)) (w.alloc (.cells #[.func (.func 102) #[] #[],.slice a n c,.int .i64 (-1)] 261))):aU prog 110 #[.func (.func 102) #[] #[],.slice a n c] k w:=by
 refine aW [.tmp 4] func110 ?_
 refine aY ?_
 refine aW [] func134 ?_
 refine aY ?_
 exact hk
theorem cw {v:Value} {l:List (List Sp)} (hv:Sl kO 1 d v l) (hl:l.length < 1000000) (hlen:∀ x ∈ l,x.length < 1000000∧∀ s ∈ x,BK s) (hinc:cH d w)
    (hk:∀ d' w' v' Ls,Gr d w d' w'→Sl zS 1 d' v' Ls→ItsAt w.heap.size d' w' Ls→Ls.map Lvl.L=l→k v' w'):aU prog 68 #[v] k w:=by
 obtain ⟨ka,kc,rfl⟩:=hv.form
 refine aW [.tmp 2] func68 ?_
 refine aY ?_
 refine bI (fun b:Nat × Value=>[(3,b.2),(6,.slice ka l.length kc),(7,.int .i64 l.length),(8,.int .i64 b.1)])
  (fun b w'=>b.1≤l.length∧∃ d1 Ls,LoopL zS 1 118 d w d1 w' b.2 Ls∧ItsAt w.heap.size d1 w' Ls∧Ls.map Lvl.L=l.take b.1∧∀ x ∈ Ls,b.2.ownBlock≠some x.I) (fun b _=>l.length - b.1) (0,.slice none 0 0) (by kernel_rfl) ?_ ⟨aM _,d,[],LoopL.nil hinc,⟨by simp,.nil⟩,rfl,by simp⟩ ?_
 ·exact bA
 rintro K2 e ⟨i,v⟩ w1 ⟨i2,d1,Ls,i3,it,hm,hne⟩ hK2
 simp only at i2 i3 hm hne
 have hLs:Ls.length=i:=by
  have:=congrArg List.length hm
  rwa [bK,eD i2] at this
 rcases aH i l.length with hi | hi
 rotate_left
 ·have hi':¬ (i:Int) < l.length:=by omega
  refine bP @hi' ?_
  obtain rfl:i=l.length:=by omega
  rw [ai] at hm
  obtain ⟨d2,g2,i2,o2,s2⟩:=i3.done zS.mono
  exact hk d2 w1 v Ls g2 s2 (it.keep (bV.refl w1) (fun _ _ _ h=>h) i2 fun b h1 h2=>o2 b h1 fun h=>by obtain ⟨x,hx,rfl⟩:=h2; exact hne x hx h) hm
 have hi':(i:Int) < l.length:=by omega
 obtain ⟨g,f,c,hv',hc,hat⟩:=(hv.inc kO.mono i3.g.i).at (by omega)
 obtain ⟨rfl,rfl⟩:=sEq hv'
 obtain ⟨x,hx⟩:=gEl hi
 obtain ⟨cs,_,hcs,u,rfl,hu⟩:=hat i _ hx
 have hmem:=aL hx
 obtain ⟨ua,uc,rfl⟩:=hu.form
 have h0:w1.cell? ⟨g,f+i * 1,none⟩=some (.slice ua x.length uc):=i3.g.j _ _ _ (hcs 0 _ rfl)
 refine dU @hi' @h0 ?_
 refine ao (sq [0,5] (.eff 1 [] (sq [2,3] (.read 4 (.eff 6 [4] (.eff 7 [] (sq [8] (.eff 9 [] (.eff 10 [] (sq [11] .done)))))))))) ?_
 refine aY ?_
 refine lg ?_
 obtain ⟨w3,hw3⟩:∃ w3,w3=w1.drew.alloc Ck:=⟨_,rfl⟩
 have x3:bV w1 w3:=by rw [hw3]; exact (Keep.refl _ w1).drew.trans (aK _)
 have p0:w3.cell? ⟨w1.heap.size,0,none⟩=some (.func (.func 102) #[] #[]):=by rw [hw3]; unfold Ck; exact bU @aA
 rw [← hw3]
 refine bP @p0 ?_
 have i4:=i3.ext zS.mono x3
 refine zR hu (hlen x hmem).1 (hlen x hmem).2 i4.g.j fun d4 w4 v4 g4 s4 => ?_
 have i5:=i4.call zS.mono g4
 have p0:=g4.x.cell p0
 obtain ⟨pa,pc,rfl⟩:=s4.form
 obtain ⟨pb,po,hpa⟩:∃ b o,hJ d4 b o x∧(0 < x.length→pa=some ⟨b,o,none⟩):=by
  rcases ay x.length with h | h
  ·exact ⟨0,0,fun j hj=>by omega,fun h'=>by omega⟩
  ·obtain ⟨b,o,c',e,_,hat4⟩:=s4.at h
   refine ⟨b,o,fun j hj => ?_,fun _=>by simpa using (Value.slice.inj e).1⟩
   have:=hat4 j _ (aC hj)
   rw [aI x j hj]
   exact B6.span this
 refine bP @p0 ?_
 refine vM ?_
 obtain ⟨I,hI⟩:∃ I,I=w4.heap.size:=⟨_,rfl⟩
 obtain ⟨w6,hw6⟩:∃ w6,w6=w4.alloc (.cells #[.func (.func 102) #[] #[],.slice pa x.length pc,.int .i64 (-1)] 261):=⟨_,rfl⟩
 have x6:bV w4 w6:=by rw [hw6]; exact aK _
 have z6:w6.heap.size=I+1:=by rw [hw6,World.size_alloc,hI]
 have q0:w6.cell? ⟨I,0,none⟩=some (.func (.func 102) #[] #[]):=by rw [hw6,hI]; exact bU @aA
 have q1:w6.cell? ⟨I,1,none⟩=some (.slice pa x.length pc):=by rw [hw6,hI]; exact bU @aA
 have q2:w6.cell? ⟨I,2,none⟩=some (.int .i64 (-1)):=by rw [hw6,hI]; exact bU @aA
 have f6:∀ y,w6.frozen? ⟨I,y,none⟩=false:=fun y=>by rw [hw6,hI]; simp (disch:=first | exact dZ | fail) only [go_sem]
 rw [← hw6,← hI]
 have i7:=i5.ext zS.mono x6
 obtain ⟨va,vcap,rfl,_⟩:=i7.form
 have p0:=x6.cell p0
 refine bP @p0 ?_
 obtain ⟨css,o7⟩:=i7.o
 have hsz:w.heap.size≤w4.heap.size:=i5.g.x.size
 have it7:ItsAt w.heap.size d4 w6 Ls:=it.keep (M:=fun _ _=>False) (x3.trans (g4.x.trans x6)) (fun _ _ _ h=>h) g4.i fun b h1 ⟨y,hy,e⟩=>g4.o b (by have:=(it.at_ y hy).2.2.2.2; have:=x3.size; omega) h1
 have oI:dA d4 I:=i5.g.j.out (by omega)
 refine pP (⟨I,pb,po,x⟩:Lvl) [.iface 233 (.pointer (some ⟨I,0,none⟩))] rw173 o7 rfl rfl (.inl rfl) rfl rfl (by simp [Value.oneCell']) (by rw [hLs]; omega) i7.g.j fun v2 w2 o2 k2 n2 j2 _ => ?_
 refine bP @p0 ?_
 have hown:∀ y ∈ Ls,y.I < w6.heap.size∧y.I≠I:=fun y hy=>by
  have:=(it.at_ y hy).2.2.2.2
  have:=x3.size
  have:=g4.x.size
  omega
 have oI2:(Value.slice va Ls.length vcap).ownBlock≠some I:=fun h=>by
  have:=(o7.own.lt _ h).2
  obtain ⟨_,o5⟩:=i5.o
  have:=(o5.own.lt _ h).2
  omega
 refine hK2 _ _ (i+1,v2) ?_ ⟨hi,d4,Ls++[⟨I,pb,po,x⟩],i7.more o2 k2 n2 j2,?_,?_,?_⟩ (by simp only; omega)
 ·exact bA
 ·have it8:=it7.keep (w2:=w2) k2 (fun y hy o h=>hne y hy h) (cH.refl d4) fun b h _=>h
  refine ⟨fun y hy => ?_,List.pairwise_append.2 ⟨it8.ne,List.pairwise_singleton _ _,fun y hy z hz => ?_⟩⟩
  ·rcases aq.1 hy with hy | hy
   ·exact it8.at_ y hy
   ·obtain rfl:=aT.1 hy
    refine ⟨⟨k2.some q0 fun h=>oI2 h,⟨pa,pc,k2.some q1 fun h=>oI2 h,hpa.2⟩,k2.some q2 fun h=>oI2 h,fun y=>by rw [k2.frozen I y (by omega)]; exact f6 y⟩,hpa.1,oI,by simp only; omega,by have:=k2.size; simp only; omega⟩
  ·rw [aT.1 hz]
   exact (hown y hy).2
 ·rw [cF,hm,cj hx]
  rfl
 ·intro y hy h
  rcases n2 _ h with h | h
  ·rcases aq.1 hy with hy | hy
   ·exact hne y hy h
   ·obtain rfl:=aT.1 hy
    exact oI2 h
  ·rcases aq.1 hy with hy | hy
   ·have:=(hown y hy).1; omega
   ·obtain rfl:=aT.1 hy
    simp only at h
    omega
end
end Go.Proofs
end
section
namespace Go.E
open Go Go.Sort Go.Proofs Go.Proofs.Tryz
theorem BM {b o:Nat} {k:ae} (l:List Value) (i:Nat) {w:World} (hc:∀ j,i≤j→j < i+l.length→∃ u,w.cell? ⟨b,o+j,none⟩=some u) (hf:∀ y,w.frozen? ⟨b,y,none⟩=false) (h1:∀ u ∈ l,u.oneCell'=true)
    (hk:∀ w',(∀ j u,l[j]? = some u→w'.cell? ⟨b,o+i+j,none⟩=some u)→Keep (fun c x=>c=b∧o+i≤x∧x < o+i+l.length) w w'→k undef w'):qp ⟨b,o,none⟩ i l k w:=by
 induction l generalizing i w with
 | nil =>
  rw [CE]
  exact hk w (by simp) (Keep.refl _ w)
 | cons v l ih =>
  rw [uJ]
  have ea:(⟨b,o,none⟩:Addr).add i=⟨b,o+i,none⟩:=by cases i <;> rfl
  rw [ea]
  obtain ⟨u,hu⟩:=hc i (aD _) (by simp only [aX]; omega)
  rw [hu,hf]
  unfold sX
  rw [ea]
  refine ⟨⟨rfl,rfl,h1 v aR⟩,ih (i+1) (fun j h2 h3 => ?_) (fun y=>by rw [World.frozen?_setCell]; exact hf y) (fun x hx=>h1 x (aZ _ hx)) fun w' hw' k'=>hk w' (fun j x hx => ?_) ?_⟩
  ·obtain ⟨x,hx⟩:=hc j (by omega) (by simp only [aX]; omega)
   exact ⟨x,by show (w.setCell ⟨b,o+i,none⟩ v).cell? _=_; rw [gF (by omega)]; exact hx⟩
  ·cases j with
   | zero =>
    simp only [List.getElem?_cons_zero,aJ] at hx
    subst hx
    refine k'.some (b:=b) (o:=o+i+0) ?_ (by omega)
    show (w.setCell ⟨b,o+i,none⟩ v).cell? ⟨b,o+i,none⟩=_
    rw [cG,hu]
    rfl
   | succ j =>
    rw [List.getElem?_cons_succ] at hx
    have:=hw' j x hx
    rwa [show o+(i+1)+j=o+i+(j+1) by omega] at this
  ·refine Keep.trans (bR (o:=o+i) ⟨rfl,aD _,by simp only [aX]; omega⟩) (k'.mono fun c x _ h => ?_)
   simp only [aX]
   omega
theorem BN {b o:Nat} {k:ae} {v:Value} {l:List Value} {w:World} (hc:∀ j,j < l.length+1→∃ u,w.cell? ⟨b,o+j,none⟩=some u) (hf:∀ y,w.frozen? ⟨b,y,none⟩=false) (h1:∀ u ∈ v :: l,u.oneCell'=true)
    (hk:∀ w',(∀ j u,(v :: l)[j]? = some u→w'.cell? ⟨b,o+j,none⟩=some u)→Keep (fun c x=>c=b∧o≤x∧x < o+(l.length+1)) w w'→k undef w'):sX (w.cell? ⟨b,o,none⟩) (w.frozen? ⟨b,o,none⟩) v ⟨b,o,none⟩ 0 l k w:=by
 have:=BM (k:=k) (b:=b) (o:=o) (v :: l) 0 (w:=w) (fun j _ h=>hc j (by simpa using h)) hf h1 fun w' a c=>hk w' a c
 rwa [uJ] at this
theorem OB.inc {d d2:World} {v:Value} {b:Option Bytes} (h:OB d v b) (hi:cH d d2):OB d2 v b:=by
 rcases h with h | ⟨l,a,n,c,h1,h2,h3⟩
 ·exact .inl h
 ·exact .inr ⟨l,a,n,c,h1,h2,h3.inc hi⟩
def kB (key:Bytes) (has:Bool):Option Bytes:=if has then some key else none
end Go.E
namespace Go.Proofs
open Go Go.E Go.Sort Go.Proofs.Tryz
section
variable {k:ae} {d w:World}
theorem bt {key:Bytes} {has:Bool} (hinc:cH d w) (hl:key.length≤4294967296) (hk:∀ d2 w2 v,Gr d w d2 w2→OB d2 v (kB key has)→k v w2):aU prog 67 #[.agg #[.string ⟨key.toArray⟩,.bool has]] k w:=by
 refine aW [.tmp 2] func67 ?_
 refine aY ?_
 have x1:bV w (w.alloc (.cells #[.string ⟨key.toArray⟩,.bool has] 37)):=aK _
 cases has with
 | false =>
  refine bP @aA ?_
  exact hk d _ _ (Gr.ext hinc x1) (.inl ⟨rfl,rfl⟩)
 | true =>
  refine bP @aA ?_
  refine dq (hinc.trans x1.inc) hl fun d2 w2 a n c g2 h2 => ?_
  refine aY ?_
  exact hk d2 w2 _ ((Gr.ext hinc x1).trans g2) (.inr ⟨key,a,n,c,rfl,rfl,h2⟩)
theorem ia (hinc:cH d w) (hk:∀ d2 w2 C,Gr d w d2 w2→w.heap.size≤C→d2.cell? ⟨C,0,none⟩=some (.func (.func 102) #[] #[])→d2.cell? ⟨C,1,none⟩=some (.func (.func 103) #[] #[])→d2.cell? ⟨C,5,none⟩=some .nilFunc→k (.pointer (some ⟨C,0,none⟩)) w2):aU prog 66 #[] k w:=by
 refine aW [.tmp 0] func66 ?_
 refine aY ?_
 generalize hO:Obj.cells _ _=O
 have x2:bV w (w.alloc O):=aK _
 obtain ⟨d2,g2,e2⟩:=vL hinc x2
 have c0:(w.alloc O).cell? ⟨w.heap.size,0,none⟩=some (.func (.func 102) #[] #[]):=by rw [← hO]; exact bU @aA
 have c1:(w.alloc O).cell? ⟨w.heap.size,1,none⟩=some (.func (.func 103) #[] #[]):=by rw [← hO]; exact bU @aA
 have c5:(w.alloc O).cell? ⟨w.heap.size,5,none⟩=some .nilFunc:=by rw [← hO]; exact bU @aA
 exact hk d2 _ _ g2 (aD _) (e2 _ _ _ (aD _) c0) (e2 _ _ _ (aD _) c1) (e2 _ _ _ (aD _) c5)
end
end Go.Proofs
end
