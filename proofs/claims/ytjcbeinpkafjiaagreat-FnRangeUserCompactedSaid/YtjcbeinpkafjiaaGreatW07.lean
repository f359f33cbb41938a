/- Parts of the proof: I, H, L. -/
import Derived.Test.YtjcbeinpkafjiaaGreatW06
set_option linter.all false
set_option maxRecDepth 10000
section
namespace Go.E
open Go Go.Proofs.Tryz
structure K where
 tr:Nat
 suf:Bytes
 val:Bytes
 deriving DecidableEq,Inhabited
structure Sp where
 s:Bytes
 e:Bytes
 ks:List K
 deriving DecidableEq,Inhabited
def mn:Value→Bool
 | .slice (some _) _ _=>true
 | _=>false
def ku (w:World) (b o:Nat) (x:K):Prop :=
 w.cell? ⟨b,o,none⟩=some (.int .u64 x.tr)∧x.tr < 18446744073709551616∧(∃ v,w.cell? ⟨b,o+1,none⟩=some v∧eN w v x.suf)∧∃ v,w.cell? ⟨b,o+2,none⟩=some v∧eN w v x.val
def wE (w:World) (b o:Nat) (x:Sp):Prop :=
 (∃ v,w.cell? ⟨b,o,none⟩=some v∧mn v=true∧eN w v x.s)∧(∃ v,w.cell? ⟨b,o+1,none⟩=some v∧mn v=true∧eN w v x.e) ∧
 (∃ v,w.cell? ⟨b,o+2,none⟩=some v∧fC ku 3 w v x.ks)∧w.cell? ⟨b,o+3,none⟩=some (.int .i8 0)
theorem ku.mono:Ck ku:=fun _ _ _ _ _ hi ⟨h1,h2,⟨v,h3,h4⟩,u,h5,h6⟩=>⟨hi _ _ _ h1,h2,⟨v,hi _ _ _ h3,h4.inc hi⟩,u,hi _ _ _ h5,h6.inc hi⟩
theorem wE.mono:Ck wE:=fun _ _ _ _ _ hi ⟨⟨v,h1,h2,h3⟩,⟨u,h4,h5,h6⟩,⟨t,h7,h8⟩,h9⟩ =>
 ⟨⟨v,hi _ _ _ h1,h2,h3.inc hi⟩,⟨u,hi _ _ _ h4,h5,h6.inc hi⟩,⟨t,hi _ _ _ h7,h8.inc ku.mono hi⟩,hi _ _ _ h9⟩
def ie (w:World) (b o:Nat) (L:List Sp):Prop:=∀ j,j < L.length→wE w b (o+j * 4) L[j]!
theorem ie.inc {w w2:World} {b o:Nat} {L:List Sp} (h:ie w b o L) (hi:cN w w2):ie w2 b o L:=fun j hj=>wE.mono _ _ _ _ _ hi (h j hj)
structure IterAt (w:World) (I b o n:Nat) (idx:Int):Prop where
 c0:w.cell? ⟨I,0,none⟩=some (.func (.func 102) #[] #[])
 c1:∃ p c,w.cell? ⟨I,1,none⟩=some (.slice p n c)∧(0 < n→p=some ⟨b,o,none⟩)
 c2:w.cell? ⟨I,2,none⟩=some (.int .i64 idx)
 fz:∀ o,w.frozen? ⟨I,o,none⟩=false
def mh (I:Nat):Nat→Nat→Prop:=fun b o=>b=I∧o=2
theorem IterAt.keep {w w2:World} {I b o n:Nat} {idx:Int} {M:Nat→Nat→Prop} (h:IterAt w I b o n idx) (hk:Keep M w w2) (hm:∀ o,¬ M I o):IterAt w2 I b o n idx where
 c0:=hk.some h.c0 (hm _)
 c1:=by obtain ⟨p,c,h1,h2⟩:=h.c1; exact ⟨p,c,hk.some h1 (hm _),h2⟩
 c2:=hk.some h.c2 (hm _)
 fz o:=by rw [hk.frozen I o (aD h.c0)]; exact h.fz o
theorem IterAt.set {w:World} {I b o n:Nat} {idx:Int} (h:IterAt w I b o n idx) (i:Int):IterAt (w.setCell ⟨I,2,none⟩ (.int .i64 i)) I b o n i where
 c0:=by rw [fu (by decide)]; exact h.c0
 c1:=by obtain ⟨p,c,h1,h2⟩:=h.c1; exact ⟨p,c,by rw [fu (by decide)]; exact h1,h2⟩
 c2:=by rw [bu,h.c2]; rfl
 fz o:=by rw [World.frozen?_setCell]; exact h.fz o
theorem IterAt.drew {w:World} {I b o n:Nat} {idx:Int} (h:IterAt w I b o n idx):IterAt w.drew I b o n idx:=⟨h.c0,h.c1,h.c2,h.fz⟩
def l9 (b o j:Nat):Value := .pointer (some ⟨b,o+j * 4,none⟩)
end Go.E
namespace Go.Proofs
open Go Go.E Go.Proofs.Tryz
section
variable {k:au} {w:World} {I b o n:Nat} {idx:Int}
def mA (n:Nat) (idx:Int):Int:=if (n:Int)≤idx then idx else idx+1
def mB (idx:Int):Int:=if idx < 0 then idx else idx - 1
def jH (b o n:Nat) (idx:Int):Value:=if 0≤idx∧idx < n then l9 b o idx.toNat else .pointer none
theorem uZ (h:IterAt w I b o n idx) (h0 : -1≤idx) (hn:n < 4611686018427387904) (h1:idx≤n)
    (hk:∀ w',IterAt w' I b o n (mA n idx)→Keep (mh I) w w'→k (jH b o n (mA n idx)) w'):aX prog 263 #[.pointer (some ⟨I,0,none⟩)] k w:=by
 obtain ⟨p,c,e1,e2⟩:=h.c1
 have e3:=h.c2
 have hf:=h.fz
 refine ae [.tmp 2] func263 ?_
 refine an ?_
 refine ay (sq [0,1,2] (.read 3 (sq [4,5,6] (.read 7 (sq [8,9] .done))))) ?_
 by_cases hc:(n:Int)≤idx
 ·refine eA @e1 @e3 @hc ?_
  have e:mA n idx=idx:=by unfold mA; rw [if_pos hc]
  rw [e] at hk
  have:=hk w.drew h.drew (Keep.refl _ w).drew
  rwa [jH,if_neg (by omega)] at this
 ·have e:mA n idx=idx+1:=by unfold mA; rw [if_neg hc]
  rw [e] at hk
  refine fI @e1 @e3 @hc @hf ?_
  refine ay (sq [0,1,2] (.read 3 (sq [4,5,6] (.read 7 (sq [8,9] .done))))) ?_
  by_cases hc2:(n:Int)≤idx+1
  ·refine fI @e1 @e3 @hc2 @hf ?_
   have:=hk _ (h.set (idx+1)).drew.drew ((Keep.refl (mh I) w).set (fun _=>⟨rfl,rfl⟩)).drew.drew
   rwa [jH,if_neg (by omega)] at this
  ·have hp:=e2 (by omega)
   subst hp
   refine fI @e1 @e3 @hc2 @hf ?_
   refine ay (sq [0,1,2] (.read 3 (sq [4,5,6] (.read 7 (sq [8,9] .done))))) ?_
   obtain ⟨j,hj⟩:∃ j:Nat,idx+1=j:=⟨(idx+1).toNat,by omega⟩
   refine gq @e1 @e3 @hc2 @hf @hj ?_
   have:=hk _ (h.set (idx+1)).drew.drew.drew ((Keep.refl (mh I) w).set (fun _=>⟨rfl,rfl⟩)).drew.drew.drew
   rw [jH,if_pos (by omega),l9] at this
   rw [hj,az] at this
   exact this
theorem ub (h:IterAt w I b o n idx) (h0 : -1≤idx) (hn:n < 4611686018427387904) (h1:idx≤n)
    (hk:∀ w',IterAt w' I b o n (mB idx)→Keep (mh I) w w'→k (jH b o n (mB idx)) w'):aX prog 264 #[.pointer (some ⟨I,0,none⟩)] k w:=by
 obtain ⟨p,c,e1,e2⟩:=h.c1
 have e3:=h.c2
 have hf:=h.fz
 refine ae [.tmp 2] func264 ?_
 by_cases hc:idx < 0
 ·refine eA @e1 @e3 @hc ?_
  have e:mB idx=idx:=by unfold mB; rw [if_pos hc]
  rw [e] at hk
  have:=hk w h (Keep.refl _ w)
  rwa [jH,if_neg (by omega)] at this
 ·have e:mB idx=idx - 1:=by unfold mB; rw [if_neg hc]
  rw [e] at hk
  by_cases hc2:idx - 1 < 0
  ·refine gq @e1 @e3 @hc @hc2 @hf ?_
   have:=hk _ (h.set (idx - 1)) ((Keep.refl (mh I) w).set (fun _=>⟨rfl,rfl⟩))
   rwa [jH,if_neg (by omega)] at this
  ·have hp:=e2 (by omega)
   subst hp
   refine gq @e1 @e3 @hc @hc2 @hf ?_
   refine ay (sq [0,1,2] (.read 3 (sq [4,5,6] (.read 7 (sq [8,9] .done))))) ?_
   obtain ⟨j,hj⟩:∃ j:Nat,idx - 1=j:=⟨(idx - 1).toNat,by omega⟩
   refine gq @e1 @e3 @hc2 @hf @hj ?_
   have:=hk _ (h.set (idx - 1)).drew ((Keep.refl (mh I) w).set (fun _=>⟨rfl,rfl⟩)).drew
   rw [jH,if_pos (by omega),l9] at this
   rw [hj,az] at this
   exact this
theorem sy (h:IterAt w I b o n idx) (hn:n < 4611686018427387904)
    (hk:∀ w',IterAt w' I b o n (if n=0 then idx else 0)→Keep (mh I) w w'→k (if n=0 then .pointer none else l9 b o 0) w'):aX prog 261 #[.pointer (some ⟨I,0,none⟩)] k w:=by
 obtain ⟨p,c,e1,e2⟩:=h.c1
 have e3:=h.c2
 have hf:=h.fz
 refine ae [.tmp 2] func261 ?_
 by_cases hc:n=0
 ·have hc':((n:Int) == 0)=true:=by simp [hc]
  refine eA @e1 @e3 @hc' ?_
  have:=hk w (by simpa [hc] using h) (Keep.refl _ w)
  simpa only [hc,if_true] using this
 ·have hc':((n:Int) == 0)=false:=by simp [hc]
  have hp:=e2 (by omega)
  subst hp
  refine fI @e1 @e3 @hc' @hf ?_
  refine ay (sq [0,1,2] (.read 3 (sq [4,5,6] (.read 7 (sq [8,9] .done))))) ?_
  have z:(0:Int).toNat=0:=rfl
  refine pI @e1 @e3 @hf @z @Nat.zero_mul @Nat.add_zero ?_
  have:=hk _ (by simp only [hc,if_false]; exact (h.set 0).drew) ((Keep.refl (mh I) w).set (fun _=>⟨rfl,rfl⟩)).drew
  simpa only [hc,if_false,l9,Nat.zero_mul,Nat.add_zero] using this
theorem ud (h:IterAt w I b o n idx) (hn:n < 4611686018427387904)
    (hk:∀ w',IterAt w' I b o n (if n=0 then idx else (n - 1:Nat))→Keep (mh I) w w'→k (if n=0 then .pointer none else l9 b o (n - 1)) w'):aX prog 262 #[.pointer (some ⟨I,0,none⟩)] k w:=by
 obtain ⟨p,c,e1,e2⟩:=h.c1
 have e3:=h.c2
 have hf:=h.fz
 refine ae [.tmp 2] func262 ?_
 by_cases hc:n=0
 ·have hc':((n:Int) == 0)=true:=by simp [hc]
  refine eA @e1 @e3 @hc' ?_
  have:=hk w (by simpa [hc] using h) (Keep.refl _ w)
  simpa only [hc,if_true] using this
 ·have hc':((n:Int) == 0)=false:=by simp [hc]
  have hp:=e2 (by omega)
  subst hp
  have z:(n:Int) - 1=(n - 1:Nat):=by omega
  refine gq @e1 @e3 @hc' @hf @z ?_
  refine ay (sq [0,1,2] (.read 3 (sq [4,5,6] (.read 7 (sq [8,9] .done))))) ?_
  refine eA @e1 @e3 @hf ?_
  have:=hk _ (by simp only [hc,if_false]; exact (h.set ((n - 1:Nat):Int)).drew) ((Keep.refl (mh I) w).set (fun _=>⟨rfl,rfl⟩)).drew
  simpa only [hc,if_false,l9] using this
theorem ig (hk:k .nilIface w):aX prog 260 #[.pointer (some ⟨I,0,none⟩)] k w:=by
 refine ae [.tmp 2] func260 ?_
 refine an ?_
 exact hk
def Wf (L:List Sp):Prop:=(∀ i,i < L.length→L[i]!.s < L[i]!.e)∧∀ i j,i < j→j < L.length→L[i]!.e≤L[j]!.s
theorem Wf.ends {L:List Sp} (h:Wf L) {i j:Nat} (hij:i≤j) (hj:j < L.length):L[i]!.e≤L[j]!.e:=by
 rcases aG i j with h1 | h1
 ·have:=h.2 i j h1 hj
  have:=h.1 j hj
  grind
 ·obtain rfl:i=j:=by omega
  grind
theorem Wf.starts {L:List Sp} (h:Wf L) {i j:Nat} (hij:i≤j) (hj:j < L.length):L[i]!.s≤L[j]!.s:=by
 rcases aG i j with h1 | h1
 ·have:=h.2 i j h1 hj
  have:=h.1 i (by omega)
  grind
 ·obtain rfl:i=j:=by omega
  grind
theorem re {d:World} {L:List Sp} {kv:Value} {key:Bytes} (h:IterAt w I b o L.length idx) (hn:L.length < 4611686018427387904) (hd:cN d w) (ho:cx d I) (hs:ie d b o L) (hw:Wf L) (hkv:∀ w',Keep (mh I) w w'→eN w' kv key)
    (hk:∀ w' (r:Nat),IterAt w' I b o L.length ((r:Int))→Keep (mh I) w w'→r≤L.length→(∀ j,j < r→L[j]!.e≤key)→(∀ j,r≤j→j < L.length→key < L[j]!.e)→k (if r < L.length then l9 b o r else .pointer none) w'):aX prog 265 #[.pointer (some ⟨I,0,none⟩),kv] k w:=by
 obtain ⟨p,c,e1,e2⟩:=h.c1
 have e3:=h.c2
 have hf:=h.fz
 have h01:(0:Int)≤1:=by decide
 refine ae [.tmp 4] func265 ?_
 refine eA @e1 @e3 @hf ?_
 refine iq (fun _:Unit=>[(0,.pointer (some ⟨I,0,none⟩)),(4,.pointer none)]) (fun _ w'=>∃ r:Nat,IterAt w' I b o L.length r∧Keep (mh I) w w'∧r≤L.length∧(∀ j,j < r→L[j]!.e≤key)∧(∀ j,r≤j→j < L.length→key < L[j]!.e)) (by kernel_rfl) (fun K hK => ?_) ?_
 ·refine bR (fun x:Nat × Nat=>[(0,.pointer (some ⟨I,0,none⟩)),(1,kv),(4,.pointer none),(5,.int .i64 x.2)]) (fun x w'=>IterAt w' I b o L.length x.1∧Keep (mh I) w w'∧x.1≤x.2∧x.2≤L.length∧(∀ j,j < x.1→L[j]!.e≤key)∧(∀ j,x.2≤j→j < L.length→key < L[j]!.e)) (fun x _=>x.2 - x.1) (0,L.length) (by kernel_rfl) ?_ ⟨h.set 0,(Keep.refl _ w).set (fun _=>⟨rfl,rfl⟩),aP _,aE _,by intro j hj; simp only at hj; omega,by intro j hj hj2; simp only at hj; omega⟩ ?_
  ·exact bO
  rintro K2 e4 ⟨i,u⟩ w2 ⟨g1,g2,g3,g4,g5,g6⟩ hK2
  simp only at g1 g2 g3 g4 g5 g6
  obtain ⟨p',c',q1,q2⟩:=g1.c1
  have q3:=g1.c2
  have qf:=g1.fz
  have q0:=g1.c0
  by_cases hij:i < u
  ·have hij':(i:Int) < u:=by omega
   have hp:=q2 (by omega)
   subst hp
   have hh:IntKind.i64.wrap ((IntKind.u64.wrap ((i:Int)+u)).fdiv (2 ^ min (Int.toNat 1) 64))=(((i+u) / 2:Nat):Int):=by
    rw [show (i:Int)+u=((i+u:Nat):Int) by omega]
    rw [IntWalk.u64_in _ ⟨by omega,by omega⟩,Am (a:=i+u) (s:=1) (n:=1) (m:=2) rfl rfl]
    exact jD (by omega) (by omega)
   obtain ⟨m,hm⟩:∃ m,m=(i+u) / 2:=⟨_,rfl⟩
   rw [← hm] at hh
   have hinc:cN d w2:=hd.keep g2 (fun x o' hx=>by rw [hx.1]; exact ho o')
   obtain ⟨⟨v1,s1,_,s3⟩,⟨v2,s4,_,s6⟩,_,_⟩:=hs m (by omega)
   have hlt:m < L.length:=by omega
   have c1:=hinc _ _ _ s1
   have c2:=hinc _ _ _ s4
   simp (disch:=first | exact dZ | fail) only [go_sem,q1,q3,hij',fW h01,hh]
   refine ay (sq [0,1,2] (.read 3 (sq [4,5,6,7] (.read 8 (sq [9,10,11] (.read 12 (.eff 13 [] (sq [14] .done)))))))) ?_
   refine gq @q0 @q1 @q3 @c1 @c2 ?_
   refine cQ (by first | exact hkv _ g2 | exact hkv _ g2.drew | exact hkv _ g2.drew.drew) (s6.inc hinc) ?_
   by_cases hle:L[m]!.e≤key
   ·have hle':(0:Int)≤ct key L[m]!.e:=eE.2 hle
    refine eA @hle' @q3 @qf ?_
    refine hK2 _ _ (m+1,u) ?_ ⟨?_,?_,by simp only; omega,g4,?_,g6⟩ (by simp only; omega)
    ·exact bO
    ·exact (g1.set ((m:Int)+1)).drew
    ·exact (g2.set (fun _=>⟨rfl,rfl⟩)).drew
    ·intro j hj
     simp only at hj
     have:=hw.ends (show j≤m by omega) hlt
     grind
   ·have hle':¬ (0:Int)≤ct key L[m]!.e:=fun hh=>hle (eE.1 hh)
    refine eA @hle' @q3 @qf ?_
    refine hK2 _ _ (i,m) ?_ ⟨g1.drew,g2.drew,by simp only; omega,by simp only; omega,g5,?_⟩ (by simp only; omega)
    ·exact bO
    ·intro j hj hj2
     simp only at hj
     have:=hw.ends (show m≤j by omega) hj2
     grind
  ·have hij':¬ (i:Int) < u:=by omega
   obtain rfl:i=u:=by omega
   refine dU @q3 @hij' ?_
   refine hK _ _ () ?_ ⟨i,g1,g2,g4,g5,g6⟩
   exact bO
 rintro e4 _ w2 ⟨r,g1,g2,g3,g4,g5⟩
 obtain ⟨p',c',q1,q2⟩:=g1.c1
 have q3:=g1.c2
 have qf:=g1.fz
 refine an ?_
 refine ay (sq [0,1,2] (.read 3 (sq [4,5,6] (.read 7 (sq [8,9] .done))))) ?_
 by_cases hr:r < L.length
 ·have hr':¬ (L.length:Int)≤r:=by omega
  have hp:=q2 (by omega)
  subst hp
  refine eA @q1 @q3 @hr' ?_
  refine ay (sq [0,1,2] (.read 3 (sq [4,5,6] (.read 7 (sq [8,9] .done))))) ?_
  refine dU @q1 @q3 ?_
  have:=hk _ r g1.drew.drew g2.drew.drew g3 g4 g5
  simpa only [hr,if_true,l9] using this
 ·have hr':(L.length:Int)≤r:=by omega
  refine eA @q1 @q3 @hr' ?_
  have:=hk _ r g1.drew g2.drew g3 g4 g5
  simpa only [hr,if_false] using this
theorem rh {d:World} {L:List Sp} {kv:Value} {key:Bytes} (h:IterAt w I b o L.length idx) (hn:L.length < 4611686018427387904) (hd:cN d w) (ho:cx d I) (hs:ie d b o L) (hw:Wf L) (hkv:∀ w',Keep (mh I) w w'→eN w' kv key)
    (hk:∀ w' (r:Nat),IterAt w' I b o L.length ((r:Int) - 1)→Keep (mh I) w w'→r≤L.length→(∀ j,j < r→L[j]!.s < key)→(∀ j,r≤j→j < L.length→key≤L[j]!.s)→k (if 0 < r then l9 b o (r - 1) else .pointer none) w'):aX prog 266 #[.pointer (some ⟨I,0,none⟩),kv] k w:=by
 obtain ⟨p,c,e1,e2⟩:=h.c1
 have e3:=h.c2
 have hf:=h.fz
 have h01:(0:Int)≤1:=by decide
 refine ae [.tmp 4] func266 ?_
 refine eA @e1 @e3 @hf ?_
 refine iq (fun _:Unit=>[(0,.pointer (some ⟨I,0,none⟩)),(4,.pointer none)]) (fun _ w'=>∃ r:Nat,IterAt w' I b o L.length r∧Keep (mh I) w w'∧r≤L.length∧(∀ j,j < r→L[j]!.s < key)∧(∀ j,r≤j→j < L.length→key≤L[j]!.s)) (by kernel_rfl) (fun K hK => ?_) ?_
 ·refine bR (fun x:Nat × Nat=>[(0,.pointer (some ⟨I,0,none⟩)),(1,kv),(4,.pointer none),(5,.int .i64 x.2)]) (fun x w'=>IterAt w' I b o L.length x.1∧Keep (mh I) w w'∧x.1≤x.2∧x.2≤L.length∧(∀ j,j < x.1→L[j]!.s < key)∧(∀ j,x.2≤j→j < L.length→key≤L[j]!.s)) (fun x _=>x.2 - x.1) (0,L.length) (by kernel_rfl) ?_ ⟨h.set 0,(Keep.refl _ w).set (fun _=>⟨rfl,rfl⟩),aP _,aE _,by intro j hj; simp only at hj; omega,by intro j hj hj2; simp only at hj; omega⟩ ?_
  ·exact bO
  rintro K2 e4 ⟨i,u⟩ w2 ⟨g1,g2,g3,g4,g5,g6⟩ hK2
  simp only at g1 g2 g3 g4 g5 g6
  obtain ⟨p',c',q1,q2⟩:=g1.c1
  have q3:=g1.c2
  have qf:=g1.fz
  have q0:=g1.c0
  by_cases hij:i < u
  ·have hij':(i:Int) < u:=by omega
   have hp:=q2 (by omega)
   subst hp
   have hh:IntKind.i64.wrap ((IntKind.u64.wrap ((i:Int)+u)).fdiv (2 ^ min (Int.toNat 1) 64))=(((i+u) / 2:Nat):Int):=by
    rw [show (i:Int)+u=((i+u:Nat):Int) by omega]
    rw [IntWalk.u64_in _ ⟨by omega,by omega⟩,Am (a:=i+u) (s:=1) (n:=1) (m:=2) rfl rfl]
    exact jD (by omega) (by omega)
   obtain ⟨m,hm⟩:∃ m,m=(i+u) / 2:=⟨_,rfl⟩
   rw [← hm] at hh
   have hinc:cN d w2:=hd.keep g2 (fun x o' hx=>by rw [hx.1]; exact ho o')
   obtain ⟨⟨v1,s1,_,s3⟩,⟨v2,s4,_,s6⟩,_,_⟩:=hs m (by omega)
   have hlt:m < L.length:=by omega
   have c1:=hinc _ _ _ s1
   have c2:=hinc _ _ _ s4
   simp (disch:=first | exact dZ | fail) only [go_sem,q1,q3,hij',fW h01,hh]
   refine ay (sq [0,1,2] (.read 3 (sq [4,5,6,7] (.read 8 (sq [9,10,11] (.read 12 (.eff 13 [] (sq [14] .done)))))))) ?_
   refine gq @q0 @q1 @q3 @c1 @c2 ?_
   refine cQ (by first | exact hkv _ g2 | exact hkv _ g2.drew | exact hkv _ g2.drew.drew) (s3.inc hinc) ?_
   by_cases hle:L[m]!.s < key
   ·have hle':(0:Int) < ct key L[m]!.s:=gG.2 hle
    refine eA @hle' @q3 @qf ?_
    refine hK2 _ _ (m+1,u) ?_ ⟨?_,?_,by simp only; omega,g4,?_,g6⟩ (by simp only; omega)
    ·exact bO
    ·exact (g1.set ((m:Int)+1)).drew
    ·exact (g2.set (fun _=>⟨rfl,rfl⟩)).drew
    ·intro j hj
     simp only at hj
     have:=hw.starts (show j≤m by omega) hlt
     grind
   ·have hle':¬ (0:Int) < ct key L[m]!.s:=fun hh=>hle (gG.1 hh)
    refine eA @hle' @q3 @qf ?_
    refine hK2 _ _ (i,m) ?_ ⟨g1.drew,g2.drew,by simp only; omega,by simp only; omega,g5,?_⟩ (by simp only; omega)
    ·exact bO
    ·intro j hj hj2
     simp only at hj
     have:=hw.starts (show m≤j by omega) hj2
     grind
  ·have hij':¬ (i:Int) < u:=by omega
   obtain rfl:i=u:=by omega
   refine dU @q3 @hij' ?_
   refine hK _ _ () ?_ ⟨i,g1,g2,g4,g5,g6⟩
   exact bO
 rintro e4 _ w2 ⟨r,g1,g2,g3,g4,g5⟩
 obtain ⟨p',c',q1,q2⟩:=g1.c1
 have q3:=g1.c2
 have qf:=g1.fz
 refine eA @q1 @q3 @qf ?_
 by_cases hr:0 < r
 ·have hr':¬ (((r - 1:Nat):Int) < 0):=by omega
  have hp:=q2 (by omega)
  subst hp
  have z:(r:Int) - 1=(r - 1:Nat):=by omega
  refine gq @q1 @q3 @qf @z @hr' ?_
  refine ay (sq [0,1,2] (.read 3 (sq [4,5,6] (.read 7 (sq [8,9] .done))))) ?_
  refine fI @q1 @q3 @qf @z ?_
  have:=hk _ r (by rw [z]; exact (g1.set ((r - 1:Nat):Int)).drew) (g2.set (fun _=>⟨rfl,rfl⟩)).drew g3 g4 g5
  simpa only [hr,if_true,l9] using this
 ·have hr':(r:Int) - 1 < 0:=by omega
  refine fI @q1 @q3 @qf @hr' ?_
  have:=hk _ r (g1.set ((r:Int) - 1)) (g2.set (fun _=>⟨rfl,rfl⟩)) g3 g4 g5
  simpa only [hr,if_false] using this
end
end Go.Proofs
end
section
namespace Go.E
open Go Go.Sort Go.Proofs.Tryz
theorem qq {P:Program} {t:TypeId} {n:Nat} (h:lV P t=some n) {a:Option Addr} {len cap:Nat} {kd:IntKind} {i:Int} {q:Value→Prop} (c1:0≤i) (c2:i≤cap) :
    de P t (.slice a len cap) none (some (.int kd i)) none q=q (.slice a i.toNat cap):=by
 rw [qF h rfl rfl (by simpa [bd] using c1) (by simpa [bd] using c2) (by simp [bd]) (by simp)]
 simp [bd]
structure HeapAt (w:World) (H h U o:Nat) (rev:Bool) (hp:Array Nat):Prop where
 c0:w.cell? ⟨H,h,none⟩=some (.func (.func 102) #[] #[])
 c1:w.cell? ⟨H,h+1,none⟩=some (.bool rev)
 c2:w.cell? ⟨H,h+2,none⟩=some (.slice (some ⟨U,o+50,none⟩) hp.size 10)
 ptr:∀ j,j < hp.size→w.cell? ⟨U,o+50+j * 2,none⟩=some (.pointer (some ⟨U,o+10+hp[j]! * 4+1,none⟩))
 ix:∀ j,j < hp.size→w.cell? ⟨U,o+50+j * 2+1,none⟩=some (.int .i64 hp[j]!)
 room:hp.size≤10
 lv:∀ j,j < hp.size→hp[j]! < 10
 fU:∀ o,w.frozen? ⟨U,o,none⟩=false
 fH:∀ o,w.frozen? ⟨H,o,none⟩=false
 ne:H≠U
 ex:∀ x,o+50≤x→x < o+70→∃ v,w.cell? ⟨U,x,none⟩=some v
theorem eY {w:World} {b o b2 o2:Nat} {u:Value} (h:∃ v,w.cell? ⟨b,o,none⟩=some v):∃ v,(w.setCell ⟨b2,o2,none⟩ u).cell? ⟨b,o,none⟩=some v:=by
 obtain ⟨v,h⟩:=h
 by_cases he:b2=b∧o2=o
 ·obtain ⟨rfl,rfl⟩:=he
  exact ⟨u,by rw [bu,h]; rfl⟩
 ·refine ⟨v,?_⟩
  rw [World.cell?_setCell_other w _ _ u (fun e=>he (by cases e; exact ⟨rfl,rfl⟩)),h]
def iD (d w:World) (U o:Nat) (κ:Nat→Bytes) (hp:Array Nat) (n:Nat):Prop:=∀ j,j < n→∃ v,w.cell? ⟨U,o+10+hp[j]! * 4+2,none⟩=some v∧eN d v (κ hp[j]!)
def Ap (U o:Nat):Nat→Nat→Prop:=fun b x=>b=U∧o+50≤x∧x < o+70
def jw (rev:Bool) (κ:Nat→Bytes) (x y:Nat):Bool:=if rev then decide (κ x < κ y) else decide (κ y < κ x)
theorem qy (rev:Bool) (κ:Nat→Bytes):SWO (jw rev κ) where
 irrefl x:=by unfold jw; cases rev <;> simp <;> grind
 trans x y z:=by unfold jw; cases rev <;> simp <;> grind
 ntrans x y z:=by unfold jw; cases rev <;> simp <;> grind
theorem HeapAt.drew {w:World} {H h U o:Nat} {rev:Bool} {hp:Array Nat} (g:HeapAt w H h U o rev hp):HeapAt w.drew H h U o rev hp:=⟨g.c0,g.c1,g.c2,g.ptr,g.ix,g.room,g.lv,g.fU,g.fH,g.ne,g.ex⟩
theorem iD.keep {d w w2:World} {U o n:Nat} {κ:Nat→Bytes} {hp:Array Nat} {M:Nat→Nat→Prop} (g:iD d w U o κ hp n) (hk:Keep M w w2) (hm:∀ j,j < n→¬ M U (o+10+hp[j]! * 4+2)):iD d w2 U o κ hp n:=fun j hj=>by
 obtain ⟨v,h1,h2⟩:=g j hj
 exact ⟨v,hk.some h1 (hm j hj),h2⟩
theorem iD.swp {d w:World} {U o n:Nat} {κ:Nat→Bytes} {hp:Array Nat} (g:iD d w U o κ hp n) {i j:Nat} (hi:i < n) (hj:j < n) (hn:n≤hp.size):iD d w U o κ (swp hp i j) n:=fun k hk=>by
 rw [swp_get hp (aI hi hn) (aI hj hn)]
 split
 ·exact g i hi
 ·split
  ·exact g j hj
  ·exact g k hk
end Go.E
namespace Go.Proofs
open Go Go.E Go.Sort Go.Proofs.Tryz
section
variable {k:au} {w d:World} {H h U o:Nat} {rev:Bool} {hp:Array Nat} {κ:Nat→Bytes}
theorem fy (g:HeapAt w H h U o rev hp) (hk:k (.int .i64 hp.size) w):aX prog 211 #[.pointer (some ⟨H,h,none⟩)] k w:=by
 have c2:=g.c2
 refine ae [.tmp 2] func211 ?_
 refine bf @c2 ?_
 exact hk
theorem jM {n:Nat} (g:HeapAt w H h U o rev hp) (gk:iD d w U o κ hp n) (hn:n≤hp.size) (hd:cN d w) {x y:Int} (i j:Nat) (hx:x=i) (hy:y=j) (hi:i < n) (hj:j < n)
    (hk:k (.bool (jw rev κ hp[j]! hp[i]!)) w.drew):aX prog 227 #[.pointer (some ⟨H,h,none⟩),.int .i64 x,.int .i64 y] k w:=by
 subst hx; subst hy
 have c0:=g.c0
 have c1:=g.c1
 have c2:=g.c2
 have hi2:i < hp.size:=by omega
 have hj2:j < hp.size:=by omega
 have p1:=g.ptr i hi2
 have p2:=g.ptr j hj2
 obtain ⟨v1,k1,b1⟩:=gk i hi
 obtain ⟨v2,k2,b2⟩:=gk j hj
 refine ae [.tmp 6] func227 ?_
 refine an ?_
 refine ay (sq [0,1,2] (.read 3 (sq [4,5,6] (.read 7 (sq [8,9] (.read 10 (sq [11,12,13] (.read 14 (sq [15,16,17] (.read 18 (sq [19,20] (.read 21 (sq [22,23] .done))))))))))))) ?_
 refine vO @c0 @c1 @c2 @p1 @p2 @k1 @k2 ?_
 refine cQ (b1.inc hd) (b2.inc hd) ?_
 refine eA @c0 @c1 @c2 ?_
 cases rev with
 | true =>
  refine an ?_
  have e:decide ((0:Int) < ct (κ hp[i]!) (κ hp[j]!))=jw true κ hp[j]! hp[i]! := by unfold jw; simp [gG]
  rw [e]; exact hk
 | false =>
  refine an ?_
  have e:decide (ct (κ hp[i]!) (κ hp[j]!) < 0)=jw false κ hp[j]! hp[i]! := by unfold jw; simp [db]
  rw [e]; exact hk
theorem jN (g:HeapAt w H h U o rev hp) {x y:Int} (i j:Nat) (hx:x=i) (hy:y=j) (hi:i < hp.size) (hj:j < hp.size)
    (hk:∀ w',HeapAt w' H h U o rev (swp hp i j)→Keep (Ap U o) w w'→k (.tuple #[]) w'):aX prog 225 #[.pointer (some ⟨H,h,none⟩),.int .i64 x,.int .i64 y] k w:=by
 subst hx; subst hy
 have c2:=g.c2
 have fU:=g.fU
 have p1:=g.ptr i hi
 have p2:=g.ptr j hj
 have x1:=g.ix i hi
 have x2:=g.ix j hj
 have ne:=g.ne
 have hr:=g.room
 refine ae [] func225 ?_
 refine ay (sq [0,1,2] (.read 3 (sq [4,5,6,7] (.read 8 (sq [9,10,11,12] (.read 13 (sq [14,15] (.read 16 (sq [17,18,19] (.read 20 (sq [21,22] (.read 23 (sq [24] (.eff 25 [] (sq [26] (.eff 27 [] .done)))))))))))))))) ?_
 have rest:∀ W:World,(∀ x o',x≠U→W.cell? ⟨x,o',none⟩=w.cell? ⟨x,o',none⟩)→(∀ x o',W.frozen? ⟨x,o',none⟩=w.frozen? ⟨x,o',none⟩) →
     (∀ t,t < hp.size→W.cell? ⟨U,o+50+t * 2,none⟩=some (.pointer (some ⟨U,o+10+(swp hp i j)[t]! * 4+1,none⟩))∧W.cell? ⟨U,o+50+t * 2+1,none⟩=some (.int .i64 (swp hp i j)[t]!))→(∀ x,o+50≤x→x < o+70→∃ v,W.cell? ⟨U,x,none⟩=some v) →
     HeapAt W H h U o rev (swp hp i j):=by
  intro W h1 h2 h3 h4
  refine ⟨by rw [h1 _ _ ne]; exact g.c0,by rw [h1 _ _ ne]; exact g.c1,by rw [h1 _ _ ne,swp_size]; exact g.c2,fun t ht=>(h3 t (by rw [swp_size] at ht; exact ht)).1,fun t ht=>(h3 t (by rw [swp_size] at ht; exact ht)).2,by rw [swp_size]; exact hr,?_,fun o'=>by rw [h2]; exact g.fU _,fun o'=>by rw [h2]; exact g.fH _,ne,h4⟩
  intro t ht
  rw [swp_size] at ht
  rw [swp_get hp hi hj]
  split
  ·exact g.lv i hi
  ·split
   ·exact g.lv j hj
   ·exact g.lv t ht
 by_cases hij:i=j
 ·subst hij
  refine fI @c2 @p1 @x1 @fU ?_
  refine hk _ (rest _ ?_ ?_ ?_ ?_) ?_
  rotate_left 3
  ·intro x h1 h2
   simp only [World.cell?_drew]
   exact eY (eY (eY (eY (g.ex x h1 h2))))
  rotate_left 1
  ·intro x o' hx
   have hx:=Ne.symm hx
   exact bk @hx
  ·intro x o'; simp (disch:=first | exact dZ | fail) only [go_sem]
  ·intro t ht
   rw [swp_get hp hi hi]
   by_cases t1:t=i
   ·subst t1
    constructor
    ·exact bk @p1
    ·exact bk @x1
   ·have q1:=g.ptr t ht
    have q2:=g.ix t ht
    rw [if_neg t1,if_neg t1]
    constructor
    ·exact bk @q1
    ·exact bk @q2
  ·exact ((((((Keep.refl (Ap U o) w).set (fun _=>⟨rfl,by omega,by omega⟩)).set (fun _=>⟨rfl,by omega,by omega⟩)).set (fun _=>⟨rfl,by omega,by omega⟩)).set (fun _=>⟨rfl,by omega,by omega⟩))).drew
 ·have d1:o+50+i * 2≠o+50+j * 2:=by omega
  refine pI @c2 @p1 @p2 @x1 @x2 @fU ?_
  refine hk _ (rest _ ?_ ?_ ?_ ?_) ?_
  rotate_left 3
  ·intro x h1 h2
   simp only [World.cell?_drew]
   exact eY (eY (eY (eY (g.ex x h1 h2))))
  rotate_left 1
  ·intro x o' hx
   have hx:=Ne.symm hx
   exact bk @hx
  ·intro x o'; simp (disch:=first | exact dZ | fail) only [go_sem]
  ·intro t ht
   rw [swp_get hp hi hj]
   by_cases t1:t=j
   ·subst t1
    rw [if_pos rfl]
    constructor
    ·exact bk @p2
    ·exact bk @x2
   ·rw [if_neg t1]
    by_cases t2:t=i
    ·subst t2
     rw [if_pos rfl]
     constructor
     ·exact bk @p1
     ·exact bk @x1
    ·have q1:=g.ptr t ht
     have q2:=g.ix t ht
     rw [if_neg t2]
     constructor
     ·exact bk @q1
     ·exact bk @q2
  ·exact ((((((Keep.refl (Ap U o) w).set (fun _=>⟨rfl,by omega,by omega⟩)).set (fun _=>⟨rfl,by omega,by omega⟩)).set (fun _=>⟨rfl,by omega,by omega⟩)).set (fun _=>⟨rfl,by omega,by omega⟩))).drew
theorem kz (g:HeapAt w H h U o rev hp) {n:Nat} (gk:iD d w U o κ hp n) (hd:cN d w) (hU:cx d U) {x y:Int} (i:Nat) (hx:x=i) (hy:y=n) (hi:i≤hp.size) (hn:n≤hp.size)
    (hk:∀ w' b,HeapAt w' H h U o rev (siftDown (jw rev κ) n 0 i hp)→iD d w' U o κ (siftDown (jw rev κ) n 0 i hp) n→Keep (Ap U o) w w'→k (.bool b) w') :
    aX prog 224 #[.pointer (some ⟨H,h,none⟩),.int .i64 x,.int .i64 y] k w:=by
 subst hx; subst hy
 have hr:=g.room
 refine ae [.tmp 6] func224 ?_
 refine an ?_
 refine iq (fun j:Nat=>[(1,.int .i64 i),(7,.int .i64 j)]) (fun _ w'=>HeapAt w' H h U o rev (siftDown (jw rev κ) n 0 i hp)∧iD d w' U o κ (siftDown (jw rev κ) n 0 i hp) n∧Keep (Ap U o) w w') (by kernel_rfl) (fun K hK => ?_) ?_
 ·refine bR (fun x:Nat × Array Nat=>[(0,.pointer (some ⟨H,h,none⟩)),(1,.int .i64 i),(2,.int .i64 n),(7,.int .i64 x.1)]) (fun x w'=>HeapAt w' H h U o rev x.2∧iD d w' U o κ x.2 n∧Keep (Ap U o) w w'∧x.2.size=hp.size∧x.1≤hp.size∧siftDown (jw rev κ) n 0 x.1 x.2=siftDown (jw rev κ) n 0 i hp) (fun x _=>n - x.1) (i,hp) (by kernel_rfl) ?_ ⟨g,gk,Keep.refl _ _,rfl,hi,rfl⟩ ?_
  ·exact bO
  rintro K2 e2 ⟨r,h1⟩ w1 ⟨g1,g2,g3,g4,g5,g6⟩ hK2
  simp only at g1 g2 g3 g4 g5 g6
  have hinc:cN d w1:=hd.keep g3 (fun x o' hx=>by rw [hx.1]; exact hU o')
  by_cases hc:2 * r+1 < n
  ·have hc':¬ (n:Int)≤2 * r+1:=by omega
   have hc0:¬ (2 * r+1:Int) < 0:=by omega
   by_cases hc2:2 * r+2 < n
   ·have hc2':(2 * r+1+1:Int) < n:=by omega
    refine eA @hc' @hc0 @hc2' ?_
    refine jM g1 g2 (by omega) hinc (2 * r+2) (2 * r+1) (by omega) (by omega) (by omega) (by omega) ?_
    cases hl:jw rev κ h1[2 * r+1]! h1[2 * r+2]! with
    | true =>
     refine an ?_
     refine jM (hp:=h1) (U:=U) (o:=o) (rev:=rev) (κ:=κ) (d:=d) (by first | exact g1 | exact g1.drew) (n:=n) (by exact g2) (by omega) (by exact hinc) (2 * r+2) r (by omega) (by omega) (by omega) (by omega) ?_
     cases hs:jw rev κ h1[r]! h1[2 * r+2]! with
     | true =>
      refine an ?_
      refine jN (hp:=h1) (U:=U) (o:=o) (rev:=rev) (by first | exact g1.drew.drew | exact g1.drew) r (2 * r+2) (by omega) (by omega) (by omega) (by omega) fun w3 q1 q2 => ?_
      refine an ?_
      have q3:Keep (Ap U o) w1 w3:=by first | exact ((Keep.refl _ w1).drew.drew.trans q2) | exact ((Keep.refl _ w1).drew.trans q2)
      refine hK2 _ _ (2 * r+2,swp h1 r (2 * r+2)) ?_ ⟨q1,(g2.swp (by omega) (by omega) (by omega)).keep q3 (fun t ht hx => ?_),g3.trans q3,by simp [swp,g4],by simp only; omega,?_⟩ (by simp only; omega)
      ·exact bO
      ·have:=q1.lv t (by rw [swp_size]; omega)
       have hx1:=hx.2.1
       omega
      ·rw [← g6]
       conv=>rhs; unfold siftDown
       have hne:¬ 2 * r+1 ≥ n:=by omega
       simp [hne,hs,hc2,hl]
     | false =>
      refine an ?_
      have e1:siftDown (jw rev κ) n 0 r h1=h1:=by
       unfold siftDown
       have hne:¬ 2 * r+1 ≥ n:=by omega
       simp [hne,hs,hc2,hl]
      refine hK _ _ r ?_ ?_
      ·exact bO
      ·rw [← g6,e1]; first | exact ⟨g1.drew.drew,g2,g3.drew.drew⟩ | exact ⟨g1.drew,g2,g3.drew⟩
    | false =>
     refine an ?_
     refine jM (hp:=h1) (U:=U) (o:=o) (rev:=rev) (κ:=κ) (d:=d) (by first | exact g1 | exact g1.drew) (n:=n) (by exact g2) (by omega) (by exact hinc) (2 * r+1) r (by omega) (by omega) (by omega) (by omega) ?_
     cases hs:jw rev κ h1[r]! h1[2 * r+1]! with
     | true =>
      refine an ?_
      refine jN (hp:=h1) (U:=U) (o:=o) (rev:=rev) (by first | exact g1.drew.drew | exact g1.drew) r (2 * r+1) (by omega) (by omega) (by omega) (by omega) fun w3 q1 q2 => ?_
      refine an ?_
      have q3:Keep (Ap U o) w1 w3:=by first | exact ((Keep.refl _ w1).drew.drew.trans q2) | exact ((Keep.refl _ w1).drew.trans q2)
      refine hK2 _ _ (2 * r+1,swp h1 r (2 * r+1)) ?_ ⟨q1,(g2.swp (by omega) (by omega) (by omega)).keep q3 (fun t ht hx => ?_),g3.trans q3,by simp [swp,g4],by simp only; omega,?_⟩ (by simp only; omega)
      ·exact bO
      ·have:=q1.lv t (by rw [swp_size]; omega)
       have hx1:=hx.2.1
       omega
      ·rw [← g6]
       conv=>rhs; unfold siftDown
       have hne:¬ 2 * r+1 ≥ n:=by omega
       simp [hne,hs,hc2,hl]
     | false =>
      refine an ?_
      have e1:siftDown (jw rev κ) n 0 r h1=h1:=by
       unfold siftDown
       have hne:¬ 2 * r+1 ≥ n:=by omega
       simp [hne,hs,hc2,hl]
      refine hK _ _ r ?_ ?_
      ·exact bO
      ·rw [← g6,e1]; first | exact ⟨g1.drew.drew,g2,g3.drew.drew⟩ | exact ⟨g1.drew,g2,g3.drew⟩
   ·have hc2':¬ (2 * r+1+1:Int) < n:=by omega
    have hc3:¬ (2 * r+1+1 < n):=by omega
    refine eA @hc' @hc0 @hc2' ?_
    refine jM (hp:=h1) (U:=U) (o:=o) (rev:=rev) (κ:=κ) (d:=d) (by first | exact g1 | exact g1.drew) (n:=n) (by exact g2) (by omega) (by exact hinc) (2 * r+1) r (by omega) (by omega) (by omega) (by omega) ?_
    cases hs:jw rev κ h1[r]! h1[2 * r+1]! with
    | true =>
     refine an ?_
     refine jN (hp:=h1) (U:=U) (o:=o) (rev:=rev) (by first | exact g1.drew.drew | exact g1.drew) r (2 * r+1) (by omega) (by omega) (by omega) (by omega) fun w3 q1 q2 => ?_
     refine an ?_
     have q3:Keep (Ap U o) w1 w3:=by first | exact ((Keep.refl _ w1).drew.drew.trans q2) | exact ((Keep.refl _ w1).drew.trans q2)
     refine hK2 _ _ (2 * r+1,swp h1 r (2 * r+1)) ?_ ⟨q1,(g2.swp (by omega) (by omega) (by omega)).keep q3 (fun t ht hx => ?_),g3.trans q3,by simp [swp,g4],by simp only; omega,?_⟩ (by simp only; omega)
     ·exact bO
     ·have:=q1.lv t (by rw [swp_size]; omega)
      have hx1:=hx.2.1
      omega
     ·rw [← g6]
      conv=>rhs; unfold siftDown
      have hne:¬ 2 * r+1 ≥ n:=by omega
      simp [hne,hs,hc3]
    | false =>
     refine an ?_
     have e1:siftDown (jw rev κ) n 0 r h1=h1:=by
      unfold siftDown
      have hne:¬ 2 * r+1 ≥ n:=by omega
      simp [hne,hs,hc3]
     refine hK _ _ r ?_ ?_
     ·exact bO
     ·rw [← g6,e1]; first | exact ⟨g1.drew.drew,g2,g3.drew.drew⟩ | exact ⟨g1.drew,g2,g3.drew⟩
  ·have hc':(n:Int)≤2 * r+1:=by omega
   refine bf @hc' ?_
   have e1:siftDown (jw rev κ) n 0 r h1=h1:=by
    unfold siftDown
    simp [show n≤2 * r+1 by omega]
   refine hK _ _ r ?_ ?_
   ·exact bO
   ·rw [← g6,e1]; exact ⟨g1,g2,g3⟩
 rintro e3 j w1 ⟨g1,g2,g3⟩
 refine an ?_
 exact hk _ _ g1 g2 g3
def Eb (rev:Bool) (κ:Nat→Bytes) (hp:Array Nat):Prop:=∀ i,i < hp.size→Ok (jw rev κ) 0 hp.size hp i
theorem Eb.root {rev:Bool} {κ:Nat→Bytes} {hp:Array Nat} (h:Eb rev κ hp) {j:Nat} (hj:j < hp.size):jw rev κ hp[0]! hp[j]! = false:=by
 have:=root_max (F:=0) (hi:=hp.size) (d:=hp) (qy rev κ) h j j (aE _) hj
 simpa using this
theorem qJ (g:HeapAt w H h U o rev hp) (gk:iD d w U o κ hp hp.size) (hd:cN d w) (hU:cx d U) (h0:0 < hp.size)
    (hk:∀ w',HeapAt w' H h U o rev (siftDown (jw rev κ) hp.size 0 0 hp)→iD d w' U o κ (siftDown (jw rev κ) hp.size 0 0 hp) hp.size→Keep (Ap U o) w w'→k (.tuple #[]) w') :
    aX prog 221 #[.pointer (some ⟨H,h,none⟩),.int .i64 0] k w:=by
 refine ae [] func221 ?_
 refine an ?_
 refine fy g ?_
 refine an ?_
 refine kz (κ:=κ) g gk hd hU 0 rfl rfl (aP _) (aE _) fun w2 b g1 g2 g3 => ?_
 cases b with
 | true =>
  refine an ?_
  exact hk _ g1 g2 g3
 | false =>
  refine an ?_
  refine ae [] func226 ?_
  refine an ?_
  refine bR (fun _:Unit=>[(0,.pointer (some ⟨H,h,none⟩)),(1,.int .i64 0)]) (fun _ w'=>w'=w2) (fun _ _=>0) () (by kernel_rfl) ?_ rfl ?_
  ·exact bO
  rintro K e _ w3 hw hK
  have hw:=hw.symm
  subst hw
  have two:(2:Int)≠0:=by decide
  have z:((0:Int) - 1).tdiv 2=0:=rfl
  simp (disch:=first | exact dZ | fail) only [go_sem,fw two,z]
  exact hk _ g1 g2 g3
theorem ue (g:HeapAt w H h U o rev hp) (gk:iD d w U o κ hp hp.size) (hd:cN d w) (hU:cx d U)
    (hk:∀ w' hp',HeapAt w' H h U o rev hp'→iD d w' U o κ hp' hp.size→Eb rev κ hp'→PermIn 0 hp.size hp hp'→Keep (Ap U o) w w'→k (.tuple #[]) w') :
    aX prog 219 #[.pointer (some ⟨H,h,none⟩)] k w:=by
 have hr:=g.room
 have two:(2:Int)≠0:=by decide
 have z:((hp.size:Int)).tdiv 2=(hp.size / 2:Nat):=oM _ 2
 have hb:=build (qy rev κ) hp.size 0 (hp.size / 2) hp (by omega) (fun i h1 h2 c hc hc2=>by omega)
 refine ae [] func219 ?_
 refine an ?_
 refine fy g ?_
 simp (disch:=first | exact dZ | fail) only [go_sem,fw two,z]
 refine bR (fun x:Nat × Array Nat=>[(0,.pointer (some ⟨H,h,none⟩)),(2,.int .i64 hp.size),(3,.int .i64 ((x.1:Int) - 1))]) (fun x w'=>HeapAt w' H h U o rev x.2∧iD d w' U o κ x.2 hp.size∧Keep (Ap U o) w w'∧x.2.size=hp.size∧x.1≤hp.size∧heapBuild (jw rev κ) hp.size 0 x.1 x.2=heapBuild (jw rev κ) hp.size 0 (hp.size / 2) hp) (fun x _=>x.1) (hp.size / 2,hp) (by kernel_rfl) ?_ ⟨g,gk,Keep.refl _ _,rfl,by simp only; omega,rfl⟩ ?_
 ·exact bO
 rintro K e ⟨r,h1⟩ w1 ⟨g1,g2,g3,g4,g5,g6⟩ hK
 simp only at g1 g2 g3 g4 g5 g6
 have hinc:cN d w1:=hd.keep g3 (fun x o' hx=>by rw [hx.1]; exact hU o')
 cases r with
 | zero =>
  have hc:¬ (0:Int)≤((0:Nat):Int) - 1:=by omega
  refine bf @hc ?_
  have e1:h1=heapBuild (jw rev κ) hp.size 0 (hp.size / 2) hp:=g6
  refine hk _ h1 g1 g2 ?_ ?_ g3
  ·intro i hi
   have:=hb.1 i (by omega)
   rw [← e1] at this
   rw [g4]; exact this
  ·rw [e1]
   have:=hb.2
   rwa [Nat.zero_add] at this
 | succ r =>
  have hc:(0:Int)≤((r+1:Nat):Int) - 1:=by omega
  refine bf @hc ?_
  refine kz (κ:=κ) g1 g2 hinc hU r (by omega) rfl (by omega) (by omega) fun w2 b q1 q2 q3 => ?_
  refine an ?_
  refine hK _ _ (r,siftDown (jw rev κ) hp.size 0 r h1) ?_ ⟨q1,q2,g3.trans q3,by simp only; rw [ic _ _ _ _ _ _ (aE _)]; exact g4,by simp only; omega,g6⟩ (by simp)
  exact bO
theorem qK (g:HeapAt w H h U o rev hp) (gk:∀ j,0 < j→j < hp.size→∃ v,w.cell? ⟨U,o+10+hp[j]! * 4+2,none⟩=some v∧eN d v (κ hp[j]!)) (hd:cN d w) (hU:cx d U) (h0:0 < hp.size)
    (hk:∀ w' hp' v,HeapAt w' H h U o rev hp'→hp'=(siftDown (jw rev κ) (hp.size - 1) 0 0 (swp hp 0 (hp.size - 1))).pop→Keep (fun b x=>Ap U o b x∨b=H∧x=h+2) w w'→k v w') :
    aX prog 220 #[.pointer (some ⟨H,h,none⟩)] k w:=by
 have hr:=g.room
 obtain ⟨n,hn⟩:∃ n,hp.size=n+1:=⟨hp.size - 1,by omega⟩
 have hn':(hp.size:Int) - 1=n:=by omega
 rw [show hp.size - 1=n by omega] at hk
 refine ae [.tmp 2] func220 ?_
 refine an ?_
 refine fy g ?_
 refine bf @hn' ?_
 refine jN g 0 n rfl rfl h0 (by omega) fun w1 g1 k1 => ?_
 have gk0:iD d w U o κ (swp hp 0 n) n:=by
  intro j hj
  rw [swp_get hp h0 (by omega),if_neg (by omega)]
  by_cases hj0:j=0
  ·rw [if_pos hj0]; exact gk n (by omega) (by omega)
  ·rw [if_neg hj0]; exact gk j (by omega) (by omega)
 have gk1:iD d w1 U o κ (swp hp 0 n) n:=gk0.keep k1 (fun j hj hx=>by have:=g1.lv j (by rw [swp_size]; omega); have:=hx.2.1; omega)
 have i1:cN d w1:=hd.keep k1 (fun x o' hx=>by rw [hx.1]; exact hU o')
 refine an ?_
 refine kz (κ:=κ) g1 gk1 i1 hU 0 rfl rfl (aP _) (by rw [swp_size]; omega) fun w2 b g2 gk2 k2 => ?_
 obtain ⟨h2,hh2⟩:∃ h2,h2=siftDown (jw rev κ) n 0 0 (swp hp 0 n):=⟨_,rfl⟩
 rw [← hh2] at g2 hk
 have hz:h2.size=n+1:=by rw [hh2,ic _ _ _ _ _ _ (aE _),swp_size,hn]
 have c2:=g2.c2
 have fH:=g2.fH
 rw [hz] at c2
 simp (disch:=first | exact dZ | fail) only [go_sem,c2,qq Tryz.es161,fH]
 have ne:=g2.ne
 have ne':=Ne.symm ne
 have pz:h2.pop.size=n:=by simp [hz]
 have pg:∀ j,j < n→h2.pop[j]! = h2[j]! := by
  intro j hj
  rw [aH _ j (by omega),aH _ j (by omega)]
  simp
 refine hk _ h2.pop _ ⟨?_,?_,?_,?_,?_,by omega,?_,?_,?_,ne,fun x h1 h2=>eY (g2.ex x h1 h2)⟩ rfl ?_
 ·have:=g2.c0
  exact bk @this
 ·have:=g2.c1
  exact bk @this
 ·rw [pz]
  exact bk @c2
 ·intro j hj
  rw [pz] at hj
  rw [pg j hj]
  have:=g2.ptr j (by omega)
  exact bk @this
 ·intro j hj
  rw [pz] at hj
  rw [pg j hj]
  have:=g2.ix j (by omega)
  exact bk @this
 ·intro j hj
  rw [pz] at hj
  rw [pg j hj]
  exact g2.lv j (by omega)
 ·intro o'
  have:=g2.fU o'
  exact bk @this
 ·intro o'
  have:=g2.fH o'
  exact bk @this
 ·exact ((k1.trans k2).mono fun b x _ hx => .inl hx).set (fun _ => .inr ⟨rfl,rfl⟩)
end
end Go.Proofs
end
section
namespace Go.E
open Go Go.Sort Go.Proofs.Tryz
theorem cq {v:Value} (h:mn v=true):∃ a n c,v = .slice (some a) n c:=by
 unfold mn at h
 split at h
 ·exact ⟨_,_,_,rfl⟩
 ·simp at h
def dJ (L:List Sp) (p:Nat):Bytes:=if p % 2=0 then L[p / 2]!.s else L[p / 2]!.e
def dY (L:List Sp) (p:Int):Prop:=0≤p∧p < 2 * L.length
instance (L:List Sp) (p:Int):Decidable (dY L p):=inferInstanceAs (Decidable (_∧_))
def dh (L:List Sp) (p:Int):Int:=if dY L p then (if p % 2=0 then 1 else 2) else 0
theorem gA {L:List Sp} {p:Int} (h:dY L p) (h2:p % 2=0):dh L p=1:=by unfold dh; rw [if_pos h,if_pos h2]
theorem kC {L:List Sp} {p:Int} (h:dY L p) (h2:p % 2=1):dh L p=2:=by unfold dh; rw [if_pos h,if_neg (by omega)]
theorem gu {L:List Sp} {p:Int} (h:¬ dY L p):dh L p=0:=by unfold dh; rw [if_neg h]
structure LvAt (d w:World) (U a I b o:Nat) (L:List Sp) (p:Int):Prop where
 it:w.cell? ⟨U,a,none⟩=some (.iface 233 (.pointer (some ⟨I,0,none⟩)))
 kd:w.cell? ⟨U,a+1,none⟩=some (.int .i8 (dh L p))
 ky:∃ v,w.cell? ⟨U,a+2,none⟩=some v∧v.cells = #[v]∧(dY L p→mn v=true∧eN d v (dJ L p.toNat))
 sp:∃ v,w.cell? ⟨U,a+3,none⟩=some v∧v.cells = #[v]∧(dY L p→v=l9 b o (p.toNat / 2))
 iter:IterAt w I b o L.length (p / 2)
 rg : -1≤p∧p≤2 * L.length
 fU:∀ x,w.frozen? ⟨U,x,none⟩=false
def Cm (U a I:Nat):Nat→Nat→Prop:=fun b x=>b=U∧a+1≤x∧x≤a+3∨b=I∧x=2
def kX (L:List Sp) (p:Int):Int:=if p=2 * L.length then p else p+1
def kY (p:Int):Int:=if p = -1 then p else p - 1
theorem LvAt.keep {d w w2:World} {U a I b o:Nat} {L:List Sp} {p:Int} {M:Nat→Nat→Prop} (g:LvAt d w U a I b o L p) (hk:Keep M w w2) (h1:∀ x,a≤x→x≤a+3→¬ M U x) (h2:∀ x,¬ M I x):LvAt d w2 U a I b o L p where
 it:=hk.some g.it (h1 _ (by omega) (by omega))
 kd:=hk.some g.kd (h1 _ (by omega) (by omega))
 ky:=by obtain ⟨v,q1,q2⟩:=g.ky; exact ⟨v,hk.some q1 (h1 _ (by omega) (by omega)),q2⟩
 sp:=by obtain ⟨v,q1,q2⟩:=g.sp; exact ⟨v,hk.some q1 (h1 _ (by omega) (by omega)),q2⟩
 iter:=g.iter.keep hk h2
 rg:=g.rg
 fU x:=by rw [hk.frozen U x (aD g.it)]; exact g.fU x
theorem LvAt.drew {d w:World} {U a I b o:Nat} {L:List Sp} {p:Int} (g:LvAt d w U a I b o L p):LvAt d w.drew U a I b o L p:=⟨g.it,g.kd,g.ky,g.sp,g.iter.drew,g.rg,g.fU⟩
theorem LvAt.mk' {d w w2:World} {U a I b o:Nat} {L:List Sp} {p q:Int} (g:LvAt d w U a I b o L p) (hUI:U≠I) (hq : -1≤q∧q≤2 * L.length) {x:Int} {y z:Value} (hit:IterAt w2 I b o L.length (q / 2)) (hk:Keep (mh I) w w2) (hx:x=dh L q)
    (hyc:y.cells = #[y]) (hzc:z.cells = #[z]) (hy:dY L q→mn y=true∧eN d y (dJ L q.toNat)) (hz:dY L q→z=l9 b o (q.toNat / 2)) :
    LvAt d (((w2.setCell ⟨U,a+1,none⟩ (.int .i8 x)).setCell ⟨U,a+2,none⟩ y).setCell ⟨U,a+3,none⟩ z) U a I b o L q:=by
 have hm:∀ x,¬ mh I U x:=fun x h=>hUI h.1
 have k1:∃ v,w2.cell? ⟨U,a+1,none⟩=some v:=⟨_,hk.some g.kd (hm _)⟩
 have k2:∃ v,w2.cell? ⟨U,a+2,none⟩=some v:=by obtain ⟨v,q1,q2⟩:=g.ky; exact ⟨v,hk.some q1 (hm _)⟩
 have k3:∃ v,w2.cell? ⟨U,a+3,none⟩=some v:=by obtain ⟨v,q1,q2⟩:=g.sp; exact ⟨v,hk.some q1 (hm _)⟩
 obtain ⟨v1,k1⟩:=k1
 obtain ⟨v2,k2⟩:=k2
 obtain ⟨v3,k3⟩:=k3
 have k0:=hk.some g.it (hm _)
 refine ⟨?_,?_,⟨y,?_,hyc,hy⟩,⟨z,?_,hzc,hz⟩,?_,hq,?_⟩
 ·exact bk @k0
 ·subst hx
  exact bk @k1
 ·exact bk @k2
 ·exact bk @k3
 ·have hkk:Keep (fun b _=>b=U) w2 (((w2.setCell ⟨U,a+1,none⟩ (.int .i8 x)).setCell ⟨U,a+2,none⟩ y).setCell ⟨U,a+3,none⟩ z) :=
    (((Keep.refl (fun b _=>b=U) w2).set (b:=U) (fun _=>rfl)).set (b:=U) (fun _=>rfl)).set (b:=U) (fun _=>rfl)
  exact hit.keep hkk (fun o' h=>hUI h.symm)
 ·intro x
  have:=hk.frozen U x (aD g.it)
  rw [g.fU] at this
  exact bk @this
theorem ey {w w2:World} {U a I:Nat} {x y z:Value} (hk:Keep (mh I) w w2):Keep (Cm U a I) w (((w2.setCell ⟨U,a+1,none⟩ x).setCell ⟨U,a+2,none⟩ y).setCell ⟨U,a+3,none⟩ z) :=
 (((hk.mono (fun b o _ h => .inr ⟨h.1,h.2⟩)).set (fun _ => .inl ⟨rfl,by omega,by omega⟩)).set (fun _ => .inl ⟨rfl,by omega,by omega⟩)).set (fun _ => .inl ⟨rfl,by omega,by omega⟩)
end Go.E
namespace Go.Proofs
open Go Go.E Go.Sort Go.Proofs.Tryz
section
variable {k:au} {w d:World} {U a I b o:Nat} {L:List Sp} {p:Int}
theorem mo (g:LvAt d w U a I b o L p) (hd:cN d w) (hU:cx d U) (hI:cx d I) (hUI:U≠I) (hs:ie d b o L) (hn:L.length < 1000000)
    (hk:∀ w',LvAt d w' U a I b o L (kX L p)→Keep (Cm U a I) w w'→k (.tuple #[]) w'):aX prog 215 #[.pointer (some ⟨U,a,none⟩)] k w:=by
 have c0:=g.it
 have c1:=g.kd
 obtain ⟨v2,c2,_,y2⟩:=g.ky
 obtain ⟨v3,c3,_,y3⟩:=g.sp
 have fU:=g.fU
 obtain ⟨r1,r2⟩:=g.rg
 refine ae [] func215 ?_
 by_cases hv:dY L p∧p % 2=0
 ·obtain ⟨hv1,hv2⟩:=hv
  have e1:dh L p=1:=by unfold dh; rw [if_pos hv1,if_pos hv2]
  rw [e1] at c1
  have e3:=y3 hv1
  subst e3
  obtain ⟨j,hj⟩:∃ j:Nat,p=2 * j:=⟨(p / 2).toNat,by unfold dY at hv1; omega⟩
  subst hj
  have hj2:((2 * j:Int)).toNat / 2=j:=by omega
  rw [hj2] at c3
  unfold dY at hv1
  obtain ⟨_,⟨ve,se1,se2,se3⟩,_⟩:=hs j (by omega)
  have se:=hd _ _ _ se1
  obtain ⟨ea,en,ec,rfl⟩:=cq se2
  have e4:kX L (2 * j)=2 * j+1:=by unfold kX; rw [if_neg (by omega)]
  rw [e4] at hk
  refine bf @c1 ?_
  refine ay (sq [0,1,2,3,4] (.read 5 (sq [6,7] (.read 8 (sq [9,10,11,12] (.read 13 (sq [14,15,16] (.eff 17 [] .done)))))))) ?_
  simp (disch:=first | exact dZ | fail) only [go_sem,c3,l9,se,c1,c2,fU]
  refine hk _ ?_ ?_
  ·refine (g.mk' (q:=2 * j+1) hUI (by omega) (by have:=g.iter; rwa [show (2 * (j:Int)+1) / 2=2 * (j:Int) / 2 by omega]) (Keep.refl _ w) ?_ rfl rfl (fun _=>⟨rfl,?_⟩) (fun _ => ?_)).drew
   ·exact (kC ⟨by omega,by omega⟩ (by omega)).symm
   ·unfold dJ
    rw [if_neg (by omega),show (2 * (j:Int)+1).toNat / 2=j by omega]; exact se3
   ·rw [show (2 * (j:Int)+1).toNat / 2=j by omega]; rfl
  ·exact (ey (Keep.refl _ w)).drew
 ·have e1:((dh L p) == 1)=false:=by
    unfold dh
    split
    ·split
     ·exact absurd ⟨by assumption,by assumption⟩ hv
     ·rfl
    ·rfl
  refine eA @c0 @c1 @e1 ?_
  have hit:=g.iter
  refine uZ hit (by omega) (by omega) (by omega) fun w2 i2 k2 => ?_
  have ei:mA L.length (p / 2)=kX L p / 2:=by
   unfold mA kX
   unfold dY at hv
   split <;> split <;> omega
  rw [ei] at i2 ⊢
  have hm:∀ x,¬ mh I U x:=fun x h=>hUI h.1
  have f2:∀ x,w2.frozen? ⟨U,x,none⟩=false:=fun x=>by rw [k2.frozen U x (aD c0)]; exact fU x
  have q0:=k2.some c0 (hm _)
  have q1:=k2.some c1 (hm _)
  have q2:=k2.some c2 (hm _)
  have q3:=k2.some c3 (hm _)
  have nr : -1≤kX L p∧kX L p≤2 * L.length:=by unfold kX; split <;> omega
  have hd2:cN d w2:=hd.keep k2 (fun x o' hx=>by rw [hx.1]; exact hI o')
  by_cases hv2:dY L (kX L p)
  ·have ev:kX L p % 2=0:=by
     unfold dY kX at *
     split at hv2 <;> split <;> omega
   obtain ⟨j,hj⟩:∃ j:Nat,kX L p=2 * j:=⟨(kX L p / 2).toNat,by unfold dY at hv2; omega⟩
   have hjl:j < L.length:=by unfold dY at hv2; omega
   have er:jH b o L.length (kX L p / 2)=l9 b o j:=by
    unfold jH
    rw [if_pos (by omega),show (kX L p / 2).toNat=j by omega]
   rw [er]
   obtain ⟨⟨vs,se1,se2,se3⟩,_⟩:=hs j hjl
   have se:=hd2 _ _ _ se1
   obtain ⟨ea,en,ec,rfl⟩:=cq se2
   simp (disch:=first | exact dZ | fail) only [go_sem,l9,Option.isNone_some,se,q1,q2,q3,f2]
   refine hk _ ?_ ?_
   ·refine g.mk' hUI nr i2 k2 ?_ rfl rfl (fun _=>⟨rfl,?_⟩) (fun _ => ?_)
    ·unfold dh; rw [if_pos hv2,if_pos ev]
    ·unfold dJ
     rw [if_pos (by omega),show (kX L p).toNat / 2=j by omega]; exact se3
    ·rw [show (kX L p).toNat / 2=j by omega]; rfl
   ·exact ey k2
  ·have er:jH b o L.length (kX L p / 2) = .pointer none:=by
     unfold jH
     rw [if_neg (by unfold dY at hv2; omega)]
   rw [er]
   simp (disch:=first | exact dZ | fail) only [go_sem,Option.isNone_none,q1,q2,q3,f2]
   refine hk _ ?_ ?_
   ·refine g.mk' hUI nr i2 k2 ?_ rfl rfl (fun h=>absurd h hv2) (fun h=>absurd h hv2)
    unfold dh; rw [if_neg hv2]
   ·exact ey k2
theorem mq (g:LvAt d w U a I b o L p) (hd:cN d w) (hU:cx d U) (hI:cx d I) (hUI:U≠I) (hs:ie d b o L) (hn:L.length < 1000000)
    (hk:∀ w',LvAt d w' U a I b o L (kY p)→Keep (Cm U a I) w w'→k (.tuple #[]) w'):aX prog 216 #[.pointer (some ⟨U,a,none⟩)] k w:=by
 have c0:=g.it
 have c1:=g.kd
 obtain ⟨v2,c2,_,y2⟩:=g.ky
 obtain ⟨v3,c3,_,y3⟩:=g.sp
 have fU:=g.fU
 obtain ⟨r1,r2⟩:=g.rg
 refine ae [] func216 ?_
 by_cases hv:dY L p∧p % 2=1
 ·obtain ⟨hv1,hv2⟩:=hv
  have e1:dh L p=2:=by unfold dh; rw [if_pos hv1,if_neg (by omega)]
  rw [e1] at c1
  have e3:=y3 hv1
  subst e3
  obtain ⟨j,hj⟩:∃ j:Nat,p=2 * j+1:=⟨(p / 2).toNat,by unfold dY at hv1; omega⟩
  subst hj
  have hj2:((2 * j+1:Int)).toNat / 2=j:=by omega
  rw [hj2] at c3
  unfold dY at hv1
  obtain ⟨⟨ve,se1,se2,se3⟩,_⟩:=hs j (by omega)
  have se:=hd _ _ _ se1
  obtain ⟨ea,en,ec,rfl⟩:=cq se2
  have e4:kY (2 * j+1)=2 * j:=by unfold kY; rw [if_neg (by omega)]; omega
  rw [e4] at hk
  refine bf @c1 ?_
  refine ay (sq [0,1,2,3,4] (.read 5 (sq [6,7] (.read 8 (sq [9,10,11,12] (.read 13 (sq [14,15,16] (.eff 17 [] .done)))))))) ?_
  simp (disch:=first | exact dZ | fail) only [go_sem,c3,l9,se,c1,c2,fU]
  refine hk _ ?_ ?_
  ·refine (g.mk' (q:=2 * j) hUI (by omega) (by have:=g.iter; rwa [show (2 * (j:Int)) / 2=(2 * (j:Int)+1) / 2 by omega]) (Keep.refl _ w) ?_ rfl rfl (fun _=>⟨rfl,?_⟩) (fun _ => ?_)).drew
   ·exact (gA ⟨by omega,by omega⟩ (by omega)).symm
   ·unfold dJ
    rw [if_pos (by omega),show (2 * (j:Int)).toNat / 2=j by omega]; exact se3
   ·rw [show (2 * (j:Int)).toNat / 2=j by omega]; rfl
  ·exact (ey (Keep.refl _ w)).drew
 ·have e1:((dh L p) == 2)=false:=by
    unfold dh
    split
    ·split
     ·rfl
     ·exact absurd ⟨by assumption,by omega⟩ hv
    ·rfl
  refine eA @c0 @c1 @e1 ?_
  have hit:=g.iter
  refine ub hit (by omega) (by omega) (by omega) fun w2 i2 k2 => ?_
  have ei:mB (p / 2)=kY p / 2:=by
   unfold mB kY
   unfold dY at hv
   split <;> split <;> omega
  rw [ei] at i2 ⊢
  have hm:∀ x,¬ mh I U x:=fun x h=>hUI h.1
  have f2:∀ x,w2.frozen? ⟨U,x,none⟩=false:=fun x=>by rw [k2.frozen U x (aD c0)]; exact fU x
  have q0:=k2.some c0 (hm _)
  have q1:=k2.some c1 (hm _)
  have q2:=k2.some c2 (hm _)
  have q3:=k2.some c3 (hm _)
  have nr : -1≤kY p∧kY p≤2 * L.length:=by unfold kY; split <;> omega
  have hd2:cN d w2:=hd.keep k2 (fun x o' hx=>by rw [hx.1]; exact hI o')
  by_cases hv2:dY L (kY p)
  ·have ev:kY p % 2=1:=by
     unfold dY kY at *
     split at hv2 <;> split <;> omega
   obtain ⟨j,hj⟩:∃ j:Nat,kY p=2 * j+1:=⟨(kY p / 2).toNat,by unfold dY at hv2; omega⟩
   have hjl:j < L.length:=by unfold dY at hv2; omega
   have er:jH b o L.length (kY p / 2)=l9 b o j:=by
    unfold jH
    rw [if_pos (by omega),show (kY p / 2).toNat=j by omega]
   rw [er]
   obtain ⟨_,⟨vs,se1,se2,se3⟩,_⟩:=hs j hjl
   have se:=hd2 _ _ _ se1
   obtain ⟨ea,en,ec,rfl⟩:=cq se2
   simp (disch:=first | exact dZ | fail) only [go_sem,l9,Option.isNone_some,se,q1,q2,q3,f2]
   refine hk _ ?_ ?_
   ·refine g.mk' hUI nr i2 k2 ?_ rfl rfl (fun _=>⟨rfl,?_⟩) (fun _ => ?_)
    ·unfold dh; rw [if_pos hv2,if_neg (by omega)]
    ·unfold dJ
     rw [if_neg (by omega),show (kY p).toNat / 2=j by omega]; exact se3
    ·rw [show (kY p).toNat / 2=j by omega]; rfl
   ·exact ey k2
  ·have er:jH b o L.length (kY p / 2) = .pointer none:=by
     unfold jH
     rw [if_neg (by unfold dY at hv2; omega)]
   rw [er]
   simp (disch:=first | exact dZ | fail) only [go_sem,Option.isNone_none,q1,q2,q3,f2]
   refine hk _ ?_ ?_
   ·refine g.mk' hUI nr i2 k2 ?_ rfl rfl (fun h=>absurd h hv2) (fun h=>absurd h hv2)
    unfold dh; rw [if_neg hv2]
   ·exact ey k2
end
end Go.Proofs
end
