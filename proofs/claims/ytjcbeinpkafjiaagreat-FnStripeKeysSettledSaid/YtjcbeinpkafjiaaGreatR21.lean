/- Parts of the proof: Wg, Wh, Wi, Va, Vb. -/
import Derived.Test.YtjcbeinpkafjiaaGreatR09
import Derived.Test.YtjcbeinpkafjiaaGreatR20
set_option linter.all false
set_option maxRecDepth 10000
section
namespace Go.E
open Go Go.Sort Go.Proofs Go.Proofs.Tryz
theorem EH {b o:Nat} {k:aq} (l:List Value) (i:Nat) {w:World} (hc:∀ j,i≤j→j < i+l.length→∃ u,w.cell? ⟨b,o+j,none⟩=some u) (hf:∀ y,w.frozen? ⟨b,y,none⟩=false) (h1:∀ u ∈ l,u.oneCell'=true)
    (hk:∀ w',(∀ j u,l[j]? = some u→w'.cell? ⟨b,o+i+j,none⟩=some u)→Keep (fun c x=>c=b∧o+i≤x∧x < o+i+l.length) w w'→k undef w'):tE ⟨b,o,none⟩ i l k w:=by
 induction l generalizing i w with
 | nil =>
  rw [FC]
  exact hk w (by simp) (Keep.refl _ w)
 | cons v l ih =>
  rw [xL]
  have ea:(⟨b,o,none⟩:Addr).add i=⟨b,o+i,none⟩:=by cases i <;> rfl
  rw [ea]
  obtain ⟨u,hu⟩:=hc i (aD _) (by simp only [ag]; omega)
  rw [hu,hf]
  unfold vL
  rw [ea]
  refine ⟨⟨rfl,rfl,h1 v aR⟩,ih (i+1) (fun j h2 h3 => ?_) (fun y=>by rw [World.frozen?_setCell]; exact hf y) (fun x hx=>h1 x (aj _ hx)) fun w' hw' k'=>hk w' (fun j x hx => ?_) ?_⟩
  ·obtain ⟨x,hx⟩:=hc j (by omega) (by simp only [ag]; omega)
   exact ⟨x,by show (w.setCell ⟨b,o+i,none⟩ v).cell? _=_; rw [gq (by omega)]; exact hx⟩
  ·cases j with
   | zero =>
    simp only [List.getElem?_cons_zero,aK] at hx
    subst hx
    refine k'.some (b:=b) (o:=o+i+0) ?_ (by omega)
    show (w.setCell ⟨b,o+i,none⟩ v).cell? ⟨b,o+i,none⟩=_
    rw [cC,hu]
    rfl
   | succ j =>
    rw [List.getElem?_cons_succ] at hx
    have:=hw' j x hx
    rwa [show o+(i+1)+j=o+i+(j+1) by omega] at this
  ·refine Keep.trans (bR (o:=o+i) ⟨rfl,aD _,by simp only [ag]; omega⟩) (k'.mono fun c x _ h => ?_)
   simp only [ag]
   omega
theorem EI {b o:Nat} {k:aq} {v:Value} {l:List Value} {w:World} (hc:∀ j,j < l.length+1→∃ u,w.cell? ⟨b,o+j,none⟩=some u) (hf:∀ y,w.frozen? ⟨b,y,none⟩=false) (h1:∀ u ∈ v :: l,u.oneCell'=true)
    (hk:∀ w',(∀ j u,(v :: l)[j]? = some u→w'.cell? ⟨b,o+j,none⟩=some u)→Keep (fun c x=>c=b∧o≤x∧x < o+(l.length+1)) w w'→k undef w'):vL (w.cell? ⟨b,o,none⟩) (w.frozen? ⟨b,o,none⟩) v ⟨b,o,none⟩ 0 l k w:=by
 have:=EH (k:=k) (b:=b) (o:=o) (v :: l) 0 (w:=w) (fun j _ h=>hc j (by simpa using h)) hf h1 fun w' a c=>hk w' a c
 rwa [xL] at this
theorem OB.inc {d d2:World} {v:Value} {b:Option Bytes} (h:OB d v b) (hi:bz d d2):OB d2 v b:=by
 rcases h with h | ⟨l,a,n,c,h1,h2,h3⟩
 ·exact .inl h
 ·exact .inr ⟨l,a,n,c,h1,h2,h3.inc hi⟩
def pI (key:Bytes) (has:Bool):Option Bytes:=if has then some key else none
end Go.E
namespace Go.Proofs
open Go Go.E Go.Sort Go.Proofs.Tryz
section
variable {k:aq} {d w:World}
theorem eL {key:Bytes} {has:Bool} (hinc:bz d w) (hl:key.length≤4294967296) (hk:∀ d2 w2 v,Gr d w d2 w2→OB d2 v (pI key has)→k v w2):aX prog 67 #[.agg #[.string ⟨key.toArray⟩,.bool has]] k w:=by
 refine ai [.tmp 2] func67 ?_
 refine al ?_
 have x1:bY w (w.alloc (.cells #[.string ⟨key.toArray⟩,.bool has] 37)):=aL _
 cases has with
 | false =>
  refine bf @aA ?_
  exact hk d _ _ (Gr.ext hinc x1) (.inl ⟨rfl,rfl⟩)
 | true =>
  refine bf @aA ?_
  refine eO (hinc.trans x1.inc) hl fun d2 w2 a n c g2 h2 => ?_
  refine al ?_
  exact hk d2 w2 _ ((Gr.ext hinc x1).trans g2) (.inr ⟨key,a,n,c,rfl,rfl,h2⟩)
theorem kz (hinc:bz d w) (hk:∀ d2 w2 C,Gr d w d2 w2→w.heap.size≤C→d2.cell? ⟨C,0,none⟩=some (.func (.func 102) #[] #[])→d2.cell? ⟨C,1,none⟩=some (.func (.func 103) #[] #[])→d2.cell? ⟨C,5,none⟩=some .nilFunc→k (.pointer (some ⟨C,0,none⟩)) w2):aX prog 66 #[] k w:=by
 refine ai [.tmp 0] func66 ?_
 refine al ?_
 generalize hO:Obj.cells _ _=O
 have x2:bY w (w.alloc O):=aL _
 obtain ⟨d2,g2,e2⟩:=nN hinc x2
 have c0:(w.alloc O).cell? ⟨w.heap.size,0,none⟩=some (.func (.func 102) #[] #[]):=by rw [← hO]; exact bb @aA
 have c1:(w.alloc O).cell? ⟨w.heap.size,1,none⟩=some (.func (.func 103) #[] #[]):=by rw [← hO]; exact bb @aA
 have c5:(w.alloc O).cell? ⟨w.heap.size,5,none⟩=some .nilFunc:=by rw [← hO]; exact bb @aA
 exact hk d2 _ _ g2 (aD _) (e2 _ _ _ (aD _) c0) (e2 _ _ _ (aD _) c1) (e2 _ _ _ (aD _) c5)
end
end Go.Proofs
end
section
namespace Go.E
open Go Go.Sort Go.Proofs Go.Proofs.Tryz
structure MI0 (w:World) (U o Bf:Nat) (tt:TypeId) (tv:Value) (Ls:List Lvl):Prop where
 u2:w.cell? ⟨U,o,none⟩=some (.pointer (some ⟨Bf,0,none⟩))
 u3:w.cell? ⟨U,o+1,none⟩=some (.slice none 0 0)
 u4:w.cell? ⟨U,o+2,none⟩=some (.slice none 0 0)
 u5:w.cell? ⟨U,o+3,none⟩=some (.iface tt tv)
 u6:w.cell? ⟨U,o+4,none⟩=some (.slice none 0 0)
 u7:w.cell? ⟨U,o+5,none⟩=some (.slice none 0 0)
 u8:w.cell? ⟨U,o+6,none⟩=some (.slice none 0 0)
 u9:w.cell? ⟨U,o+7,none⟩=some (.int .i8 0)
 u10:w.cell? ⟨U,o+8,none⟩=some .nilIface
 u11:w.cell? ⟨U,o+9,none⟩=some (.int .i8 0)
 lv:∀ i x,Ls[i]? = some x→w.cell? ⟨U,o+10+i * 4,none⟩=some (.iface 233 (.pointer (some ⟨x.I,0,none⟩)))∧w.cell? ⟨U,o+10+i * 4+1,none⟩=some (.int .i8 0)∧w.cell? ⟨U,o+10+i * 4+2,none⟩=some (.slice none 0 0)∧w.cell? ⟨U,o+10+i * 4+3,none⟩=some (.pointer none)
 it:∀ x,o+50≤x→x < o+70→∃ v,w.cell? ⟨U,x,none⟩=some v
 b1:w.cell? ⟨Bf,1,none⟩=some (.slice (some ⟨U,o+10,none⟩) Ls.length 10)
 b2:w.cell? ⟨Bf,2,none⟩=some (.func (.func 102) #[] #[])
 b4:w.cell? ⟨Bf,4,none⟩=some (.slice (some ⟨U,o+50,none⟩) 0 10)
def tb (U o Bf:Nat):Nat→Nat→Prop:=fun b x=>b=U∧o≤x∧x < o+70∨b=Bf∧(x=1∨x=2∨x=4)
end Go.E
namespace Go.Proofs
open Go Go.E Go.Sort Go.Proofs.Tryz
section
variable {k:aq} {d w:World} {U o Bf:Nat} {tt:TypeId} {tv:Value}
theorem kK {v:Value} {Ls:List Lvl} (hv:Sl CA 1 d v Ls) (hd:bz d w) (oU:cq d U) (oB:cq d Bf) (hn:Ls.length≤10) (hne:Bf≠U) (cU:∀ x,o≤x→x < o+70→∃ u,w.cell? ⟨U,x,none⟩=some u) (fU:∀ x,w.frozen? ⟨U,x,none⟩=false)
    (b1:w.cell? ⟨Bf,1,none⟩=some (.slice none 0 0)) (b2:w.cell? ⟨Bf,2,none⟩=some .nilFunc) (b4:w.cell? ⟨Bf,4,none⟩=some (.slice none 0 0)) (fB:∀ x,w.frozen? ⟨Bf,x,none⟩=false)
    (hk:∀ w',Keep (tb U o Bf) w w'→MI0 w' U o Bf tt tv Ls→k (.tuple #[]) w') :
    aX prog 97 #[.pointer (some ⟨U,o,none⟩),.func (.func 102) #[] #[],.iface tt tv,.pointer (some ⟨Bf,0,none⟩),v] k w:=by
 obtain ⟨ka,kc,rfl⟩:=hv.form
 refine ai [] func97 ?_
 refine al ?_
 refine EI (fun j hj => ?_) fU ?_ fun w1 h1 k1 => ?_
 ·have hj:j < 70:=hj
  exact cU _ (by omega) (by omega)
 ·simp [Value.oneCell']
 have k1:Keep (fun b x=>b=U∧o≤x∧x < o+70) w w1:=k1
 have u2:w1.cell? ⟨U,o,none⟩=some (.pointer (some ⟨Bf,0,none⟩)):=h1 0 _ rfl
 have a1:=k1.some b1 fun h=>hne h.1
 have a2:=k1.some b2 fun h=>hne h.1
 have a4:=k1.some b4 fun h=>hne h.1
 have hUl:U < w.heap.size:=by obtain ⟨u,hu⟩:=cU o (by omega) (by omega); exact aE hu
 have fU1:∀ x,w1.frozen? ⟨U,x,none⟩=false:=fun x=>by rw [k1.frozen U x hUl]; exact fU x
 have fB1:∀ x,w1.frozen? ⟨Bf,x,none⟩=false:=fun x=>by rw [k1.frozen Bf x (aE b1)]; exact fB x
 refine rA @u2 @a1 @a2 @a4 @fU1 @fB1 ?_
 obtain ⟨w2,hw2⟩:∃ w2,w2=w1.setCell ⟨Bf,2,none⟩ (.func (.func 102) #[] #[]):=⟨_,rfl⟩
 rw [← hw2]
 have k2:Keep (fun b x=>b=U∧o≤x∧x < o+70∨b=Bf∧x=2) w w2:=by rw [hw2]; exact (k1.mono fun b x _ h => .inl h).set fun _ => .inr ⟨rfl,rfl⟩
 have nU:U≠Bf:=fun h=>hne h.symm
 have h2:∀ j u,w1.cell? ⟨U,j,none⟩=some u→w2.cell? ⟨U,j,none⟩=some u:=fun j u hu=>by rw [hw2]; exact (bR (M:=fun b _=>b=Bf) rfl).some hu nU
 have a1:w2.cell? ⟨Bf,1,none⟩=some (.slice none 0 0):=by rw [hw2,gq (by decide)]; exact a1
 have a2:w2.cell? ⟨Bf,2,none⟩=some (.func (.func 102) #[] #[]):=by rw [hw2,cC,a2]; rfl
 have a4:w2.cell? ⟨Bf,4,none⟩=some (.slice none 0 0):=by rw [hw2,gq (by decide)]; exact a4
 have u2:=h2 _ _ u2
 have fU2:∀ x,w2.frozen? ⟨U,x,none⟩=false:=fun x=>by rw [k2.frozen U x hUl]; exact fU x
 have fB2:∀ x,w2.frozen? ⟨Bf,x,none⟩=false:=fun x=>by rw [k2.frozen Bf x (aE b1)]; exact fB x
 refine ay (sq [0,1,2] (.read 3 (sq [4,5] (.read 6 (sq [7,8,9] (.read 10 (sq [11,12,13] (.read 14 (sq [15,16] .done))))))))) ?_
 refine eI @u2 @a1 @a4 ?_
 have hle:(Ls.length:Int)≤10:=by omega
 refine bf @hle ?_
 refine ay (sq [0,1,2] (.read 3 (sq [4,5,6,7,8,9,10,11,12] (.eff 13 [] .done)))) ?_
 have s1:∀ q,dW prog 125 (.pointer (some ⟨U,o+10,none⟩)) none (some (.int .i64 Ls.length)) none q=q (.slice (some ⟨U,o+10,none⟩) Ls.length 10):=fun q=>by
  rw [ry Tryz.ar125 rfl rfl (by simp [bd]) (by simp [bd]; omega) (by simp [bd]) (by simp)]; simp [bd]
 have s2:∀ q,dW prog 129 (.pointer (some ⟨U,o+50,none⟩)) none (some (.int .i64 0)) none q=q (.slice (some ⟨U,o+50,none⟩) 0 10):=fun q=>by
  rw [ry Tryz.ar129 rfl rfl (by simp [bd]) (by simp [bd]) (by simp [bd]) (by simp)]; simp [bd]
 refine fW @u2 @a1 @fB2 @s1 ?_
 obtain ⟨w3,hw3⟩:∃ w3,w3=(w2.setCell ⟨Bf,1,none⟩ (.slice (some ⟨U,o+10,none⟩) Ls.length 10)).drew.drew:=⟨_,rfl⟩
 rw [← hw3]
 have k3:Keep (tb U o Bf) w w3:=by rw [hw3]; exact (k2.mono fun b x _ h=>by unfold tb; omega).set (fun _ => .inr ⟨rfl,.inl rfl⟩) |>.drew.drew
 have h3:∀ j u,w1.cell? ⟨U,j,none⟩=some u→w3.cell? ⟨U,j,none⟩=some u:=fun j u hu=>by rw [hw3]; exact (bR (M:=fun b _=>b=Bf) rfl).drew.drew.some (h2 j u hu) nU
 have b13:w3.cell? ⟨Bf,1,none⟩=some (.slice (some ⟨U,o+10,none⟩) Ls.length 10):=by rw [hw3]; exact bb @a1
 have b2':w3.cell? ⟨Bf,2,none⟩=some (.func (.func 102) #[] #[]):=by rw [hw3]; exact bb @a2
 have a4:w3.cell? ⟨Bf,4,none⟩=some (.slice none 0 0):=by rw [hw3]; exact bb @a4
 have u2:w3.cell? ⟨U,o,none⟩=some (.pointer (some ⟨Bf,0,none⟩)):=h3 o _ (h1 0 _ rfl)
 have fB3:∀ x,w3.frozen? ⟨Bf,x,none⟩=false:=fun x=>by rw [k3.frozen Bf x (aE b1)]; exact fB x
 refine ay (sq [0,1,2] (.read 3 (sq [4,5,6,7,8,9,10,11] (.eff 12 [] .done)))) ?_
 refine fW @u2 @a4 @fB3 @s2 ?_
 obtain ⟨w4,hw4⟩:∃ w4,w4=(w3.setCell ⟨Bf,4,none⟩ (.slice (some ⟨U,o+50,none⟩) 0 10)).drew:=⟨_,rfl⟩
 rw [← hw4]
 have k4:Keep (tb U o Bf) w w4:=by rw [hw4]; exact (k3.set fun _ => .inr ⟨rfl,.inr (.inr rfl)⟩).drew
 have h4:∀ j u,w1.cell? ⟨U,j,none⟩=some u→w4.cell? ⟨U,j,none⟩=some u:=fun j u hu=>by rw [hw4]; exact (bR (M:=fun b _=>b=Bf) rfl).drew.some (h3 j u hu) nU
 have b1':w4.cell? ⟨Bf,1,none⟩=some (.slice (some ⟨U,o+10,none⟩) Ls.length 10):=by rw [hw4]; exact bb @b13
 have b2':w4.cell? ⟨Bf,2,none⟩=some (.func (.func 102) #[] #[]):=by rw [hw4]; exact bb @b2'
 have b4':w4.cell? ⟨Bf,4,none⟩=some (.slice (some ⟨U,o+50,none⟩) 0 10):=by rw [hw4]; exact bb @a4
 have u2:w4.cell? ⟨U,o,none⟩=some (.pointer (some ⟨Bf,0,none⟩)):=h4 o _ (h1 0 _ rfl)
 refine bf @b13 ?_
 refine bO (fun i:Nat=>[(0,.pointer (some ⟨U,o,none⟩)),(4,.slice ka Ls.length kc),(119,.int .i64 Ls.length),(120,.int .i64 i)])
  (fun i w'=>i≤Ls.length∧Keep (tb U o Bf) w w'∧(∀ j u,j < o+10∨o+50≤j→w1.cell? ⟨U,j,none⟩=some u→w'.cell? ⟨U,j,none⟩=some u)∧(∀ j,o+10≤j→j < o+50→∃ u,w'.cell? ⟨U,j,none⟩=some u) ∧
   (w'.cell? ⟨Bf,1,none⟩=some (.slice (some ⟨U,o+10,none⟩) Ls.length 10)∧w'.cell? ⟨Bf,2,none⟩=some (.func (.func 102) #[] #[])∧w'.cell? ⟨Bf,4,none⟩=some (.slice (some ⟨U,o+50,none⟩) 0 10)) ∧
   ∀ j x,j < i→Ls[j]? = some x→w'.cell? ⟨U,o+10+j * 4,none⟩=some (.iface 233 (.pointer (some ⟨x.I,0,none⟩)))∧w'.cell? ⟨U,o+10+j * 4+1,none⟩=some (.int .i8 0)∧w'.cell? ⟨U,o+10+j * 4+2,none⟩=some (.slice none 0 0)∧w'.cell? ⟨U,o+10+j * 4+3,none⟩=some (.pointer none))
  (fun i _=>Ls.length - i) 0 (by kernel_rfl) ?_ ⟨aQ _,k4,fun j u _ h=>h4 j u h,fun j h5 h6 => ?_,⟨b1',b2',b4'⟩,fun j x h=>by omega⟩ ?_
 ·exact bE
 ·obtain ⟨u,hu⟩:∃ u,w1.cell? ⟨U,j,none⟩=some u:=by
    obtain ⟨m,rfl⟩:∃ m,j=o+m:=⟨j - o,by omega⟩
    exact ⟨_,h1 m _ (aC (show m < 70 by omega))⟩
  exact ⟨u,h4 j u hu⟩
 rintro K2 e i w5 ⟨i1,i2,i3,i4,⟨i5,i6,i7⟩,i8⟩ hK2
 have u2:w5.cell? ⟨U,o,none⟩=some (.pointer (some ⟨Bf,0,none⟩)):=i3 o _ (by omega) (h1 0 _ rfl)
 rcases aH i Ls.length with hi | hi
 rotate_left
 ·have hi':¬ (i:Int) < Ls.length:=by omega
  refine bf @hi' ?_
  obtain rfl:i=Ls.length:=by omega
  refine hk w5 i2 ⟨u2,i3 (o+1) _ (by omega) (h1 1 _ rfl),i3 (o+2) _ (by omega) (h1 2 _ rfl),i3 (o+3) _ (by omega) (h1 3 _ rfl),i3 (o+4) _ (by omega) (h1 4 _ rfl),i3 (o+5) _ (by omega) (h1 5 _ rfl),i3 (o+6) _ (by omega) (h1 6 _ rfl),i3 (o+7) _ (by omega) (h1 7 _ rfl),i3 (o+8) _ (by omega) (h1 8 _ rfl),i3 (o+9) _ (by omega) (h1 9 _ rfl),fun j x hx=>i8 j x (aP.1 hx).1 hx,fun x h5 h6 => ?_,i5,i6,i7⟩
  obtain ⟨m,rfl⟩:∃ m,x=o+m:=⟨x - o,by omega⟩
  exact ⟨_,i3 _ _ (by omega) (h1 m _ (aC (show m < 70 by omega)))⟩
 have hi':(i:Int) < Ls.length:=by omega
 obtain ⟨g,f,c,hv',hc,hat⟩:=(hv.inc CA.mono (hd.keep i2 fun b x h=>by rcases h with ⟨rfl,_⟩ | ⟨rfl,_⟩; exact oU x; exact oB x)).at (by omega)
 obtain ⟨rfl,rfl⟩:=sEq hv'
 obtain ⟨x,hx⟩:=gEl hi
 obtain ⟨cs,_,hcs,rfl⟩:=hat i x hx
 have h0:w5.cell? ⟨g,f+i * 1,none⟩=some (.iface 233 (.pointer (some ⟨x.I,0,none⟩))):=hcs 0 _ rfl
 obtain ⟨v0,q0⟩:=i4 (o+10+i * 4) (by omega) (by omega)
 obtain ⟨v1,q1⟩:=i4 (o+10+i * 4+1) (by omega) (by omega)
 obtain ⟨v2,q2⟩:=i4 (o+10+i * 4+2) (by omega) (by omega)
 obtain ⟨v3,q3⟩:=i4 (o+10+i * 4+3) (by omega) (by omega)
 have fU5:∀ x,w5.frozen? ⟨U,x,none⟩=false:=fun x=>by rw [i2.frozen U x hUl]; exact fU x
 refine bf @hi' ?_
 refine ay (sq [0,1,2] (.read 3 (sq [4,5] (.read 6 (sq [7,8,9,10] (.read 11 (sq [12,13] (.eff 14 [] .done)))))))) ?_
 refine xS @u2 @i5 @h0 @q0 @q1 @q2 @q3 @fU5 ?_
 obtain ⟨w6,hw6⟩:∃ w6,w6=(((((w5.setCell ⟨U,o+10+i * 4,none⟩ (.iface 233 (.pointer (some ⟨x.I,0,none⟩)))).setCell ⟨U,o+10+i * 4+1,none⟩ (.int .i8 0)).setCell ⟨U,o+10+i * 4+2,none⟩ (.slice none 0 0)).setCell ⟨U,o+10+i * 4+3,none⟩ (.pointer none))).drew:=⟨_,rfl⟩
 rw [← hw6]
 have k6:Keep (fun b x=>b=U∧o+10+i * 4≤x∧x < o+10+i * 4+4) w5 w6:=by
  rw [hw6]
  exact (((((Keep.refl _ w5).set fun _=>⟨rfl,by omega,by omega⟩).set fun _=>⟨rfl,by omega,by omega⟩).set fun _=>⟨rfl,by omega,by omega⟩).set fun _=>⟨rfl,by omega,by omega⟩).drew
 have z0:w6.cell? ⟨U,o+10+i * 4,none⟩=some (.iface 233 (.pointer (some ⟨x.I,0,none⟩))):=by rw [hw6]; exact bb @q0
 have z1:w6.cell? ⟨U,o+10+i * 4+1,none⟩=some (.int .i8 0):=by rw [hw6]; exact bb @q1
 have z2:w6.cell? ⟨U,o+10+i * 4+2,none⟩=some (.slice none 0 0):=by rw [hw6]; exact bb @q2
 have z3:w6.cell? ⟨U,o+10+i * 4+3,none⟩=some (.pointer none):=by rw [hw6]; exact bb @q3
 refine hK2 _ _ (i+1) ?_ ⟨hi,i2.tr k6 fun b y _ h => .inl ⟨h.1,by omega,by omega⟩,fun j u hj hu=>k6.some (i3 j u hj hu) (by omega),fun j h5 h6 => ?_,⟨k6.some i5 fun h=>hne h.1,k6.some i6 fun h=>hne h.1,k6.some i7 fun h=>hne h.1⟩,fun j y hj hy => ?_⟩ (by omega)
 ·exact bE
 ·by_cases h:o+10+i * 4≤j∧j < o+10+i * 4+4
  ·obtain ⟨m,rfl⟩:∃ m,j=o+10+i * 4+m:=⟨j - (o+10+i * 4),by omega⟩
   match m,(by omega:m < 4) with
   | 0,_=>exact ⟨_,z0⟩
   | 1,_=>exact ⟨_,z1⟩
   | 2,_=>exact ⟨_,z2⟩
   | 3,_=>exact ⟨_,z3⟩
  ·obtain ⟨u,hu⟩:=i4 j h5 h6
   exact ⟨u,k6.some hu fun hh=>h hh.2⟩
 ·rcases aH j i with h | h
  ·obtain ⟨y0,y1,y2,y3⟩:=i8 j y h hy
   exact ⟨k6.some y0 (by omega),k6.some y1 (by omega),k6.some y2 (by omega),k6.some y3 (by omega)⟩
  ·obtain rfl:j=i:=by omega
   rw [hx] at hy
   cases hy
   exact ⟨z0,z1,z2,z3⟩
end
end Go.Proofs
end
section
namespace Go.E
open Go Go.Sort Go.Proofs Go.Proofs.Tryz
structure DI0 (w:World) (U a Bf e C:Nat) (rt:TypeId) (rv:Value) (mt:TypeId) (mv:Value):Prop where
 d0:w.cell? ⟨U,a,none⟩=some (.pointer (some ⟨Bf,e,none⟩))
 d1:w.cell? ⟨U,a+1,none⟩=some (.pointer (some ⟨C,0,none⟩))
 d2:w.cell? ⟨U,a+2,none⟩=some (.func (.func 103) #[] #[])
 d3:w.cell? ⟨U,a+3,none⟩=some (.iface rt rv)
 d4:w.cell? ⟨U,a+4,none⟩=some (.pointer none)
 d5:w.cell? ⟨U,a+5,none⟩=some (.int .i8 0)
 d6:w.cell? ⟨U,a+6,none⟩=some (.slice none 0 0)
 d7:w.cell? ⟨U,a+7,none⟩=some (.slice none 0 0)
 d8:w.cell? ⟨U,a+8,none⟩=some (.slice none 0 0)
 d9:w.cell? ⟨U,a+9,none⟩=some (.int .i8 0)
 d10:w.cell? ⟨U,a+10,none⟩=some (.iface mt mv)
 d11:w.cell? ⟨U,a+11,none⟩=some (.func (.func 101) #[] #[])
theorem DI0.keep {w w2:World} {U a Bf e C:Nat} {rt:TypeId} {rv:Value} {mt:TypeId} {mv:Value} {M:Nat→Nat→Prop} (m:DI0 w U a Bf e C rt rv mt mv) (hk:Keep M w w2) (h1:∀ x,a≤x→x < a+12→¬ M U x):DI0 w2 U a Bf e C rt rv mt mv :=
 ⟨hk.some m.d0 (h1 _ (by omega) (by omega)),hk.some m.d1 (h1 _ (by omega) (by omega)),hk.some m.d2 (h1 _ (by omega) (by omega)),hk.some m.d3 (h1 _ (by omega) (by omega)),hk.some m.d4 (h1 _ (by omega) (by omega)),hk.some m.d5 (h1 _ (by omega) (by omega)),hk.some m.d6 (h1 _ (by omega) (by omega)),hk.some m.d7 (h1 _ (by omega) (by omega)),hk.some m.d8 (h1 _ (by omega) (by omega)),hk.some m.d9 (h1 _ (by omega) (by omega)),hk.some m.d10 (h1 _ (by omega) (by omega)),hk.some m.d11 (h1 _ (by omega) (by omega))⟩
structure UI0 (w:World) (U Bf C snap:Nat) (it:Bool) (mt:TypeId) (mv lov hiv:Value):Prop where
 u0:w.cell? ⟨U,0,none⟩=some (.int .u64 snap)
 u1:w.cell? ⟨U,1,none⟩=some (.pointer (some ⟨C,0,none⟩))
 b0:w.cell? ⟨U,72,none⟩=some (.iface 224 (.pointer (some ⟨U,2,none⟩)))
 b1:w.cell? ⟨U,73,none⟩=some (.pointer none)
 b2:w.cell? ⟨U,74,none⟩=some (.func (.func 102) #[] #[])
 b4:w.cell? ⟨U,76,none⟩=some lov
 b5:w.cell? ⟨U,77,none⟩=some hiv
 b6:w.cell? ⟨U,78,none⟩=some (.pointer none)
 b8:w.cell? ⟨U,80,none⟩=some (.int .i8 0)
 d:DI0 w U 81 Bf 6 C 226 (.pointer (some ⟨U,72,none⟩)) mt mv
 u93:w.cell? ⟨U,93,none⟩=some (.bool it)
 u94:w.cell? ⟨U,94,none⟩=some (.pointer (some ⟨Bf,0,none⟩))
theorem MI0.keep {w w2:World} {U o Bf:Nat} {tt:TypeId} {tv:Value} {Ls:List Lvl} {M:Nat→Nat→Prop} (m:MI0 w U o Bf tt tv Ls) (hn:Ls.length≤10) (hk:Keep M w w2) (h1:∀ x,o≤x→x < o+70→¬ M U x) (h2:∀ x,x < 5→¬ M Bf x):MI0 w2 U o Bf tt tv Ls where
 u2:=hk.some m.u2 (h1 _ (by omega) (by omega))
 u3:=hk.some m.u3 (h1 _ (by omega) (by omega))
 u4:=hk.some m.u4 (h1 _ (by omega) (by omega))
 u5:=hk.some m.u5 (h1 _ (by omega) (by omega))
 u6:=hk.some m.u6 (h1 _ (by omega) (by omega))
 u7:=hk.some m.u7 (h1 _ (by omega) (by omega))
 u8:=hk.some m.u8 (h1 _ (by omega) (by omega))
 u9:=hk.some m.u9 (h1 _ (by omega) (by omega))
 u10:=hk.some m.u10 (h1 _ (by omega) (by omega))
 u11:=hk.some m.u11 (h1 _ (by omega) (by omega))
 lv i x hx:=by
  have:=(aP.1 hx).1
  obtain ⟨a,b,c,e⟩:=m.lv i x hx
  exact ⟨hk.some a (h1 _ (by omega) (by omega)),hk.some b (h1 _ (by omega) (by omega)),hk.some c (h1 _ (by omega) (by omega)),hk.some e (h1 _ (by omega) (by omega))⟩
 it x a b:=by obtain ⟨v,h⟩:=m.it x a b; exact ⟨v,hk.some h (h1 _ (by omega) b)⟩
 b1:=hk.some m.b1 (h2 _ (by omega))
 b2:=hk.some m.b2 (h2 _ (by omega))
 b4:=hk.some m.b4 (h2 _ (by omega))
end Go.E
namespace Go.Proofs
open Go Go.E Go.Sort Go.Proofs.Tryz
section
variable {k:aq} {d w:World} {U Bf C snap:Nat}
theorem KN {w:World} {j:Nat} {v:Value} (cU:∀ x,x < 95→∃ u,w.cell? ⟨U,x,none⟩=some u):∀ x,x < 95→∃ u,(w.setCell ⟨U,j,none⟩ v).cell? ⟨U,x,none⟩=some u:=fun x hx=>by
 obtain ⟨u,hu⟩:=cU x hx
 by_cases h:x=j
 ·subst h; exact ⟨v,by rw [cC,hu]; rfl⟩
 ·exact ⟨u,by rw [gq (by omega)]; exact hu⟩
theorem qH {a Bf e:Nat} {rt mt:TypeId} {rv mv:Value} (cU:∀ x,a≤x→x < a+12→∃ u,w.cell? ⟨U,x,none⟩=some u) (fU:∀ x,w.frozen? ⟨U,x,none⟩=false) (c1:w.cell? ⟨C,1,none⟩=some (.func (.func 103) #[] #[])) (hv:rv.oneCell'=true) (hm:mv.oneCell'=true)
    (hk:∀ w',Keep (fun b x=>b=U∧a≤x∧x < a+12) w w'→DI0 w' U a Bf e C rt rv mt mv→k (.tuple #[]) w') :
    aX prog 99 #[.pointer (some ⟨U,a,none⟩),.pointer (some ⟨C,0,none⟩),.iface rt rv,.iface mt mv,.func (.func 101) #[] #[],.pointer (some ⟨Bf,e,none⟩)] k w:=by
 refine ai [] func99 ?_
 refine bf @c1 ?_
 refine EI (fun j hj => ?_) fU ?_ fun w4 h4 k4 => ?_
 ·have hj:j < 12:=hj
  exact cU _ (by omega) (by omega)
 ·simp [Value.oneCell',hv,hm]
 refine al ?_
 exact hk w4 k4 ⟨h4 0 _ rfl,h4 1 _ rfl,h4 2 _ rfl,h4 3 _ rfl,h4 4 _ rfl,h4 5 _ rfl,h4 6 _ rfl,h4 7 _ rfl,h4 8 _ rfl,h4 9 _ rfl,h4 10 _ rfl,h4 11 _ rfl⟩
def JA (it:Bool):TypeId:=match it with | true=>228 | false=>221
def JB (it:Bool) (U:Nat):Value:=match it with | true => .func (.func 100) #[] #[] | false => .pointer (some ⟨U,0,none⟩)
theorem EJ {it:Bool} {v lov hiv:Value} {lo hi:Option Bytes} {Ls:List Lvl} (hv:Sl CA 1 d v Ls) (hd:bz d w) (oU:cq d U) (oB:cq d Bf) (hn:Ls.length≤10) (hne:Bf≠U) (cU:∀ x,x < 95→∃ u,w.cell? ⟨U,x,none⟩=some u) (fU:∀ x,w.frozen? ⟨U,x,none⟩=false)
    (b1:w.cell? ⟨Bf,1,none⟩=some (.slice none 0 0)) (b2:w.cell? ⟨Bf,2,none⟩=some .nilFunc) (b4:w.cell? ⟨Bf,4,none⟩=some (.slice none 0 0)) (fB:∀ x,w.frozen? ⟨Bf,x,none⟩=false) (hlo:OB d lov lo) (hhi:OB d hiv hi)
    (c0:d.cell? ⟨C,0,none⟩=some (.func (.func 102) #[] #[])) (c1:d.cell? ⟨C,1,none⟩=some (.func (.func 103) #[] #[])) (c5:d.cell? ⟨C,5,none⟩=some .nilFunc)
    (hk:∀ w',Keep (fun b x=>b=U∨b=Bf∧(x=1∨x=2∨x=4)) w w'→MI0 w' U 2 Bf 221 (.pointer (some ⟨U,0,none⟩)) Ls→UI0 w' U Bf C snap it (JA it) (JB it U) lov hiv→k (.iface 229 (.pointer (some ⟨U,81,none⟩))) w') :
    aX prog 65 #[.pointer (some ⟨U,0,none⟩),.pointer (some ⟨C,0,none⟩),.int .u64 snap,lov,hiv,.pointer none,.pointer none,.bool it,.pointer (some ⟨Bf,0,none⟩),v] k w:=by
 obtain ⟨ka,kc,rfl⟩:=hv.form
 obtain ⟨la,ln,lc,rfl⟩:∃ a n c,lov = .slice a n c:=by
  rcases hlo with ⟨_,rfl⟩ | ⟨_,a,n,c,_,rfl,_⟩
  ·exact ⟨_,_,_,rfl⟩
  ·exact ⟨_,_,_,rfl⟩
 obtain ⟨ha,hn',hc,rfl⟩:∃ a n c,hiv = .slice a n c:=by
  rcases hhi with ⟨_,rfl⟩ | ⟨_,a,n,c,_,rfl,_⟩
  ·exact ⟨_,_,_,rfl⟩
  ·exact ⟨_,_,_,rfl⟩
 have hUl:U < w.heap.size:=by obtain ⟨u,hu⟩:=cU 0 (by omega); exact aE hu
 obtain ⟨v0,q0⟩:=cU 0 (by omega)
 obtain ⟨v1,q1⟩:=cU 1 (by omega)
 obtain ⟨v93,q93⟩:=cU 93 (by omega)
 refine ai [.tmp 20] func65 ?_
 refine fW @q0 @q1 @q93 @fU ?_
 obtain ⟨w1,hw1⟩:∃ w1,w1=(((w.setCell ⟨U,0,none⟩ (.int .u64 snap)).setCell ⟨U,1,none⟩ (.pointer (some ⟨C,0,none⟩))).setCell ⟨U,93,none⟩ (.bool it)):=⟨_,rfl⟩
 rw [← hw1]
 have k1:Keep (fun b x=>b=U∧(x=0∨x=1∨x=93)) w w1:=by rw [hw1]; exact (((Keep.refl _ w).set fun _=>⟨rfl,.inl rfl⟩).set fun _=>⟨rfl,.inr (.inl rfl)⟩).set fun _=>⟨rfl,.inr (.inr rfl)⟩
 have cU1:∀ x,x < 95→∃ u,w1.cell? ⟨U,x,none⟩=some u:=by rw [hw1]; exact KN (KN (KN cU))
 have e0:w1.cell? ⟨U,0,none⟩=some (.int .u64 snap):=by rw [hw1]; exact bb @q0
 have e1:w1.cell? ⟨U,1,none⟩=some (.pointer (some ⟨C,0,none⟩)):=by rw [hw1]; exact bb @q1
 have e93:w1.cell? ⟨U,93,none⟩=some (.bool it):=by rw [hw1]; exact bb @q93
 have hd1:bz d w1:=hd.keep k1 fun b x h=>by rw [h.1]; exact oU x
 have fU1:∀ x,w1.frozen? ⟨U,x,none⟩=false:=fun x=>by rw [k1.frozen U x hUl]; exact fU x
 have hBl:=aE b1
 have fB1:∀ x,w1.frozen? ⟨Bf,x,none⟩=false:=fun x=>by rw [k1.frozen Bf x hBl]; exact fB x
 refine ay (sq [0,1,2,3,4,5] (.read 6 (sq [7,8,9,10,11,12] (.eff 13 [] .done)))) ?_
 simp (disch:=first | exact dZ | fail) only [go_sem,hd1 _ _ _ c0]
 refine kK (o:=2) hv hd1.drew oU oB hn hne (fun x h1 h2=>cU1 x (by omega)) fU1 (k1.some b1 fun h=>hne h.1) (k1.some b2 fun h=>hne h.1) (k1.some b4 fun h=>hne h.1) fB1 fun w2 k2 m2 => ?_
 have k2:Keep (tb U 2 Bf) w1 w2:=(Keep.refl _ w1).drew.trans k2
 have nM:∀ x,x < 2∨72≤x→¬ tb U 2 Bf U x:=fun x hx h=>by
  rcases h with h | ⟨h,_⟩
  ·omega
  ·exact hne h.symm
 have hd2:bz d w2:=hd1.keep k2 fun b x h=>by rcases h with ⟨rfl,_⟩ | ⟨rfl,_⟩; exact oU x; exact oB x
 have fU2:∀ x,w2.frozen? ⟨U,x,none⟩=false:=fun x=>by rw [k2.frozen U x (aI hUl k1.size)]; exact fU1 x
 have e0:=k2.some e0 (nM _ (by omega))
 have e1:=k2.some e1 (nM _ (by omega))
 have e93:=k2.some e93 (nM _ (by omega))
 have cU2:∀ x,72≤x→x < 95→∃ u,w2.cell? ⟨U,x,none⟩=some u:=fun x h1 h2=>by obtain ⟨u,hu⟩:=cU1 x h2; exact ⟨u,k2.some hu (nM _ (by omega))⟩
 refine al ?_
 refine ay (sq [0,1,2,3,4,5] (.read 6 (sq [7,8,9] (.read 10 (sq [11,12,13,14,15,16,17,18] (.eff 19 [] .done)))))) ?_
 simp (disch:=first | exact dZ | fail) only [go_sem,hd2 _ _ _ c0,hd2 _ _ _ c5]
 refine ai [] func98 ?_
 refine al ?_
 refine EI (w:=w2.drew) (fun j hj => ?_) fU2 ?_ fun w3 h3 k3 => ?_
 ·have hj:j < 9:=hj
  exact cU2 _ (by omega) (by omega)
 ·simp [Value.oneCell']
 have k3:Keep (fun b x=>b=U∧72≤x∧x < 81) w2 w3:=(Keep.refl _ w2).drew.trans k3
 have fU3:∀ x,w3.frozen? ⟨U,x,none⟩=false:=fun x=>by rw [k3.frozen U x (aI hUl (aU k1.size k2.size))]; exact fU2 x
 have hd3:bz d w3:=hd2.keep k3 fun b x h=>by rw [h.1]; exact oU x
 have m3:=m2.keep hn k3 (fun x _ _ h=>by omega) fun x _ h=>hne h.1
 have e0:=k3.some e0 (by omega)
 have e1:=k3.some e1 (by omega)
 have e93:=k3.some e93 (by omega)
 have cU3:∀ x,81≤x→x < 95→∃ u,w3.cell? ⟨U,x,none⟩=some u:=fun x h1 h2=>by obtain ⟨u,hu⟩:=cU2 x (by omega) h2; exact ⟨u,k3.some hu (by omega)⟩
 refine al ?_
 have c13:=hd3 _ _ _ c1
 have fin:∀ w4,Keep (fun b x=>b=U∧81≤x∧x < 93) w3 w4→DI0 w4 U 81 Bf 6 C 226 (.pointer (some ⟨U,72,none⟩)) (JA it) (JB it U)→k (.iface 229 (.pointer (some ⟨U,81,none⟩))) (w4.setCell ⟨U,94,none⟩ (.pointer (some ⟨Bf,0,none⟩))):=by
  intro w4 k4 h4
  have m4:=m3.keep hn k4 (fun x _ _ h=>by omega) fun x _ h=>hne h.1
  obtain ⟨v94,q94⟩:=cU3 94 (by omega) (by omega)
  have q94:=k4.some q94 (by omega)
  have k5:Keep (fun b x=>b=U∧x=94) w4 (w4.setCell ⟨U,94,none⟩ (.pointer (some ⟨Bf,0,none⟩))):=bR ⟨rfl,rfl⟩
  have e0:=k5.some (k4.some e0 (by omega)) (by omega)
  have e1:=k5.some (k4.some e1 (by omega)) (by omega)
  have e93:=k5.some (k4.some e93 (by omega)) (by omega)
  have B:∀ j u,72+j < 81→w3.cell? ⟨U,72+j,none⟩=some u→(w4.setCell ⟨U,94,none⟩ (.pointer (some ⟨Bf,0,none⟩))).cell? ⟨U,72+j,none⟩=some u:=fun j u hj hu=>k5.some (k4.some hu (by omega)) (by omega)
  refine hk _ ?_ (m4.keep hn k5 (fun x _ _ h=>by omega) fun x _ h=>hne h.1) ⟨e0,e1,B 0 _ (by omega) (h3 0 _ rfl),B 1 _ (by omega) (h3 1 _ rfl),B 2 _ (by omega) (h3 2 _ rfl),B 4 _ (by omega) (h3 4 _ rfl),B 5 _ (by omega) (h3 5 _ rfl),B 6 _ (by omega) (h3 6 _ rfl),B 8 _ (by omega) (h3 8 _ rfl),h4.keep k5 fun x h1 h2 h=>by omega,e93,by rw [cC,q94]; rfl⟩
  exact ((((k1.mono fun b x _ h => .inl h.1).tr k2 fun b x _ h=>h.elim (fun h => .inl h.1) .inr).tr k3 fun b x _ h => .inl h.1).tr k4 fun b x _ h => .inl h.1).tr k5 fun b x _ h => .inl h.1
 have fU4:∀ w4,Keep (fun b x=>b=U∧81≤x∧x < 93) w3 w4→∀ x,w4.frozen? ⟨U,x,none⟩=false:=fun w4 k4 x=>by rw [k4.frozen U x (aI hUl (aU k1.size (aU k2.size k3.size)))]; exact fU3 x
 obtain ⟨v94,q94⟩:=cU3 94 (by omega) (by omega)
 cases it with
 | true =>
  refine al ?_
  refine ay (sq [0,1,2,3,4,5,6,7,8,9,10,11] (.eff 12 [] .done)) ?_
  refine al ?_
  refine qH (w:=w3.drew) (a:=81) (fun x h1 h2=>cU3 x h1 (by omega)) fU3 c13 rfl rfl fun w4 k4 h4 => ?_
  have k4:Keep (fun b x=>b=U∧81≤x∧x < 93) w3 w4:=(Keep.refl _ w3).drew.trans k4
  have fU5:=fU4 w4 k4
  have q94':=k4.some q94 (by omega)
  refine dV @fU5 @q94' ?_
  exact fin w4 k4 h4
 | false =>
  refine al ?_
  refine ay (sq [0,1,2,3,4,5,6,7,8,9,10,11,12] (.eff 13 [] .done)) ?_
  refine al ?_
  refine qH (w:=w3.drew) (a:=81) (fun x h1 h2=>cU3 x h1 (by omega)) fU3 c13 rfl rfl fun w4 k4 h4 => ?_
  have k4:Keep (fun b x=>b=U∧81≤x∧x < 93) w3 w4:=(Keep.refl _ w3).drew.trans k4
  have fU5:=fU4 w4 k4
  have q94':=k4.some q94 (by omega)
  refine dV @fU5 @q94' ?_
  exact fin w4 k4 h4
end
end Go.Proofs
end
section
namespace Go.E
open Go Go.Sort Go.Proofs
theorem pJ {α β:Type} {l:List α} {f g:α→List β} (h:∀ a ∈ l,f a=g a):l.flatMap f=l.flatMap g:=by
 induction l with
 | nil=>rfl
 | cons x l ih=>rw [bj,bj,h x aR,ih fun a ha=>h a (aj _ ha)]
theorem EK {α β:Type} {l:List α} {f g:α→Option β} (h:∀ a ∈ l,f a=g a):l.filterMap f=l.filterMap g:=by
 induction l with
 | nil=>rfl
 | cons x l ih=>rw [List.filterMap_cons,List.filterMap_cons,h x aR,ih fun a ha=>h a (aj _ ha)]
section
variable {α:Type}
def fS (lt:α→α→Bool) (x:α) (l:List α):Nat→Nat
 | 0=>0
 | i+1=>match l[i]? with
  | some y=>if lt x y then fS lt x l i else i+1
  | none=>i+1
def lR (lt:α→α→Bool) (x:α) (l:List α):List α:=l.take (fS lt x l l.length)++x :: l.drop (fS lt x l l.length)
def iw (lt:α→α→Bool) (l:List α):List α:=l.foldl (fun a x=>lR lt x a) []
variable {lt:α→α→Bool}
theorem yH (x:α) (l:List α) (i:Nat):fS lt x l i≤i:=by
 induction i with
 | zero=>exact aD _
 | succ i ih =>
  unfold fS
  split
  ·split
   ·omega
   ·exact aD _
  ·exact aD _
theorem sU (x:α) (l:List α) {i:Nat} (hi:i≤l.length):(∀ j y,fS lt x l i≤j→j < i→l[j]? = some y→lt x y=true)∧∀ j y,fS lt x l i=j+1→l[j]? = some y→lt x y=false:=by
 induction i with
 | zero=>exact ⟨fun j y _ h=>by omega,fun j y h=>by simp [fS] at h⟩
 | succ i ih =>
  have ih:=ih (by omega)
  have hy:l[i]? = some l[i]:=aC (by omega)
  unfold fS
  rw [hy]
  simp only
  split
  ·rename_i hlt
   refine ⟨fun j y h1 h2 h3 => ?_,ih.2⟩
   rcases aH j i with h4 | h4
   ·exact ih.1 j y h1 h4 h3
   ·obtain rfl:j=i:=by omega
    rw [hy] at h3
    cases h3
    exact hlt
  ·rename_i hlt
   refine ⟨fun j y h1 h2 h3=>by omega,fun j y h1 h2 => ?_⟩
   obtain rfl:i=j:=by omega
   rw [hy] at h2
   cases h2
   simpa using hlt
theorem qI (x:α) (l:List α):(lR lt x l).Perm (x :: l):=by
 unfold lR
 refine List.perm_middle.trans ?_
 rw [dU]
theorem yI (x:α) (l:List α):(lR lt x l).length=l.length+1:=by
 simpa using (qI (lt:=lt) x l).length_eq
theorem sV (l a:List α):(l.foldl (fun a x=>lR lt x a) a).Perm (l++a):=by
 induction l generalizing a with
 | nil=>exact List.Perm.refl _
 | cons x l ih =>
  rw [List.foldl_cons]
  refine (ih _).trans ?_
  refine ((qI x a).append_left l).trans ?_
  exact List.perm_middle
theorem lA (l:List α):(iw lt l).Perm l:=by
 have:=sV (lt:=lt) l []
 rwa [au] at this
theorem lB (l:List α):(iw lt l).length=l.length:=(lA l).length_eq
structure TotB (lt:α→α→Bool):Prop where
 asym:∀ a b,lt a b=true→lt b a=false
 trans:∀ a b c,lt b a=false→lt c b=false→lt c a=false
theorem yJ (h:TotB lt) (x:α) {l:List α} (hl:l.Pairwise fun a b=>lt b a=false):(lR lt x l).Pairwise fun a b=>lt b a=false:=by
 have hs:=sU (lt:=lt) x l (aD _)
 have hle:=yH (lt:=lt) x l l.length
 unfold lR
 obtain ⟨j,hj⟩:∃ j,j=fS lt x l l.length:=⟨_,rfl⟩
 rw [← hj] at hs hle ⊢
 have hge:∀ y ∈ l.drop j,lt y x=false:=fun y hy=>by
  obtain ⟨i,hi,e⟩:=aV hy
  rw [List.getElem_drop] at e
  rw [List.length_drop] at hi
  exact h.asym _ _ (hs.1 (j+i) y (by omega) (by omega) (by rw [aC (by omega),e]))
 have hlt:∀ y ∈ l.take j,lt x y=false:=fun y hy=>by
  obtain ⟨i,hi,e⟩:=aV hy
  rw [List.getElem_take] at e
  rw [ar] at hi
  obtain ⟨m,rfl⟩:∃ m,j=m+1:=⟨j - 1,by omega⟩
  have h0:=hs.2 m l[m] rfl (aC (by omega))
  rcases aH i m with h1 | h1
  ·have:=bA.1 hl i m (by omega) (by omega) h1
   rw [e] at this
   exact h.trans _ _ _ this h0
  ·obtain rfl:i=m:=by omega
   rw [← e]; exact h0
 refine List.pairwise_append.2 ⟨hl.sublist (List.take_sublist _ _),List.pairwise_cons.2 ⟨hge,hl.sublist (List.drop_sublist _ _)⟩,fun a ha b hb => ?_⟩
 rcases ak.1 hb with rfl | hb
 ·exact hlt a ha
 ·have:=List.pairwise_append.1 (by rw [dU]; exact hl:(l.take j++l.drop j).Pairwise fun a b=>lt b a=false)
  exact this.2.2 a ha b hb
theorem jJ (h:TotB lt) (l:List α):(iw lt l).Pairwise fun a b=>lt b a=false:=by
 have aux:∀ (l a:List α),a.Pairwise (fun a b=>lt b a=false)→(l.foldl (fun a x=>lR lt x a) a).Pairwise fun a b=>lt b a=false:=by
  intro l
  induction l with
  | nil=>exact fun a ha=>ha
  | cons x l ih=>exact fun a ha=>ih _ (yJ h x ha)
 exact aux l [] .nil
end
def gO (a b:K):Bool:=if a.tr≠b.tr then decide (b.tr < a.tr) else if a.suf≠b.suf then decide (a.suf < b.suf) else decide (a.val < b.val)
theorem gj {a b:K}:gO b a=false↔b.tr < a.tr∨b.tr=a.tr∧(a.suf < b.suf∨a.suf=b.suf∧¬ b.val < a.val):=by
 unfold gO
 by_cases h:b.tr=a.tr
 ·rw [if_neg (by simpa using h)]
  by_cases h2:b.suf=a.suf
  ·rw [if_neg (by simpa using h2)]
   simp only [decide_eq_false_iff_not]
   constructor
   ·intro h3; exact .inr ⟨h,.inr ⟨h2.symm,h3⟩⟩
   ·rintro (h3 | ⟨_,h3 | ⟨_,h3⟩⟩)
    ·omega
    ·rw [h2] at h3; exact absurd h3 (bU _)
    ·exact h3
  ·rw [if_pos h2]
   simp only [decide_eq_false_iff_not]
   constructor
   ·intro h3
    rcases gw a.suf b.suf with h4 | h4 | h4
    ·exact .inr ⟨h,.inl h4⟩
    ·exact absurd h4.symm h2
    ·exact absurd h4 h3
   ·rintro (h3 | ⟨_,h3 | ⟨h3,_⟩⟩)
    ·omega
    ·exact gT h3
    ·exact absurd h3.symm h2
 ·rw [if_pos h]
  simp only [decide_eq_false_iff_not]
  omega
theorem qJ:TotB gO where
 asym a b h:=by
  rw [gj]
  have:¬ gO a b=false:=by rw [h]; simp
  rw [gj] at this
  rcases cz b.tr a.tr with h1 | h1 | h1
  ·exact .inl h1
  ·refine .inr ⟨h1,?_⟩
   rcases gw a.suf b.suf with h2 | h2 | h2
   ·exact .inl h2
   ·refine .inr ⟨h2,fun h3=>this (.inr ⟨h1.symm,.inr ⟨h2.symm,gT h3⟩⟩)⟩
   ·exact absurd (.inr ⟨h1.symm,.inl h2⟩) this
  ·exact absurd (.inl h1) this
 trans a b c h1 h2:=by
  rw [gj] at h1 h2 ⊢
  rcases h1 with h1 | ⟨h1,h1'⟩
  ·rcases h2 with h2 | ⟨h2,_⟩
   ·exact .inl (by omega)
   ·exact .inl (by omega)
  ·rcases h2 with h2 | ⟨h2,h2'⟩
   ·exact .inl (by omega)
   ·refine .inr ⟨by omega,?_⟩
    rcases h1' with h3 | ⟨h3,h4⟩
    ·rcases h2' with h5 | ⟨h5,_⟩
     ·exact .inl (List.lt_trans h3 h5)
     ·rw [← h5]; exact .inl h3
    ·rcases h2' with h5 | ⟨h5,h6⟩
     ·rw [h3]; exact .inl h5
     ·exact .inr ⟨h3.trans h5,fun h7=>h4 (ct h6 h7)⟩
def cH (ks:List K):List K:=iw gO ks
theorem cT (ks:List K):(cH ks).Perm ks:=lA ks
theorem yK (ks:List K):(cH ks).Pairwise fun a b=>b.tr≤a.tr:=by
 refine (jJ qJ ks).imp fun {a b} h => ?_
 rcases gj.1 h with h | ⟨h,_⟩ <;> omega
def E3 (x y:Bytes):Bool:=decide (¬ y < x)
def jY (b:List Bytes) (x:Bytes):List Bytes:=if b[fS E3 x b b.length]? = some x then b else lR E3 x b
def bH (l:List Sp):List Bytes:=l.foldl (fun b s=>jY (jY b s.s) s.e) []
theorem uk {b:List Bytes} (hb:b.Pairwise (· < ·)) (x:Bytes):(jY b x).Pairwise (· < ·)∧∀ y,y ∈ jY b x↔y=x∨y ∈ b:=by
 have hs:=sU (lt:=E3) x b (aD _)
 have hle:=yH (lt:=E3) x b b.length
 unfold jY
 split
 ·rename_i he
  exact ⟨hb,fun y=>⟨.inr,fun h=>h.elim (fun h=>h ▸ aJ he) id⟩⟩
 ·rename_i he
  refine ⟨?_,fun y=>by rw [(qI x b).mem_iff,ak]⟩
  unfold lR
  obtain ⟨j,hj⟩:∃ j,j=fS E3 x b b.length:=⟨_,rfl⟩
  rw [← hj] at hs hle he ⊢
  have hp:=bA.1 hb
  have hge:∀ y ∈ b.drop j,x < y:=fun y hy=>by
   obtain ⟨i,hi,e⟩:=aV hy
   rw [List.getElem_drop] at e
   rw [List.length_drop] at hi
   have h1:=hs.1 (j+i) y (by omega) (by omega) (by rw [aC (by omega),e])
   have h1:¬ y < x:=of_decide_eq_true h1
   rcases gw x y with h2 | h2 | h2
   ·exact h2
   ·exfalso
    have hj0:j < b.length:=by omega
    have h3:=hs.1 j b[j] (aD _) hj0 (aC hj0)
    have h3:¬ b[j] < x:=of_decide_eq_true h3
    rcases bB i with rfl | hi0
    ·exact he (by rw [aC hj0,h2,← e]; simp)
    ·have:=hp j (j+i) hj0 (by omega) (by omega)
     rw [e,← h2] at this
     exact h3 this
   ·exact absurd h2 h1
  have hlt:∀ y ∈ b.take j,y < x:=fun y hy=>by
   obtain ⟨i,hi,e⟩:=aV hy
   rw [List.getElem_take] at e
   rw [ar] at hi
   obtain ⟨m,rfl⟩:∃ m,j=m+1:=⟨j - 1,by omega⟩
   have h0:=hs.2 m b[m] rfl (aC (by omega))
   have h0:b[m] < x:=by
    have:=of_decide_eq_false h0
    exact Classical.byContradiction fun h=>this h
   rcases aH i m with h1 | h1
   ·have:=hp i m (by omega) (by omega) h1
    rw [e] at this
    exact List.lt_trans this h0
   ·obtain rfl:i=m:=by omega
    rw [← e]; exact h0
  refine List.pairwise_append.2 ⟨hb.sublist (List.take_sublist _ _),List.pairwise_cons.2 ⟨hge,hb.sublist (List.drop_sublist _ _)⟩,fun a ha c hc => ?_⟩
  rcases ak.1 hc with rfl | hc
  ·exact hlt a ha
  ·exact List.lt_trans (hlt a ha) (hge c hc)
theorem iR (l:List Sp):(bH l).Pairwise (· < ·)∧∀ y,y ∈ bH l↔∃ s ∈ l,y=s.s∨y=s.e:=by
 have aux:∀ (l:List Sp) (b:List Bytes),b.Pairwise (· < ·)→(l.foldl (fun b s=>jY (jY b s.s) s.e) b).Pairwise (· < ·)∧∀ y,y ∈ l.foldl (fun b s=>jY (jY b s.s) s.e) b↔y ∈ b∨∃ s ∈ l,y=s.s∨y=s.e:=by
  intro l
  induction l with
  | nil=>exact fun b hb=>⟨hb,fun y=>by simp⟩
  | cons s l ih =>
   intro b hb
   have h1:=uk hb s.s
   have h2:=uk h1.1 s.e
   obtain ⟨a,c⟩:=ih _ h2.1
   refine ⟨a,fun y => ?_⟩
   rw [List.foldl_cons,c,h2.2,h1.2]
   constructor
   ·rintro ((h | h | h) | ⟨t,ht,h⟩)
    ·exact .inr ⟨s,aR,.inr h⟩
    ·exact .inr ⟨s,aR,.inl h⟩
    ·exact .inl h
    ·exact .inr ⟨t,aj _ ht,h⟩
   ·rintro (h | ⟨t,ht,h⟩)
    ·exact .inl (.inr (.inr h))
    ·rcases ak.1 ht with rfl | ht
     ·rcases h with h | h
      ·exact .inl (.inr (.inl h))
      ·exact .inl (.inl h)
     ·exact .inr ⟨t,ht,h⟩
 obtain ⟨a,c⟩:=aux l [] .nil
 exact ⟨a,fun y=>by show y ∈ l.foldl _ []↔_; rw [c]; simp⟩
theorem Aj {L:List Sp} {x:Bytes}:(∃ p,p < 2 * L.length∧eg L p=x)↔∃ s ∈ L,x=s.s∨x=s.e:=by
 constructor
 ·rintro ⟨p,hp,rfl⟩
  refine ⟨L[p / 2]!,by rw [aG L (p / 2) (by omega)]; exact aS _,?_⟩
  unfold eg
  split
  ·exact .inl rfl
  ·exact .inr rfl
 ·rintro ⟨s,hs,h⟩
  obtain ⟨j,hj,rfl⟩:=aV hs
  rcases h with rfl | rfl
  ·exact ⟨2 * j,by omega,by unfold eg; rw [if_pos (by omega),show 2 * j / 2=j by omega,aG L j hj]⟩
  ·exact ⟨2 * j+1,by omega,by unfold eg; rw [if_neg (by omega),show (2 * j+1) / 2=j by omega,aG L j hj]⟩
def de (Lv:List (List Sp)):Nat→List Sp:=fun i=>Lv[i]!
theorem iS {Lv:List (List Sp)} (h:∀ L ∈ Lv,Wf L):Bds Lv.length (de Lv) (bH Lv.flatten) where
 wf i hi:=by unfold de; rw [aG Lv i hi]; exact h _ (aS hi)
 sorted:=(iR _).1
 mem x:=by
  rw [(iR _).2]
  constructor
  ·rintro ⟨s,hs,h1⟩
   obtain ⟨L,hL,hs⟩:=cQ.1 hs
   obtain ⟨i,hi,rfl⟩:=aV hL
   exact ⟨i,hi,Aj.2 ⟨s,by unfold de; rw [aG Lv i hi]; exact hs,h1⟩⟩
  ·rintro ⟨i,hi,h1⟩
   obtain ⟨s,hs,h1⟩:=Aj.1 h1
   unfold de at hs
   rw [aG Lv i hi] at hs
   exact ⟨s,cQ.2 ⟨_,aS hi,hs⟩,h1⟩
def cm (l:List Sp) (s e:Bytes):List K:=l.flatMap fun x=>if ¬ s < x.s∧¬ x.e < e then x.ks else []
def gC (l:List Sp) (b:List Bytes) (i:Nat):List Sp:=if cm l b[i]! b[i+1]! = [] then [] else [⟨b[i]!,b[i+1]!,cH (cm l b[i]! b[i+1]!)⟩]
def dq (l:List Sp):List Sp:=(List.range ((bH l).length - 1)).flatMap (gC l (bH l))
section
variable {n:Nat} {L:Nat→List Sp} {B:List Bytes}
theorem CB (h:Bds n L B) {i u:Nat} (hi:i < n) (hu:u+1 < B.length) {j:Nat} (hj:j < (L i).length):(¬ B[u]! < (L i)[j]!.s∧¬ (L i)[j]!.e < B[u+1]!)↔cp L B (u+1) i=2 * j+1:=by
 have b0:eg (L i) (2 * j)=(L i)[j]!.s:=by unfold eg; rw [if_pos (by omega),show 2 * j / 2=j by omega]
 have b1:eg (L i) (2 * j+1)=(L i)[j]!.e:=by unfold eg; rw [if_neg (by omega),show (2 * j+1) / 2=j by omega]
 obtain ⟨x,hx,e0⟩:=h.at (p:=2 * j) hi (by omega)
 obtain ⟨y,hy,e1⟩:=h.at (p:=2 * j+1) hi (by omega)
 have c0:=gx h (t:=u+1) (by omega) hi (by omega:2 * j < 2 * (L i).length) hx e0
 have c1:=gx h (t:=u+1) (by omega) hi (by omega:2 * j+1 < 2 * (L i).length) hy e1
 rw [← b0,← b1,← e0,← e1,h.lt (by omega) hx,h.lt hy (by omega)]
 omega
theorem yL (h:Bds n L B) {i u:Nat} (hi:i < n) (hu:u+1 < B.length):cm (L i) B[u]! B[u+1]! = if cp L B (u+1) i % 2=1 then (L i)[cp L B (u+1) i / 2]!.ks else []:=by
 obtain ⟨c,hc⟩:∃ c,c=cp L B (u+1) i:=⟨_,rfl⟩
 have hle:=jS (L:=L) (B:=B) (u+1) i
 rw [← hc] at hle ⊢
 have key:∀ (A:List Sp) (o:Nat),(∀ j,j < A.length→o+j < (L i).length∧A[j]! = (L i)[o+j]!)→cm A B[u]! B[u+1]! = if c % 2=1∧o≤c / 2∧c / 2 < o+A.length then (L i)[c / 2]!.ks else []:=by
  intro A
  induction A with
  | nil =>
   intro o _
   rw [if_neg (by simp only [List.length_nil]; omega)]
   rfl
  | cons x A ih =>
   intro o hA
   have h0:=hA 0 (by simp)
   have hx:x=(L i)[o]! := by simpa using h0.2
   have ih:=ih (o+1) fun j hj=>by
    have:=hA (j+1) (by simp only [ag]; omega)
    rw [show o+(j+1)=o+1+j by omega] at this
    refine ⟨this.1,?_⟩
    rw [← this.2,aG A j hj,aG (x :: A) (j+1) (by simp only [ag]; omega)]
    rfl
   show (if ¬ B[u]! < x.s∧¬ x.e < B[u+1]! then x.ks else [])++cm A B[u]! B[u+1]! = _
   rw [ih,hx]
   have hc1:=CB h hi hu (j:=o) (by omega)
   rw [← hc] at hc1
   by_cases hco:c=2 * o+1
   ·rw [if_pos (hc1.2 hco),if_neg (by omega),if_pos (by simp only [ag]; omega),au,show c / 2=o by omega]
   ·rw [if_neg (fun h=>hco (hc1.1 h)),List.nil_append]
    by_cases h5:c % 2=1∧o+1≤c / 2∧c / 2 < o+1+A.length
    ·rw [if_pos h5,if_pos (by simp only [ag]; omega)]
    ·rw [if_neg h5,if_neg (by simp only [ag]; omega)]
 have:=key (L i) 0 fun j hj=>⟨by omega,by rw [Nat.zero_add]⟩
 rw [this]
 by_cases h5:c % 2=1
 ·rw [if_pos (by omega),if_pos h5]
 ·rw [if_neg (by omega),if_neg h5]
end
theorem CC {Lv:List (List Sp)} (h:∀ L ∈ Lv,Wf L) {u:Nat} (hu:u+1 < (bH Lv.flatten).length):cm Lv.flatten (bH Lv.flatten)[u]! (bH Lv.flatten)[u+1]! = cM Lv.length (de Lv) (bH Lv.flatten) (u+1):=by
 have hB:=iS h
 obtain ⟨B,hBe⟩:∃ B,B=bH Lv.flatten:=⟨_,rfl⟩
 rw [← hBe] at hB hu ⊢
 have e:cM Lv.length (de Lv) B (u+1)=(List.range Lv.length).flatMap fun i=>cm (de Lv i) B[u]! B[u+1]! := by
  unfold cM
  refine pJ fun i hi => ?_
  rw [List.mem_range] at hi
  exact (yL hB hi hu).symm
 rw [e]
 have key:∀ (A:List (List Sp)) (o:Nat),(∀ j,j < A.length→A[j]! = de Lv (o+j))→cm A.flatten B[u]! B[u+1]! = (List.range A.length).flatMap fun i=>cm (de Lv (o+i)) B[u]! B[u+1]! := by
  intro A
  induction A with
  | nil=>intro o _; rfl
  | cons x A ih =>
   intro o hA
   have h0:=hA 0 (by simp)
   have hx:x=de Lv o:=by simpa using h0
   rw [List.flatten_cons,ag,List.range_succ_eq_map,bj,List.flatMap_map]
   have:cm (x++A.flatten) B[u]! B[u+1]! = cm x B[u]! B[u+1]! ++ cm A.flatten B[u]! B[u+1]! := by unfold cm; rw [cV]
   rw [this,ih (o+1) fun j hj=>by
    have:=hA (j+1) (by simp only [ag]; omega)
    rw [show o+(j+1)=o+1+j by omega] at this
    rw [← this,aG A j hj,aG (x :: A) (j+1) (by simp only [ag]; omega)]
    rfl,hx]
   congr 1
   refine pJ fun i _ => ?_
   rw [show o+1+i=o+(i+1) by omega]
 have:=key Lv 0 fun j _=>by rw [Nat.zero_add]; rfl
 rw [this]
 refine pJ fun i _ => ?_
 rw [Nat.zero_add]
theorem pM {Lv:List (List Sp)} (h:∀ L ∈ Lv,Wf L) (hf:∀ L ∈ Lv,∀ s ∈ L,s.ks≠[]):dq Lv.flatten=(cP Lv.length (de Lv) (bH Lv.flatten)).map fun u=>⟨(bH Lv.flatten)[u - 1]!,(bH Lv.flatten)[u]!,cH (cM Lv.length (de Lv) (bH Lv.flatten) u)⟩:=by
 have hB:=iS h
 obtain ⟨B,hBe⟩:∃ B,B=bH Lv.flatten:=⟨_,rfl⟩
 have hc:=fun {u:Nat} (hu:u+1 < B.length)=>(by rw [hBe] at hu ⊢; exact CC h hu:cm Lv.flatten B[u]! B[u+1]! = cM Lv.length (de Lv) B (u+1))
 unfold dq
 rw [← hBe] at hB ⊢
 have hk:∀ u,u+1 < B.length→(cm Lv.flatten B[u]! B[u+1]! = []↔py Lv.length (de Lv) B (u+1)=false):=fun u hu=>by
  rw [hc hu]
  have:py Lv.length (de Lv) B (u+1)=true↔cM Lv.length (de Lv) B (u+1)≠[]:=by
   rw [ma]
   constructor
   ·rintro ⟨i,hi,h1⟩ h0
    unfold cM at h0
    have:=List.flatMap_eq_nil_iff.1 h0 i (List.mem_range.2 hi)
    rw [if_pos h1] at this
    have hl:cp (de Lv) B (u+1) i / 2 < (de Lv i).length:=by have:=jS (L:=de Lv) (B:=B) (u+1) i; omega
    rw [aG (de Lv i) _ hl] at this
    refine hf _ ?_ _ (aS hl) this
    unfold de
    rw [aG Lv i hi]
    exact aS hi
   ·intro h0
    refine Classical.byContradiction fun hn=>h0 ?_
    unfold cM
    refine List.flatMap_eq_nil_iff.2 fun i hi => ?_
    rw [if_neg fun h1=>hn ⟨i,List.mem_range.1 hi,h1⟩]
  rw [← Bool.not_eq_true,this,Decidable.not_not]
 have hcov:cP Lv.length (de Lv) B=(List.range (B.length - 1)).filterMap fun u=>if py Lv.length (de Lv) B (u+1) then some (u+1) else none:=by
  have e0:py Lv.length (de Lv) B 0=false:=by
   cases h0:py Lv.length (de Lv) B 0 with
   | false=>rfl
   | true=>exact absurd (nt hB (aQ _) h0).1 (dE 0)
  have e1:py Lv.length (de Lv) B B.length=false:=by
   cases h0:py Lv.length (de Lv) B B.length with
   | false=>rfl
   | true=>exact absurd (nt hB (aD _) h0).2 (dE _)
  unfold cP
  cases hl:B.length with
  | zero=>simp [e0]
  | succ m =>
   rw [hl] at e1
   rw [List.range_succ,List.filter_append,List.filter_cons_of_neg (by rw [e1]; simp),List.filter_nil,au,List.range_succ_eq_map,List.filter_cons_of_neg (by rw [e0]; simp),Nat.add_sub_cancel]
   rw [List.filter_map,← List.filterMap_eq_filter,List.map_filterMap]
   refine EK fun u _ => ?_
   simp only [Function.comp,Option.guard]
   split <;> rfl
 rw [hcov,List.map_filterMap]
 have hr:∀ m,m≤B.length - 1→(List.range m).flatMap (gC Lv.flatten B)=(List.range m).filterMap fun x=>(if py Lv.length (de Lv) B (x+1) then some (x+1) else none).map fun u=>(⟨B[u - 1]!,B[u]!,cH (cM Lv.length (de Lv) B u)⟩:Sp):=by
  intro m
  induction m with
  | zero=>intro _; rfl
  | succ m ih =>
   intro hm
   rw [List.range_succ,cV,List.filterMap_append,ih (by omega)]
   congr 1
   have hu:m+1 < B.length:=by omega
   have:=hk m hu
   rw [bj,List.flatMap_nil,au]
   unfold gC
   cases hcv:py Lv.length (de Lv) B (m+1) with
   | false=>rw [if_pos (this.2 hcv)]; simp [hcv]
   | true =>
    rw [if_neg (fun h=>by rw [this.1 h] at hcv; cases hcv),hc hu]
    simp [hcv]
 exact hr _ (aD _)
end Go.E
end
section
namespace Go.E
open Go Go.Sort Go.Proofs
abbrev SV:=Bytes × Bytes
def iC (st:List SV) (k:K):List SV :=
 if an k.tr=19 then [] else st.filter (fun x=>decide (x.1≠k.suf))++if an k.tr=21 then [(k.suf,k.val)] else []
def iT (a b:SV):Bool:=decide (a.1 < b.1)
def gD (st:List SV) (ks:List K):List SV:=iw iT (ks.reverse.foldl iC st)
theorem zn (l:List K) (hd:l.Pairwise fun x y=>x.tr≤y.tr) (hc:l.Pairwise fun x y=>x.suf=y.suf→x.tr≠y.tr) (hk:∀ x ∈ l,an x.tr=19∨an x.tr=20∨an x.tr=21) :
    (l.foldl iC []).Pairwise (fun a b=>a.1≠b.1)∧∀ p,p ∈ l.foldl iC []↔∃ x ∈ l,an x.tr=21∧p=x.sv∧∀ y ∈ l,(an y.tr=19→y.tr < x.tr)∧(an y.tr≠19→y.suf=x.suf→y.tr≤x.tr):=by
 have aux:∀ (m l:List K),(m++l).Pairwise (fun x y=>x.tr≤y.tr)→(m++l).Pairwise (fun x y=>x.suf=y.suf→x.tr≠y.tr)→(∀ x ∈ m++l,an x.tr=19∨an x.tr=20∨an x.tr=21)→∀ st:List SV,
     st.Pairwise (fun a b=>a.1≠b.1)→(∀ p,p ∈ st↔∃ x ∈ m,an x.tr=21∧p=x.sv∧∀ y ∈ m,(an y.tr=19→y.tr < x.tr)∧(an y.tr≠19→y.suf=x.suf→y.tr≤x.tr)) →
     (l.foldl iC st).Pairwise (fun a b=>a.1≠b.1)∧∀ p,p ∈ l.foldl iC st↔∃ x ∈ m++l,an x.tr=21∧p=x.sv∧∀ y ∈ m++l,(an y.tr=19→y.tr < x.tr)∧(an y.tr≠19→y.suf=x.suf→y.tr≤x.tr):=by
  intro m l
  induction l generalizing m with
  | nil=>intro _ _ _ st h1 h2; rw [au]; exact ⟨h1,h2⟩
  | cons k l ih =>
   intro hd hc hk st h1 h2
   rw [List.foldl_cons]
   have ih:=ih (m++[k]) (by simpa using hd) (by simpa using hc) (by simpa using hk) (iC st k)
   rw [bt,List.singleton_append] at ih
   have hkm:∀ y ∈ m,y.tr≤k.tr∧(y.suf=k.suf→y.tr≠k.tr):=fun y hy=>⟨(List.pairwise_append.1 hd).2.2 y hy k aR,(List.pairwise_append.1 hc).2.2 y hy k aR⟩
   have hkk:=hk k (by simp)
   refine ih ?_ fun p => ?_
   ·unfold iC
    split
    ·exact .nil
    ·refine List.pairwise_append.2 ⟨h1.filter _,by split <;> simp,fun a ha b hb => ?_⟩
     have:=(aN.1 ha).2
     simp only [decide_eq_true_eq] at this
     split at hb
     ·rw [ae.1 hb]; exact this
     ·simp at hb
   ·unfold iC
    split
    ·rename_i h19
     simp only [List.not_mem_nil,false_iff]
     rintro ⟨x,hx,hx1,hx2,hx3⟩
     have h4:=(hx3 k (by simp)).1 h19
     rcases ax.1 hx with hx | hx
     ·have:=(hkm x hx).1; omega
     ·rw [ae.1 hx] at h4; omega
    ·rename_i h19
     rw [ax,aN,h2]
     constructor
     ·rintro (⟨⟨x,hx,hx1,rfl,hx3⟩,hne⟩ | h)
      ·simp only [decide_eq_true_eq] at hne
       refine ⟨x,List.mem_append_left _ hx,hx1,rfl,fun y hy => ?_⟩
       rcases ax.1 hy with hy | hy
       ·exact hx3 y hy
       ·rw [ae.1 hy]
        exact ⟨fun h=>absurd h h19,fun _ h=>absurd h.symm hne⟩
      ·split at h
       ·rename_i h21
        rw [ae.1 h]
        refine ⟨k,by simp,h21,rfl,fun y hy => ?_⟩
        rcases ax.1 hy with hy | hy
        ·have:=hkm y hy
         refine ⟨fun h9 => ?_,fun _ _=>this.1⟩
         rcases aH y.tr k.tr with h5 | h5
         ·exact h5
         ·have:y.tr=k.tr:=by omega
          rw [this] at h9; omega
        ·rw [ae.1 hy]
         exact ⟨fun h=>absurd h h19,fun _ _=>aD _⟩
       ·simp at h
     ·rintro ⟨x,hx,hx1,rfl,hx3⟩
      rcases ax.1 hx with hx | hx
      ·refine .inl ⟨⟨x,hx,hx1,rfl,fun y hy=>hx3 y (List.mem_append_left _ hy)⟩,?_⟩
       simp only [decide_eq_true_eq]
       intro he
       have h5:=(hx3 k (by simp)).2 h19 he.symm
       have h6:=hkm x hx
       exact h6.2 he (by omega)
      ·rw [ae.1 hx] at hx1 ⊢
       rw [if_pos hx1]
       exact .inr (ae.2 rfl)
 have:=aux [] l (by simpa using hd) (by simpa using hc) (by simpa using hk) [] .nil (by simp)
 simpa using this
theorem EL {a b:List SV} (ha:a.Pairwise fun x y=>x.1 < y.1) (hb:b.Pairwise fun x y=>x.1 < y.1) (h:∀ x,x ∈ a↔x ∈ b):a=b:=by
 induction a generalizing b with
 | nil =>
  cases b with
  | nil=>rfl
  | cons y b=>exact absurd ((h y).2 aR) (by simp)
 | cons x a ih =>
  cases b with
  | nil=>exact absurd ((h x).1 aR) (by simp)
  | cons y b =>
   have ha':=fun {z}=>bF (a':=z) ha
   have hb':=fun {z}=>bF (a':=z) hb
   have hxy:x=y:=by
    rcases ak.1 ((h x).1 aR) with e | h1
    ·exact e
    ·rcases ak.1 ((h y).2 aR) with e | h2
     ·exact e.symm
     ·exact absurd (ha' h2) (gT (hb' h1))
   subst hxy
   congr 1
   refine ih ha.of_cons hb.of_cons fun z => ?_
   have:=h z
   rw [ak,ak] at this
   constructor
   ·intro hz
    rcases this.1 (.inr hz) with e | h1
    ·subst e; exact absurd (ha' hz) (bU _)
    ·exact h1
   ·intro hz
    rcases this.2 (.inr hz) with e | h1
    ·subst e; exact absurd (hb' hz) (bU _)
    ·exact h1
theorem zo:TotB iT where
 asym a b h:=by
  have h:a.1 < b.1:=of_decide_eq_true h
  exact aF (gT h)
 trans a b c h1 h2:=by
  have h1:¬ b.1 < a.1:=of_decide_eq_false h1
  have h2:¬ c.1 < b.1:=of_decide_eq_false h2
  exact aF fun h3=>h1 (ct h2 h3)
theorem EM {l:List SV} (h:l.Pairwise fun a b=>a.1≠b.1):(iw iT l).Pairwise fun a b=>a.1 < b.1:=by
 have h1:=jJ zo l
 have h2:(iw iT l).Pairwise fun a b=>a.1≠b.1:=(List.Perm.pairwise_iff (fun h=>Ne.symm h) (lA l)).2 h
 refine (h1.and h2).imp fun {a b} h => ?_
 have h3:¬ b.1 < a.1:=of_decide_eq_false h.1
 rcases gw a.1 b.1 with h4 | h4 | h4
 ·exact h4
 ·exact absurd h4 h.2
 ·exact absurd h4 h3
def tc (snap:Nat) (ks:List K):List K:=ks.filter fun x=>fu snap x.tr
theorem pN {snap:Nat} {ks:List K} (h:Cd ks):gD [] (tc snap (cH ks))=(Tf snap ks).map K.sv:=by
 have hm:∀ x,x ∈ (tc snap (cH ks)).reverse↔x ∈ ks∧fu snap x.tr=true:=fun x=>by rw [List.mem_reverse]; unfold tc; rw [aN,(cT ks).mem_iff]
 have hp:(cH ks).Pairwise fun x y=>x.suf=y.suf→x.tr≠y.tr:=(List.Perm.pairwise_iff (fun {x y} h e e2=>h e.symm e2.symm) (cT ks)).2 h.dist
 have fs:=zn (tc snap (cH ks)).reverse (by rw [List.pairwise_reverse]; exact (yK ks).filter _) (by rw [List.pairwise_reverse]; exact (hp.filter _).imp fun {x y} h e e2=>h e.symm e2.symm) fun x hx=>h.kind x ((hm x).1 hx).1
 refine EL (EM fs.1) (by rw [List.pairwise_map]; exact mZ h) fun p => ?_
 unfold gD
 rw [(lA _).mem_iff,fs.2,bV]
 constructor
 ·rintro ⟨x,hx,h1,rfl,h2⟩
  refine ⟨x,jt.2 ⟨((hm x).1 hx).1,gA.2 ⟨((hm x).1 hx).2,h1,fun y hy hv=>h2 y ((hm y).2 ⟨hy,hv⟩)⟩⟩,rfl⟩
 ·rintro ⟨x,hx,rfl⟩
  obtain ⟨h1,h2⟩:=jt.1 hx
  obtain ⟨h2,h3,h4⟩:=gA.1 h2
  exact ⟨x,(hm x).2 ⟨h1,h2⟩,h3,rfl,fun y hy=>h4 y ((hm y).1 hy).1 ((hm y).1 hy).2⟩
def eF (p:SV):K:=⟨0,p.1,p.2⟩
theorem pO (l:List SV):(l.map eF).map K.sv=l:=by
 rw [cl]
 exact List.map_id'' (fun _=>rfl) l
theorem CD {l m:List SV} (h:l.map eF=m.map eF):l=m:=by rw [← pO l,h,pO]
def iJ (x:Sp):Sp:=⟨x.s,x.e,(gD [] x.ks).map eF⟩
def ee (out:List Sp) (x:Sp):List Sp:=match out.getLast? with
 | some y=>if y.e=x.s∧x.ks≠[]∧y.ks=x.ks then out.dropLast++[⟨y.s,x.e,y.ks⟩] else out++[x]
 | none=>[x]
def E4 (lo hi:Option Bytes) (x:Sp):Bool:=(match lo with | some l=>decide (l < x.e) | none=>true) && match hi with | some h=>decide (x.s < h) | none=>true
def jk (l:List Sp) (snap:Nat):List Sp:=(dq l).map fun x=>⟨x.s,x.e,tc snap x.ks⟩
def um (l:List Sp) (snap:Nat) (lo hi:Option Bytes):List Sp:=(((jk l snap).filter (E4 lo hi)).map iJ).foldl ee []
def cR (x:Sp):Sp:=⟨x.s,x.e,(x.ks.map K.sv).map eF⟩
def E5 (G:List Sp) (m:Nat):List Sp:=(List.range ((List.range m).filter (gJ K.sv G)).length).map fun p =>
 ⟨G[((List.range m).filter (gJ K.sv G))[p]!]!.s,G[(if p+1 < ((List.range m).filter (gJ K.sv G)).length then ((List.range m).filter (gJ K.sv G))[p+1]! else m) - 1]!.e,G[((List.range m).filter (gJ K.sv G))[p]!]!.ks⟩
theorem EN (G:List Sp):E5 G G.length=Vw K.sv G:=rfl
theorem EO {a b:Sp} (h1:a.s=b.s) (h2:a.e=b.e) (h3:a.ks.map K.sv=b.ks.map K.sv):cR a=cR b:=by unfold cR; rw [h1,h2,h3]
theorem CE (G:List Sp) {m:Nat} (hm:m≤G.length):((G.take m).map cR).foldl ee []=(E5 G m).map cR∧(0 < m→∃ j,((List.range m).filter (gJ K.sv G)).getLast? = some j∧j < m∧G[j]!.ks.map K.sv=G[m - 1]!.ks.map K.sv):=by
 induction m with
 | zero=>exact ⟨rfl,fun h=>absurd h (dE 0)⟩
 | succ m ih =>
  obtain ⟨ih1,ih2⟩:=ih (by omega)
  have hG:G.take (m+1)=G.take m++[G[m]!]:=by rw [List.take_add_one,aC (by omega:m < G.length),aG G m (by omega)]; rfl
  rw [hG,bC,List.foldl_append,ih1,List.map_singleton,List.foldl_cons,List.foldl_nil]
  obtain ⟨S,hS⟩:∃ S,S=(List.range m).filter (gJ K.sv G):=⟨_,rfl⟩
  have hS1:(List.range (m+1)).filter (gJ K.sv G)=if gJ K.sv G m then S++[m] else S:=by
   rw [List.range_succ,List.filter_append,← hS]
   cases h:gJ K.sv G m with
   | true=>rw [List.filter_cons_of_pos h]; rfl
   | false=>rw [List.filter_cons_of_neg (by rw [h]; simp)]; simp
  have hVm:E5 G m=(List.range S.length).map fun p=>⟨G[S[p]!]!.s,G[(if p+1 < S.length then S[p+1]! else m) - 1]!.e,G[S[p]!]!.ks⟩:=by unfold E5; rw [← hS]
  rcases bB m with rfl | hm0
  ·have h0:gJ K.sv G 0=true:=aO (.inl rfl)
   rw [h0] at hS1
   have hS0:S=[]:=by rw [hS]; rfl
   rw [if_pos rfl,hS0,List.nil_append] at hS1
   refine ⟨?_,fun _=>⟨0,by rw [hS1]; rfl,by omega,rfl⟩⟩
   rw [hVm,hS0]
   show ee [] (cR G[0]!)=_
   unfold E5
   rw [hS1]
   rfl
  ·obtain ⟨j,hj,hjm,hje⟩:=ih2 hm0
   rw [← hS] at hj
   obtain ⟨S',rfl⟩:∃ S',S=S'++[j]:=List.getLast?_eq_some_iff.1 hj
   have hlast:E5 G m=((List.range S'.length).map fun p=>(⟨G[(S'++[j])[p]!]!.s,G[(S'++[j])[p+1]! - 1]!.e,G[(S'++[j])[p]!]!.ks⟩:Sp))++[⟨G[j]!.s,G[m - 1]!.e,G[j]!.ks⟩]:=by
    rw [hVm,aM,aY,List.range_succ,bC]
    congr 1
    ·refine List.map_congr_left fun p hp => ?_
     rw [List.mem_range] at hp
     rw [if_pos (by omega)]
    ·simp only [List.map_cons,List.map_nil]
     rw [if_neg (by omega)]
     have:(S'++[j])[S'.length]! = j:=by rw [aG (S'++[j]) S'.length (by simp)]; simp
     rw [this]
   have hjoin:gJ K.sv G m=decide (¬ (G[m - 1]!.e=G[m]!.s∧G[m]!.ks≠[]∧G[m - 1]!.ks.map K.sv=G[m]!.ks.map K.sv)):=by
    unfold gJ
    refine decide_eq_decide.2 ?_
    have hh:fL K.sv G (m - 1)↔m - 1+1 < G.length∧G[m - 1]!.e=G[m - 1+1]!.s∧G[m - 1]!.ks≠[]∧G[m - 1]!.ks.map K.sv=G[m - 1+1]!.ks.map K.sv:=Iff.rfl
    rw [hh,show m - 1+1=m by omega]
    constructor
    ·rintro (h | h)
     ·omega
     ·rintro ⟨h1,h2,h3⟩
      exact h ⟨by omega,h1,fun h4=>h2 (by rw [h4] at h3; simpa using h3.symm),h3⟩
    ·intro h
     refine .inr fun ⟨_,h1,h2,h3⟩=>h ⟨h1,fun h4=>h2 (by rw [h4] at h3; simpa using h3),h3⟩
   rw [hlast,bC,List.map_singleton]
   unfold ee
   rw [List.getLast?_append,List.getLast?_singleton]
   simp only [Option.or_some,Option.some_or]
   have hb1:((cR G[m]!).ks≠[])↔G[m]!.ks≠[]:=by unfold cR; simp
   have hb2:((cR (⟨G[j]!.s,G[m - 1]!.e,G[j]!.ks⟩:Sp)).ks=(cR G[m]!).ks)↔G[m - 1]!.ks.map K.sv=G[m]!.ks.map K.sv:=by
    rw [← hje]
    constructor
    ·intro h; exact CD h
    ·intro h; exact congrArg (List.map eF) h
   by_cases hc:G[m - 1]!.e=G[m]!.s∧G[m]!.ks≠[]∧G[m - 1]!.ks.map K.sv=G[m]!.ks.map K.sv
   ·rw [if_pos (by refine ⟨hc.1,hb1.2 hc.2.1,hb2.2 hc.2.2⟩)]
    have hst:gJ K.sv G m=false:=by rw [hjoin]; exact aF fun h=>h hc
    rw [hst,if_neg (by simp)] at hS1
    refine ⟨?_,fun _=>⟨j,by rw [hS1]; exact hj,by omega,by rw [show m+1 - 1=m by omega,hje,hc.2.2]⟩⟩
    rw [List.dropLast_concat]
    unfold E5
    rw [hS1,aM,aY,List.range_succ,bC,bC]
    congr 1
    ·rw [cl,cl]
     refine List.map_congr_left fun p hp => ?_
     rw [List.mem_range] at hp
     simp only [Function.comp]
     rw [if_pos (by omega)]
    ·simp only [List.map_cons,List.map_nil]
     rw [if_neg (by omega)]
     have:(S'++[j])[S'.length]! = j:=by rw [aG (S'++[j]) S'.length (by simp)]; simp
     rw [this,show m+1 - 1=m by omega]
     rfl
   ·rw [if_neg (by rintro ⟨h1,h2,h3⟩; exact hc ⟨h1,hb1.1 h2,hb2.1 h3⟩)]
    have hst:gJ K.sv G m=true:=by rw [hjoin]; exact aO hc
    rw [hst,if_pos rfl] at hS1
    refine ⟨?_,fun _=>⟨m,by rw [hS1]; simp,by omega,by rw [show m+1 - 1=m by omega]⟩⟩
    rw [show (List.map cR (List.map (fun p=>(⟨G[(S'++[j])[p]!]!.s,G[(S'++[j])[p+1]! - 1]!.e,G[(S'++[j])[p]!]!.ks⟩:Sp)) (List.range S'.length))++[cR ⟨G[j]!.s,G[m - 1]!.e,G[j]!.ks⟩])=(E5 G m).map cR by rw [hlast,bC]; rfl]
    have hV1:E5 G (m+1)=(List.range (S'++[j]++[m]).length).map fun p=>(⟨G[(S'++[j]++[m])[p]!]!.s,G[(if p+1 < (S'++[j]++[m]).length then (S'++[j]++[m])[p+1]! else m+1) - 1]!.e,G[(S'++[j]++[m])[p]!]!.ks⟩:Sp):=by unfold E5; rw [hS1]
    have hl1:(S'++[j]++[m]).length=(S'++[j]).length+1:=by simp
    rw [hV1,hVm,hl1,List.range_succ,bC,bC]
    congr 1
    ·rw [cl,cl]
     refine List.map_congr_left fun p hp => ?_
     rw [List.mem_range] at hp
     simp only [Function.comp]
     have e1:(S'++[j]++[m])[p]! = (S'++[j])[p]! := by rw [aG (S'++[j]++[m]) p (by simp only [aM,aY] at hp ⊢; omega),aG (S'++[j]) p hp,List.getElem_append_left hp]
     rw [e1,if_pos (show p+1 < (S'++[j]).length+1 by omega)]
     by_cases hp1:p+1 < (S'++[j]).length
     ·have e2:(S'++[j]++[m])[p+1]! = (S'++[j])[p+1]! := by rw [aG (S'++[j]++[m]) (p+1) (by simp only [aM,aY] at hp1 ⊢; omega),aG (S'++[j]) (p+1) hp1,List.getElem_append_left hp1]
      rw [if_pos hp1,e2]
     ·have hpe:p+1=(S'++[j]).length:=by omega
      have e2:(S'++[j]++[m])[p+1]! = m:=by rw [hpe,aG (S'++[j]++[m]) _ (by simp only [aM,aY]; omega)]; simp
      rw [if_neg hp1,e2]
    ·simp only [List.map_cons,List.map_nil]
     rw [if_neg (by omega)]
     have:(S'++[j]++[m])[(S'++[j]).length]! = m:=by rw [aG (S'++[j]++[m]) _ (by simp only [aM,aY]; omega)]; simp
     rw [this,show m+1 - 1=m by omega]
theorem Ak (G:List Sp):(G.map cR).foldl ee []=(Vw K.sv G).map cR:=by
 have:=(CE G (aD G.length)).1
 rwa [aT,EN] at this
end Go.E
end
