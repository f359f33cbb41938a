/- Parts of the proof: Wh, Wi, Wj, Wk, Wl. -/
import Derived.Test.YtjcbeinpkafjiaaGreatQ20
import Derived.Test.YtjcbeinpkafjiaaGreatQ21
set_option linter.all false
set_option maxRecDepth 10000
section
namespace Go.E
open Go Go.Sort Go.Proofs Go.Proofs.Tryz
structure MI0 (w:World) (U o Bf:Nat) (tt:TypeId) (tv:Value) (Ls:List Lvl):Prop where
 u2:w.cell? ⟨U,o,none⟩=some (.pointer (some ⟨Bf,0,none⟩))
 u3:w.cell? ⟨U,o+1,none⟩=some (.slice none 0 0)
 u4:w.cell? ⟨U,o+2,none⟩=some (.slice none 0 0)
 u5:w.cell? ⟨U,o+3,none⟩=some (.iface tt tv)
 u6:w.cell? ⟨U,o+4,none⟩=some (.slice none 0 0)
 u7:w.cell? ⟨U,o+5,none⟩=some (.slice none 0 0)
 u8:w.cell? ⟨U,o+6,none⟩=some (.slice none 0 0)
 u9:w.cell? ⟨U,o+7,none⟩=some (.int .i8 0)
 u10:w.cell? ⟨U,o+8,none⟩=some .nilIface
 u11:w.cell? ⟨U,o+9,none⟩=some (.int .i8 0)
 lv:∀ i x,Ls[i]? = some x→w.cell? ⟨U,o+10+i * 4,none⟩=some (.iface 233 (.pointer (some ⟨x.I,0,none⟩)))∧w.cell? ⟨U,o+10+i * 4+1,none⟩=some (.int .i8 0)∧w.cell? ⟨U,o+10+i * 4+2,none⟩=some (.slice none 0 0)∧w.cell? ⟨U,o+10+i * 4+3,none⟩=some (.pointer none)
 it:∀ x,o+50≤x→x < o+70→∃ v,w.cell? ⟨U,x,none⟩=some v
 b1:w.cell? ⟨Bf,1,none⟩=some (.slice (some ⟨U,o+10,none⟩) Ls.length 10)
 b2:w.cell? ⟨Bf,2,none⟩=some (.func (.func 102) #[] #[])
 b4:w.cell? ⟨Bf,4,none⟩=some (.slice (some ⟨U,o+50,none⟩) 0 10)
def xQ (U o Bf:Nat):Nat→Nat→Prop:=fun b x=>b=U∧o≤x∧x < o+70∨b=Bf∧(x=1∨x=2∨x=4)
end Go.E
namespace Go.Proofs
open Go Go.E Go.Sort Go.Proofs.Tryz
section
variable {k:ae} {d w:World} {U o Bf:Nat} {tt:TypeId} {tv:Value}
theorem zn {v:Value} {Ls:List Lvl} (hv:Sl zS 1 d v Ls) (hd:cH d w) (oU:dA d U) (oB:dA d Bf) (hn:Ls.length≤10) (hne:Bf≠U) (cU:∀ x,o≤x→x < o+70→∃ u,w.cell? ⟨U,x,none⟩=some u) (fU:∀ x,w.frozen? ⟨U,x,none⟩=false)
    (b1:w.cell? ⟨Bf,1,none⟩=some (.slice none 0 0)) (b2:w.cell? ⟨Bf,2,none⟩=some .nilFunc) (b4:w.cell? ⟨Bf,4,none⟩=some (.slice none 0 0)) (fB:∀ x,w.frozen? ⟨Bf,x,none⟩=false)
    (hk:∀ w',Keep (xQ U o Bf) w w'→MI0 w' U o Bf tt tv Ls→k (.tuple #[]) w') :
    aU prog 97 #[.pointer (some ⟨U,o,none⟩),.func (.func 102) #[] #[],.iface tt tv,.pointer (some ⟨Bf,0,none⟩),v] k w:=by
 obtain ⟨ka,kc,rfl⟩:=hv.form
 refine aW [] func97 ?_
 refine aY ?_
 refine BN (fun j hj => ?_) fU ?_ fun w1 h1 k1 => ?_
 ·have hj:j < 70:=hj
  exact cU _ (by omega) (by omega)
 ·simp [Value.oneCell']
 have k1:Keep (fun b x=>b=U∧o≤x∧x < o+70) w w1:=k1
 have u2:w1.cell? ⟨U,o,none⟩=some (.pointer (some ⟨Bf,0,none⟩)):=h1 0 _ rfl
 have a1:=k1.some b1 fun h=>hne h.1
 have a2:=k1.some b2 fun h=>hne h.1
 have a4:=k1.some b4 fun h=>hne h.1
 have hUl:U < w.heap.size:=by obtain ⟨u,hu⟩:=cU o (by omega) (by omega); exact aE hu
 have fU1:∀ x,w1.frozen? ⟨U,x,none⟩=false:=fun x=>by rw [k1.frozen U x hUl]; exact fU x
 have fB1:∀ x,w1.frozen? ⟨Bf,x,none⟩=false:=fun x=>by rw [k1.frozen Bf x (aE b1)]; exact fB x
 refine me @u2 @a1 @a2 @a4 @fU1 @fB1 ?_
 obtain ⟨w2,hw2⟩:∃ w2,w2=w1.setCell ⟨Bf,2,none⟩ (.func (.func 102) #[] #[]):=⟨_,rfl⟩
 rw [← hw2]
 have k2:Keep (fun b x=>b=U∧o≤x∧x < o+70∨b=Bf∧x=2) w w2:=by rw [hw2]; exact (k1.mono fun b x _ h => .inl h).set fun _ => .inr ⟨rfl,rfl⟩
 have nU:U≠Bf:=fun h=>hne h.symm
 have h2:∀ j u,w1.cell? ⟨U,j,none⟩=some u→w2.cell? ⟨U,j,none⟩=some u:=fun j u hu=>by rw [hw2]; exact (bR (M:=fun b _=>b=Bf) rfl).some hu nU
 have a1:w2.cell? ⟨Bf,1,none⟩=some (.slice none 0 0):=by rw [hw2,gF (by decide)]; exact a1
 have a2:w2.cell? ⟨Bf,2,none⟩=some (.func (.func 102) #[] #[]):=by rw [hw2,cG,a2]; rfl
 have a4:w2.cell? ⟨Bf,4,none⟩=some (.slice none 0 0):=by rw [hw2,gF (by decide)]; exact a4
 have u2:=h2 _ _ u2
 have fU2:∀ x,w2.frozen? ⟨U,x,none⟩=false:=fun x=>by rw [k2.frozen U x hUl]; exact fU x
 have fB2:∀ x,w2.frozen? ⟨Bf,x,none⟩=false:=fun x=>by rw [k2.frozen Bf x (aE b1)]; exact fB x
 refine ao (sq [0,1,2] (.read 3 (sq [4,5] (.read 6 (sq [7,8,9] (.read 10 (sq [11,12,13] (.read 14 (sq [15,16] .done))))))))) ?_
 refine dg @u2 @a1 @a4 ?_
 have hle:(Ls.length:Int)≤10:=by omega
 refine bP @hle ?_
 refine ao (sq [0,1,2] (.read 3 (sq [4,5,6,7,8,9,10,11,12] (.eff 13 [] .done)))) ?_
 have s1:∀ q,dR prog 125 (.pointer (some ⟨U,o+10,none⟩)) none (some (.int .i64 Ls.length)) none q=q (.slice (some ⟨U,o+10,none⟩) Ls.length 10):=fun q=>by
  rw [qA Tryz.ar125 rfl rfl (by simp [bd]) (by simp [bd]; omega) (by simp [bd]) (by simp)]; simp [bd]
 have s2:∀ q,dR prog 129 (.pointer (some ⟨U,o+50,none⟩)) none (some (.int .i64 0)) none q=q (.slice (some ⟨U,o+50,none⟩) 0 10):=fun q=>by
  rw [qA Tryz.ar129 rfl rfl (by simp [bd]) (by simp [bd]) (by simp [bd]) (by simp)]; simp [bd]
 refine eI @u2 @a1 @fB2 @s1 ?_
 obtain ⟨w3,hw3⟩:∃ w3,w3=(w2.setCell ⟨Bf,1,none⟩ (.slice (some ⟨U,o+10,none⟩) Ls.length 10)).drew.drew:=⟨_,rfl⟩
 rw [← hw3]
 have k3:Keep (xQ U o Bf) w w3:=by rw [hw3]; exact (k2.mono fun b x _ h=>by unfold xQ; omega).set (fun _ => .inr ⟨rfl,.inl rfl⟩) |>.drew.drew
 have h3:∀ j u,w1.cell? ⟨U,j,none⟩=some u→w3.cell? ⟨U,j,none⟩=some u:=fun j u hu=>by rw [hw3]; exact (bR (M:=fun b _=>b=Bf) rfl).drew.drew.some (h2 j u hu) nU
 have b13:w3.cell? ⟨Bf,1,none⟩=some (.slice (some ⟨U,o+10,none⟩) Ls.length 10):=by rw [hw3]; exact bU @a1
 have b2':w3.cell? ⟨Bf,2,none⟩=some (.func (.func 102) #[] #[]):=by rw [hw3]; exact bU @a2
 have a4:w3.cell? ⟨Bf,4,none⟩=some (.slice none 0 0):=by rw [hw3]; exact bU @a4
 have u2:w3.cell? ⟨U,o,none⟩=some (.pointer (some ⟨Bf,0,none⟩)):=h3 o _ (h1 0 _ rfl)
 have fB3:∀ x,w3.frozen? ⟨Bf,x,none⟩=false:=fun x=>by rw [k3.frozen Bf x (aE b1)]; exact fB x
 refine ao (sq [0,1,2] (.read 3 (sq [4,5,6,7,8,9,10,11] (.eff 12 [] .done)))) ?_
 refine eI @u2 @a4 @fB3 @s2 ?_
 obtain ⟨w4,hw4⟩:∃ w4,w4=(w3.setCell ⟨Bf,4,none⟩ (.slice (some ⟨U,o+50,none⟩) 0 10)).drew:=⟨_,rfl⟩
 rw [← hw4]
 have k4:Keep (xQ U o Bf) w w4:=by rw [hw4]; exact (k3.set fun _ => .inr ⟨rfl,.inr (.inr rfl)⟩).drew
 have h4:∀ j u,w1.cell? ⟨U,j,none⟩=some u→w4.cell? ⟨U,j,none⟩=some u:=fun j u hu=>by rw [hw4]; exact (bR (M:=fun b _=>b=Bf) rfl).drew.some (h3 j u hu) nU
 have b1':w4.cell? ⟨Bf,1,none⟩=some (.slice (some ⟨U,o+10,none⟩) Ls.length 10):=by rw [hw4]; exact bU @b13
 have b2':w4.cell? ⟨Bf,2,none⟩=some (.func (.func 102) #[] #[]):=by rw [hw4]; exact bU @b2'
 have b4':w4.cell? ⟨Bf,4,none⟩=some (.slice (some ⟨U,o+50,none⟩) 0 10):=by rw [hw4]; exact bU @a4
 have u2:w4.cell? ⟨U,o,none⟩=some (.pointer (some ⟨Bf,0,none⟩)):=h4 o _ (h1 0 _ rfl)
 refine bP @b13 ?_
 refine bI (fun i:Nat=>[(0,.pointer (some ⟨U,o,none⟩)),(4,.slice ka Ls.length kc),(119,.int .i64 Ls.length),(120,.int .i64 i)])
  (fun i w'=>i≤Ls.length∧Keep (xQ U o Bf) w w'∧(∀ j u,j < o+10∨o+50≤j→w1.cell? ⟨U,j,none⟩=some u→w'.cell? ⟨U,j,none⟩=some u)∧(∀ j,o+10≤j→j < o+50→∃ u,w'.cell? ⟨U,j,none⟩=some u) ∧
   (w'.cell? ⟨Bf,1,none⟩=some (.slice (some ⟨U,o+10,none⟩) Ls.length 10)∧w'.cell? ⟨Bf,2,none⟩=some (.func (.func 102) #[] #[])∧w'.cell? ⟨Bf,4,none⟩=some (.slice (some ⟨U,o+50,none⟩) 0 10)) ∧
   ∀ j x,j < i→Ls[j]? = some x→w'.cell? ⟨U,o+10+j * 4,none⟩=some (.iface 233 (.pointer (some ⟨x.I,0,none⟩)))∧w'.cell? ⟨U,o+10+j * 4+1,none⟩=some (.int .i8 0)∧w'.cell? ⟨U,o+10+j * 4+2,none⟩=some (.slice none 0 0)∧w'.cell? ⟨U,o+10+j * 4+3,none⟩=some (.pointer none))
  (fun i _=>Ls.length - i) 0 (by kernel_rfl) ?_ ⟨aM _,k4,fun j u _ h=>h4 j u h,fun j h5 h6 => ?_,⟨b1',b2',b4'⟩,fun j x h=>by omega⟩ ?_
 ·exact bA
 ·obtain ⟨u,hu⟩:∃ u,w1.cell? ⟨U,j,none⟩=some u:=by
    obtain ⟨m,rfl⟩:∃ m,j=o+m:=⟨j - o,by omega⟩
    exact ⟨_,h1 m _ (aC (show m < 70 by omega))⟩
  exact ⟨u,h4 j u hu⟩
 rintro K2 e i w5 ⟨i1,i2,i3,i4,⟨i5,i6,i7⟩,i8⟩ hK2
 have u2:w5.cell? ⟨U,o,none⟩=some (.pointer (some ⟨Bf,0,none⟩)):=i3 o _ (by omega) (h1 0 _ rfl)
 rcases aH i Ls.length with hi | hi
 rotate_left
 ·have hi':¬ (i:Int) < Ls.length:=by omega
  refine bP @hi' ?_
  obtain rfl:i=Ls.length:=by omega
  refine hk w5 i2 ⟨u2,i3 (o+1) _ (by omega) (h1 1 _ rfl),i3 (o+2) _ (by omega) (h1 2 _ rfl),i3 (o+3) _ (by omega) (h1 3 _ rfl),i3 (o+4) _ (by omega) (h1 4 _ rfl),i3 (o+5) _ (by omega) (h1 5 _ rfl),i3 (o+6) _ (by omega) (h1 6 _ rfl),i3 (o+7) _ (by omega) (h1 7 _ rfl),i3 (o+8) _ (by omega) (h1 8 _ rfl),i3 (o+9) _ (by omega) (h1 9 _ rfl),fun j x hx=>i8 j x (aN.1 hx).1 hx,fun x h5 h6 => ?_,i5,i6,i7⟩
  obtain ⟨m,rfl⟩:∃ m,x=o+m:=⟨x - o,by omega⟩
  exact ⟨_,i3 _ _ (by omega) (h1 m _ (aC (show m < 70 by omega)))⟩
 have hi':(i:Int) < Ls.length:=by omega
 obtain ⟨g,f,c,hv',hc,hat⟩:=(hv.inc zS.mono (hd.keep i2 fun b x h=>by rcases h with ⟨rfl,_⟩ | ⟨rfl,_⟩; exact oU x; exact oB x)).at (by omega)
 obtain ⟨rfl,rfl⟩:=sEq hv'
 obtain ⟨x,hx⟩:=gEl hi
 obtain ⟨cs,_,hcs,rfl⟩:=hat i x hx
 have h0:w5.cell? ⟨g,f+i * 1,none⟩=some (.iface 233 (.pointer (some ⟨x.I,0,none⟩))):=hcs 0 _ rfl
 obtain ⟨v0,q0⟩:=i4 (o+10+i * 4) (by omega) (by omega)
 obtain ⟨v1,q1⟩:=i4 (o+10+i * 4+1) (by omega) (by omega)
 obtain ⟨v2,q2⟩:=i4 (o+10+i * 4+2) (by omega) (by omega)
 obtain ⟨v3,q3⟩:=i4 (o+10+i * 4+3) (by omega) (by omega)
 have fU5:∀ x,w5.frozen? ⟨U,x,none⟩=false:=fun x=>by rw [i2.frozen U x hUl]; exact fU x
 refine bP @hi' ?_
 refine ao (sq [0,1,2] (.read 3 (sq [4,5] (.read 6 (sq [7,8,9,10] (.read 11 (sq [12,13] (.eff 14 [] .done)))))))) ?_
 refine yj @u2 @i5 @h0 @q0 @q1 @q2 @q3 @fU5 ?_
 obtain ⟨w6,hw6⟩:∃ w6,w6=(((((w5.setCell ⟨U,o+10+i * 4,none⟩ (.iface 233 (.pointer (some ⟨x.I,0,none⟩)))).setCell ⟨U,o+10+i * 4+1,none⟩ (.int .i8 0)).setCell ⟨U,o+10+i * 4+2,none⟩ (.slice none 0 0)).setCell ⟨U,o+10+i * 4+3,none⟩ (.pointer none))).drew:=⟨_,rfl⟩
 rw [← hw6]
 have k6:Keep (fun b x=>b=U∧o+10+i * 4≤x∧x < o+10+i * 4+4) w5 w6:=by
  rw [hw6]
  exact (((((Keep.refl _ w5).set fun _=>⟨rfl,by omega,by omega⟩).set fun _=>⟨rfl,by omega,by omega⟩).set fun _=>⟨rfl,by omega,by omega⟩).set fun _=>⟨rfl,by omega,by omega⟩).drew
 have z0:w6.cell? ⟨U,o+10+i * 4,none⟩=some (.iface 233 (.pointer (some ⟨x.I,0,none⟩))):=by rw [hw6]; exact bU @q0
 have z1:w6.cell? ⟨U,o+10+i * 4+1,none⟩=some (.int .i8 0):=by rw [hw6]; exact bU @q1
 have z2:w6.cell? ⟨U,o+10+i * 4+2,none⟩=some (.slice none 0 0):=by rw [hw6]; exact bU @q2
 have z3:w6.cell? ⟨U,o+10+i * 4+3,none⟩=some (.pointer none):=by rw [hw6]; exact bU @q3
 refine hK2 _ _ (i+1) ?_ ⟨hi,i2.tr k6 fun b y _ h => .inl ⟨h.1,by omega,by omega⟩,fun j u hj hu=>k6.some (i3 j u hj hu) (by omega),fun j h5 h6 => ?_,⟨k6.some i5 fun h=>hne h.1,k6.some i6 fun h=>hne h.1,k6.some i7 fun h=>hne h.1⟩,fun j y hj hy => ?_⟩ (by omega)
 ·exact bA
 ·by_cases h:o+10+i * 4≤j∧j < o+10+i * 4+4
  ·obtain ⟨m,rfl⟩:∃ m,j=o+10+i * 4+m:=⟨j - (o+10+i * 4),by omega⟩
   match m,(by omega:m < 4) with
   | 0,_=>exact ⟨_,z0⟩
   | 1,_=>exact ⟨_,z1⟩
   | 2,_=>exact ⟨_,z2⟩
   | 3,_=>exact ⟨_,z3⟩
  ·obtain ⟨u,hu⟩:=i4 j h5 h6
   exact ⟨u,k6.some hu fun hh=>h hh.2⟩
 ·rcases aH j i with h | h
  ·obtain ⟨y0,y1,y2,y3⟩:=i8 j y h hy
   exact ⟨k6.some y0 (by omega),k6.some y1 (by omega),k6.some y2 (by omega),k6.some y3 (by omega)⟩
  ·obtain rfl:j=i:=by omega
   rw [hx] at hy
   cases hy
   exact ⟨z0,z1,z2,z3⟩
end
end Go.Proofs
end
section
namespace Go.E
open Go Go.Sort Go.Proofs Go.Proofs.Tryz
structure DI0 (w:World) (U a Bf e C:Nat) (rt:TypeId) (rv:Value) (mt:TypeId) (mv:Value):Prop where
 d0:w.cell? ⟨U,a,none⟩=some (.pointer (some ⟨Bf,e,none⟩))
 d1:w.cell? ⟨U,a+1,none⟩=some (.pointer (some ⟨C,0,none⟩))
 d2:w.cell? ⟨U,a+2,none⟩=some (.func (.func 103) #[] #[])
 d3:w.cell? ⟨U,a+3,none⟩=some (.iface rt rv)
 d4:w.cell? ⟨U,a+4,none⟩=some (.pointer none)
 d5:w.cell? ⟨U,a+5,none⟩=some (.int .i8 0)
 d6:w.cell? ⟨U,a+6,none⟩=some (.slice none 0 0)
 d7:w.cell? ⟨U,a+7,none⟩=some (.slice none 0 0)
 d8:w.cell? ⟨U,a+8,none⟩=some (.slice none 0 0)
 d9:w.cell? ⟨U,a+9,none⟩=some (.int .i8 0)
 d10:w.cell? ⟨U,a+10,none⟩=some (.iface mt mv)
 d11:w.cell? ⟨U,a+11,none⟩=some (.func (.func 101) #[] #[])
theorem DI0.keep {w w2:World} {U a Bf e C:Nat} {rt:TypeId} {rv:Value} {mt:TypeId} {mv:Value} {M:Nat→Nat→Prop} (m:DI0 w U a Bf e C rt rv mt mv) (hk:Keep M w w2) (h1:∀ x,a≤x→x < a+12→¬ M U x):DI0 w2 U a Bf e C rt rv mt mv :=
 ⟨hk.some m.d0 (h1 _ (by omega) (by omega)),hk.some m.d1 (h1 _ (by omega) (by omega)),hk.some m.d2 (h1 _ (by omega) (by omega)),hk.some m.d3 (h1 _ (by omega) (by omega)),hk.some m.d4 (h1 _ (by omega) (by omega)),hk.some m.d5 (h1 _ (by omega) (by omega)),hk.some m.d6 (h1 _ (by omega) (by omega)),hk.some m.d7 (h1 _ (by omega) (by omega)),hk.some m.d8 (h1 _ (by omega) (by omega)),hk.some m.d9 (h1 _ (by omega) (by omega)),hk.some m.d10 (h1 _ (by omega) (by omega)),hk.some m.d11 (h1 _ (by omega) (by omega))⟩
structure UI0 (w:World) (U Bf C snap:Nat) (it:Bool) (mt:TypeId) (mv lov hiv:Value):Prop where
 u0:w.cell? ⟨U,0,none⟩=some (.int .u64 snap)
 u1:w.cell? ⟨U,1,none⟩=some (.pointer (some ⟨C,0,none⟩))
 b0:w.cell? ⟨U,72,none⟩=some (.iface 224 (.pointer (some ⟨U,2,none⟩)))
 b1:w.cell? ⟨U,73,none⟩=some (.pointer none)
 b2:w.cell? ⟨U,74,none⟩=some (.func (.func 102) #[] #[])
 b4:w.cell? ⟨U,76,none⟩=some lov
 b5:w.cell? ⟨U,77,none⟩=some hiv
 b6:w.cell? ⟨U,78,none⟩=some (.pointer none)
 b8:w.cell? ⟨U,80,none⟩=some (.int .i8 0)
 d:DI0 w U 81 Bf 6 C 226 (.pointer (some ⟨U,72,none⟩)) mt mv
 u93:w.cell? ⟨U,93,none⟩=some (.bool it)
 u94:w.cell? ⟨U,94,none⟩=some (.pointer (some ⟨Bf,0,none⟩))
theorem MI0.keep {w w2:World} {U o Bf:Nat} {tt:TypeId} {tv:Value} {Ls:List Lvl} {M:Nat→Nat→Prop} (m:MI0 w U o Bf tt tv Ls) (hn:Ls.length≤10) (hk:Keep M w w2) (h1:∀ x,o≤x→x < o+70→¬ M U x) (h2:∀ x,x < 5→¬ M Bf x):MI0 w2 U o Bf tt tv Ls where
 u2:=hk.some m.u2 (h1 _ (by omega) (by omega))
 u3:=hk.some m.u3 (h1 _ (by omega) (by omega))
 u4:=hk.some m.u4 (h1 _ (by omega) (by omega))
 u5:=hk.some m.u5 (h1 _ (by omega) (by omega))
 u6:=hk.some m.u6 (h1 _ (by omega) (by omega))
 u7:=hk.some m.u7 (h1 _ (by omega) (by omega))
 u8:=hk.some m.u8 (h1 _ (by omega) (by omega))
 u9:=hk.some m.u9 (h1 _ (by omega) (by omega))
 u10:=hk.some m.u10 (h1 _ (by omega) (by omega))
 u11:=hk.some m.u11 (h1 _ (by omega) (by omega))
 lv i x hx:=by
  have:=(aN.1 hx).1
  obtain ⟨a,b,c,e⟩:=m.lv i x hx
  exact ⟨hk.some a (h1 _ (by omega) (by omega)),hk.some b (h1 _ (by omega) (by omega)),hk.some c (h1 _ (by omega) (by omega)),hk.some e (h1 _ (by omega) (by omega))⟩
 it x a b:=by obtain ⟨v,h⟩:=m.it x a b; exact ⟨v,hk.some h (h1 _ (by omega) b)⟩
 b1:=hk.some m.b1 (h2 _ (by omega))
 b2:=hk.some m.b2 (h2 _ (by omega))
 b4:=hk.some m.b4 (h2 _ (by omega))
end Go.E
namespace Go.Proofs
open Go Go.E Go.Sort Go.Proofs.Tryz
section
variable {k:ae} {d w:World} {U Bf C snap:Nat}
theorem HL {w:World} {j:Nat} {v:Value} (cU:∀ x,x < 95→∃ u,w.cell? ⟨U,x,none⟩=some u):∀ x,x < 95→∃ u,(w.setCell ⟨U,j,none⟩ v).cell? ⟨U,x,none⟩=some u:=fun x hx=>by
 obtain ⟨u,hu⟩:=cU x hx
 by_cases h:x=j
 ·subst h; exact ⟨v,by rw [cG,hu]; rfl⟩
 ·exact ⟨u,by rw [gF (by omega)]; exact hu⟩
theorem sM {a Bf e:Nat} {rt mt:TypeId} {rv mv:Value} (cU:∀ x,a≤x→x < a+12→∃ u,w.cell? ⟨U,x,none⟩=some u) (fU:∀ x,w.frozen? ⟨U,x,none⟩=false) (c1:w.cell? ⟨C,1,none⟩=some (.func (.func 103) #[] #[])) (hv:rv.oneCell'=true) (hm:mv.oneCell'=true)
    (hk:∀ w',Keep (fun b x=>b=U∧a≤x∧x < a+12) w w'→DI0 w' U a Bf e C rt rv mt mv→k (.tuple #[]) w') :
    aU prog 99 #[.pointer (some ⟨U,a,none⟩),.pointer (some ⟨C,0,none⟩),.iface rt rv,.iface mt mv,.func (.func 101) #[] #[],.pointer (some ⟨Bf,e,none⟩)] k w:=by
 refine aW [] func99 ?_
 refine bP @c1 ?_
 refine BN (fun j hj => ?_) fU ?_ fun w4 h4 k4 => ?_
 ·have hj:j < 12:=hj
  exact cU _ (by omega) (by omega)
 ·simp [Value.oneCell',hv,hm]
 refine aY ?_
 exact hk w4 k4 ⟨h4 0 _ rfl,h4 1 _ rfl,h4 2 _ rfl,h4 3 _ rfl,h4 4 _ rfl,h4 5 _ rfl,h4 6 _ rfl,h4 7 _ rfl,h4 8 _ rfl,h4 9 _ rfl,h4 10 _ rfl,h4 11 _ rfl⟩
def GN (it:Bool):TypeId:=match it with | true=>228 | false=>221
def GO (it:Bool) (U:Nat):Value:=match it with | true => .func (.func 100) #[] #[] | false => .pointer (some ⟨U,0,none⟩)
theorem Be {it:Bool} {v lov hiv:Value} {lo hi:Option Bytes} {Ls:List Lvl} (hv:Sl zS 1 d v Ls) (hd:cH d w) (oU:dA d U) (oB:dA d Bf) (hn:Ls.length≤10) (hne:Bf≠U) (cU:∀ x,x < 95→∃ u,w.cell? ⟨U,x,none⟩=some u) (fU:∀ x,w.frozen? ⟨U,x,none⟩=false)
    (b1:w.cell? ⟨Bf,1,none⟩=some (.slice none 0 0)) (b2:w.cell? ⟨Bf,2,none⟩=some .nilFunc) (b4:w.cell? ⟨Bf,4,none⟩=some (.slice none 0 0)) (fB:∀ x,w.frozen? ⟨Bf,x,none⟩=false) (hlo:OB d lov lo) (hhi:OB d hiv hi)
    (c0:d.cell? ⟨C,0,none⟩=some (.func (.func 102) #[] #[])) (c1:d.cell? ⟨C,1,none⟩=some (.func (.func 103) #[] #[])) (c5:d.cell? ⟨C,5,none⟩=some .nilFunc)
    (hk:∀ w',Keep (fun b x=>b=U∨b=Bf∧(x=1∨x=2∨x=4)) w w'→MI0 w' U 2 Bf 221 (.pointer (some ⟨U,0,none⟩)) Ls→UI0 w' U Bf C snap it (GN it) (GO it U) lov hiv→k (.iface 229 (.pointer (some ⟨U,81,none⟩))) w') :
    aU prog 65 #[.pointer (some ⟨U,0,none⟩),.pointer (some ⟨C,0,none⟩),.int .u64 snap,lov,hiv,.pointer none,.pointer none,.bool it,.pointer (some ⟨Bf,0,none⟩),v] k w:=by
 obtain ⟨ka,kc,rfl⟩:=hv.form
 obtain ⟨la,ln,lc,rfl⟩:∃ a n c,lov = .slice a n c:=by
  rcases hlo with ⟨_,rfl⟩ | ⟨_,a,n,c,_,rfl,_⟩
  ·exact ⟨_,_,_,rfl⟩
  ·exact ⟨_,_,_,rfl⟩
 obtain ⟨ha,hn',hc,rfl⟩:∃ a n c,hiv = .slice a n c:=by
  rcases hhi with ⟨_,rfl⟩ | ⟨_,a,n,c,_,rfl,_⟩
  ·exact ⟨_,_,_,rfl⟩
  ·exact ⟨_,_,_,rfl⟩
 have hUl:U < w.heap.size:=by obtain ⟨u,hu⟩:=cU 0 (by omega); exact aE hu
 obtain ⟨v0,q0⟩:=cU 0 (by omega)
 obtain ⟨v1,q1⟩:=cU 1 (by omega)
 obtain ⟨v93,q93⟩:=cU 93 (by omega)
 refine aW [.tmp 20] func65 ?_
 refine eI @q0 @q1 @q93 @fU ?_
 obtain ⟨w1,hw1⟩:∃ w1,w1=(((w.setCell ⟨U,0,none⟩ (.int .u64 snap)).setCell ⟨U,1,none⟩ (.pointer (some ⟨C,0,none⟩))).setCell ⟨U,93,none⟩ (.bool it)):=⟨_,rfl⟩
 rw [← hw1]
 have k1:Keep (fun b x=>b=U∧(x=0∨x=1∨x=93)) w w1:=by rw [hw1]; exact (((Keep.refl _ w).set fun _=>⟨rfl,.inl rfl⟩).set fun _=>⟨rfl,.inr (.inl rfl)⟩).set fun _=>⟨rfl,.inr (.inr rfl)⟩
 have cU1:∀ x,x < 95→∃ u,w1.cell? ⟨U,x,none⟩=some u:=by rw [hw1]; exact HL (HL (HL cU))
 have e0:w1.cell? ⟨U,0,none⟩=some (.int .u64 snap):=by rw [hw1]; exact bU @q0
 have e1:w1.cell? ⟨U,1,none⟩=some (.pointer (some ⟨C,0,none⟩)):=by rw [hw1]; exact bU @q1
 have e93:w1.cell? ⟨U,93,none⟩=some (.bool it):=by rw [hw1]; exact bU @q93
 have hd1:cH d w1:=hd.keep k1 fun b x h=>by rw [h.1]; exact oU x
 have fU1:∀ x,w1.frozen? ⟨U,x,none⟩=false:=fun x=>by rw [k1.frozen U x hUl]; exact fU x
 have hBl:=aE b1
 have fB1:∀ x,w1.frozen? ⟨Bf,x,none⟩=false:=fun x=>by rw [k1.frozen Bf x hBl]; exact fB x
 refine ao (sq [0,1,2,3,4,5] (.read 6 (sq [7,8,9,10,11,12] (.eff 13 [] .done)))) ?_
 simp (disch:=first | exact dZ | fail) only [go_sem,hd1 _ _ _ c0]
 refine zn (o:=2) hv hd1.drew oU oB hn hne (fun x h1 h2=>cU1 x (by omega)) fU1 (k1.some b1 fun h=>hne h.1) (k1.some b2 fun h=>hne h.1) (k1.some b4 fun h=>hne h.1) fB1 fun w2 k2 m2 => ?_
 have k2:Keep (xQ U 2 Bf) w1 w2:=(Keep.refl _ w1).drew.trans k2
 have nM:∀ x,x < 2∨72≤x→¬ xQ U 2 Bf U x:=fun x hx h=>by
  rcases h with h | ⟨h,_⟩
  ·omega
  ·exact hne h.symm
 have hd2:cH d w2:=hd1.keep k2 fun b x h=>by rcases h with ⟨rfl,_⟩ | ⟨rfl,_⟩; exact oU x; exact oB x
 have fU2:∀ x,w2.frozen? ⟨U,x,none⟩=false:=fun x=>by rw [k2.frozen U x (aG hUl k1.size)]; exact fU1 x
 have e0:=k2.some e0 (nM _ (by omega))
 have e1:=k2.some e1 (nM _ (by omega))
 have e93:=k2.some e93 (nM _ (by omega))
 have cU2:∀ x,72≤x→x < 95→∃ u,w2.cell? ⟨U,x,none⟩=some u:=fun x h1 h2=>by obtain ⟨u,hu⟩:=cU1 x h2; exact ⟨u,k2.some hu (nM _ (by omega))⟩
 refine aY ?_
 refine ao (sq [0,1,2,3,4,5] (.read 6 (sq [7,8,9] (.read 10 (sq [11,12,13,14,15,16,17,18] (.eff 19 [] .done)))))) ?_
 simp (disch:=first | exact dZ | fail) only [go_sem,hd2 _ _ _ c0,hd2 _ _ _ c5]
 refine aW [] func98 ?_
 refine aY ?_
 refine BN (w:=w2.drew) (fun j hj => ?_) fU2 ?_ fun w3 h3 k3 => ?_
 ·have hj:j < 9:=hj
  exact cU2 _ (by omega) (by omega)
 ·simp [Value.oneCell']
 have k3:Keep (fun b x=>b=U∧72≤x∧x < 81) w2 w3:=(Keep.refl _ w2).drew.trans k3
 have fU3:∀ x,w3.frozen? ⟨U,x,none⟩=false:=fun x=>by rw [k3.frozen U x (aG hUl (aP k1.size k2.size))]; exact fU2 x
 have hd3:cH d w3:=hd2.keep k3 fun b x h=>by rw [h.1]; exact oU x
 have m3:=m2.keep hn k3 (fun x _ _ h=>by omega) fun x _ h=>hne h.1
 have e0:=k3.some e0 (by omega)
 have e1:=k3.some e1 (by omega)
 have e93:=k3.some e93 (by omega)
 have cU3:∀ x,81≤x→x < 95→∃ u,w3.cell? ⟨U,x,none⟩=some u:=fun x h1 h2=>by obtain ⟨u,hu⟩:=cU2 x (by omega) h2; exact ⟨u,k3.some hu (by omega)⟩
 refine aY ?_
 have c13:=hd3 _ _ _ c1
 have fin:∀ w4,Keep (fun b x=>b=U∧81≤x∧x < 93) w3 w4→DI0 w4 U 81 Bf 6 C 226 (.pointer (some ⟨U,72,none⟩)) (GN it) (GO it U)→k (.iface 229 (.pointer (some ⟨U,81,none⟩))) (w4.setCell ⟨U,94,none⟩ (.pointer (some ⟨Bf,0,none⟩))):=by
  intro w4 k4 h4
  have m4:=m3.keep hn k4 (fun x _ _ h=>by omega) fun x _ h=>hne h.1
  obtain ⟨v94,q94⟩:=cU3 94 (by omega) (by omega)
  have q94:=k4.some q94 (by omega)
  have k5:Keep (fun b x=>b=U∧x=94) w4 (w4.setCell ⟨U,94,none⟩ (.pointer (some ⟨Bf,0,none⟩))):=bR ⟨rfl,rfl⟩
  have e0:=k5.some (k4.some e0 (by omega)) (by omega)
  have e1:=k5.some (k4.some e1 (by omega)) (by omega)
  have e93:=k5.some (k4.some e93 (by omega)) (by omega)
  have B:∀ j u,72+j < 81→w3.cell? ⟨U,72+j,none⟩=some u→(w4.setCell ⟨U,94,none⟩ (.pointer (some ⟨Bf,0,none⟩))).cell? ⟨U,72+j,none⟩=some u:=fun j u hj hu=>k5.some (k4.some hu (by omega)) (by omega)
  refine hk _ ?_ (m4.keep hn k5 (fun x _ _ h=>by omega) fun x _ h=>hne h.1) ⟨e0,e1,B 0 _ (by omega) (h3 0 _ rfl),B 1 _ (by omega) (h3 1 _ rfl),B 2 _ (by omega) (h3 2 _ rfl),B 4 _ (by omega) (h3 4 _ rfl),B 5 _ (by omega) (h3 5 _ rfl),B 6 _ (by omega) (h3 6 _ rfl),B 8 _ (by omega) (h3 8 _ rfl),h4.keep k5 fun x h1 h2 h=>by omega,e93,by rw [cG,q94]; rfl⟩
  exact ((((k1.mono fun b x _ h => .inl h.1).tr k2 fun b x _ h=>h.elim (fun h => .inl h.1) .inr).tr k3 fun b x _ h => .inl h.1).tr k4 fun b x _ h => .inl h.1).tr k5 fun b x _ h => .inl h.1
 have fU4:∀ w4,Keep (fun b x=>b=U∧81≤x∧x < 93) w3 w4→∀ x,w4.frozen? ⟨U,x,none⟩=false:=fun w4 k4 x=>by rw [k4.frozen U x (aG hUl (aP k1.size (aP k2.size k3.size)))]; exact fU3 x
 obtain ⟨v94,q94⟩:=cU3 94 (by omega) (by omega)
 cases it with
 | true =>
  refine aY ?_
  refine ao (sq [0,1,2,3,4,5,6,7,8,9,10,11] (.eff 12 [] .done)) ?_
  refine aY ?_
  refine sM (w:=w3.drew) (a:=81) (fun x h1 h2=>cU3 x h1 (by omega)) fU3 c13 rfl rfl fun w4 k4 h4 => ?_
  have k4:Keep (fun b x=>b=U∧81≤x∧x < 93) w3 w4:=(Keep.refl _ w3).drew.trans k4
  have fU5:=fU4 w4 k4
  have q94':=k4.some q94 (by omega)
  refine dU @fU5 @q94' ?_
  exact fin w4 k4 h4
 | false =>
  refine aY ?_
  refine ao (sq [0,1,2,3,4,5,6,7,8,9,10,11,12] (.eff 13 [] .done)) ?_
  refine aY ?_
  refine sM (w:=w3.drew) (a:=81) (fun x h1 h2=>cU3 x h1 (by omega)) fU3 c13 rfl rfl fun w4 k4 h4 => ?_
  have k4:Keep (fun b x=>b=U∧81≤x∧x < 93) w3 w4:=(Keep.refl _ w3).drew.trans k4
  have fU5:=fU4 w4 k4
  have q94':=k4.some q94 (by omega)
  refine dU @fU5 @q94' ?_
  exact fin w4 k4 h4
end
end Go.Proofs
end
section
namespace Go.E
open Go Go.Sort Go.Proofs
def nZ (d:World) (C:Nat):Prop:=d.cell? ⟨C,0,none⟩=some (.func (.func 102) #[] #[])∧d.cell? ⟨C,1,none⟩=some (.func (.func 103) #[] #[])∧d.cell? ⟨C,5,none⟩=some .nilFunc
structure BfOk (d w:World) (Bf:Nat):Prop where
 c:∀ x,x=0∨x=1∨4≤x∧x≤8∨x=10→w.cell? ⟨Bf,x,none⟩=some (.slice none 0 0)
 c2:w.cell? ⟨Bf,2,none⟩=some .nilFunc
 c3:w.cell? ⟨Bf,3,none⟩=some (.bool false)
 c9:w.cell? ⟨Bf,9,none⟩=some .nilFunc
 f:∀ x,w.frozen? ⟨Bf,x,none⟩=false
 o:dA d Bf
structure UOk (d w:World) (U:Nat):Prop where
 c:∀ x,x < 95→∃ u,w.cell? ⟨U,x,none⟩=some u
 f:∀ x,w.frozen? ⟨U,x,none⟩=false
 o:dA d U
def lJ (n:Nat) (d w:World) (v:Value) (Ls:List Lvl):Prop:=Sl zS 1 d v Ls∧ItsAt n d w Ls
section
variable {d w d2 w2:World} {n:Nat} {v:Value} {Ls:List Lvl} {C U Bf:Nat}
theorem nZ.gr (h:nZ d C) (g:Gr d w d2 w2):nZ d2 C:=⟨g.i _ _ _ h.1,g.i _ _ _ h.2.1,g.i _ _ _ h.2.2⟩
theorem BfOk.gr (h:BfOk d w Bf) (g:Gr d w d2 w2):BfOk d2 w2 Bf:=⟨fun x hx=>g.x.cell (h.c x hx),g.x.cell h.c2,g.x.cell h.c3,g.x.cell h.c9,fun x=>by rw [g.x.frozen _ x (aE h.c2)]; exact h.f x,g.o _ (aE h.c2) h.o⟩
theorem UOk.lt (h:UOk d w U):U < w.heap.size:=by obtain ⟨u,hu⟩:=h.c 0 (by omega); exact aE hu
theorem UOk.gr (h:UOk d w U) (g:Gr d w d2 w2):UOk d2 w2 U:=⟨fun x hx=>by obtain ⟨u,hu⟩:=h.c x hx; exact ⟨u,g.x.cell hu⟩,fun x=>by rw [g.x.frozen _ x h.lt]; exact h.f x,g.o _ h.lt h.o⟩
theorem lJ.gr (h:lJ n d w v Ls) (g:Gr d w d2 w2):lJ n d2 w2 v Ls:=⟨h.1.inc zS.mono g.i,h.2.keep g.x (fun _ _ _ h=>h) g.i fun b hb ⟨x,hx,e⟩=>g.o b (by rw [← e]; exact (h.2.at_ x hx).2.2.2.2) hb⟩
structure RIn (Lv:List (List Sp)) (snap:Nat) (lo hi:Option Bytes):Prop where
 n10:Lv.length≤10
 snap:snap < 18446744073709551616
 wf:∀ L ∈ Lv,Wf L
 len:∀ L ∈ Lv,L.length < 1000∧∀ s ∈ L,s.s.length < 4294967296∧s.e.length < 4294967296∧s.ks.length < 5000∧s.ks≠[]∧∀ x ∈ s.ks,Cj x
 cd:∀ u,Cd (cW Lv.length (eN Lv) (bN Lv.flatten) u)
 bd:uv lo hi
structure UQ where
 it:Bool
 F:List K→List K
 ord:Int
 β:Type
 dec:DecidableEq β
 π:K→β
abbrev UQ.k (q:UQ) (U:Nat):UK:=⟨q.it,q.F,q.ord,q.β,q.dec,q.π,GN q.it,GO q.it U⟩
instance (q:UQ):DecidableEq q.β:=q.dec
structure QC (q:UQ) (snap:Nat) (Lv:List (List Sp)):Prop where
 ti:∀ {d:World} {U Bf C:Nat},Bf≠U→dA d U→dA d Bf→d.cell? ⟨C,1,none⟩=some (.func (.func 103) #[] #[])→∃ HK,TI d U (2+4) Bf HK ((q.k U).Z d U Bf C snap)∧∀ u,HK (cW Lv.length (eN Lv) (bN Lv.flatten) u)
 fs:∀ ks x,x ∈ q.F ks→x ∈ ks
 fl:∀ ks,(q.F ks).length≤ks.length
 meth:∀ {w:World} {U xb xo yb yo:Nat} {x y:Sp} {k:ae},w.cell? ⟨U,93,none⟩=some (.bool q.it)→dB q.ord w xb xo x→dB q.ord w yb yo y→x.ks≠[]→x.ks.length < 100000→(∀ w',bV w w'→k (.bool (decide (x.ks.map q.π=y.ks.map q.π))) w') →
  bm Tryz.prog (.iface (GN q.it) (GO q.it U)) "ShouldDefragment" #[.func (.func 103) #[] #[], .pointer (some ⟨xb, xo, none⟩), .pointer (some ⟨yb, yo, none⟩)] k w
abbrev qV (q:UQ) (Lv:List (List Sp)) (lo hi:Option Bytes):List Sp:=Vw q.π (GB (GL q.F Lv.length (eN Lv) (bN Lv.flatten)) lo hi)
abbrev Hh (snap:Nat):UQ:=⟨false,Tf snap,1,Bytes × Bytes,inferInstance,K.sv⟩
abbrev Cv (snap:Nat):UQ:=⟨true,If snap,0,K,inferInstance,id⟩
abbrev rV (Lv:List (List Sp)) (snap:Nat) (lo hi:Option Bytes):List Sp:=Vw K.sv (GB (GL (Tf snap) Lv.length (eN Lv) (bN Lv.flatten)) lo hi)
theorem Cw {snap:Nat} {Lv:List (List Sp)} (hs:snap < 18446744073709551616):QC (Hh snap) snap Lv where
 ti ne oU oB hC:=⟨_,Cg ne oU oB hC hs,fun _=>trivial⟩
 fs ks x h:=(mH.1 h).1
 fl:=zQ snap
 meth h hx hy hne hl hk:=zP h hx hy hne hl hk
theorem vl {snap:Nat} {Lv:List (List Sp)} (hs:snap < 18446744073709551616) (h9:∀ u,∀ x ∈ cW Lv.length (eN Lv) (bN Lv.flatten) u,ag x.tr=19→x.suf=[]):QC (Cv snap) snap Lv where
 ti ne oU oB hC:=⟨_,vJ ne oU oB hC hs,h9⟩
 fs ks x h:=tH (BJ.1 h)
 fl:=lY snap
 meth _ hx hy _ hl hk:=vH hx hy hl hk
theorem qi {Ls:List Lvl} {Lv:List (List Sp)} (h:Ls.map Lvl.L=Lv):Lf Ls.toArray=eN Lv:=by
 funext i
 unfold Lf eN
 rw [← h]
 rcases aH i Ls.length with hi | hi
 ·rw [aI Ls.toArray i (by simpa using hi),aI (Ls.map Lvl.L) i (by simpa using hi)]
  simp
 ·rw [getElem!_neg Ls.toArray i (by simpa using hi),getElem!_neg (Ls.map Lvl.L) i (by simpa using hi)]
  rfl
theorem GP {q:UQ} {Lv:List (List Sp)} {snap:Nat} {lo hi:Option Bytes} {lov hiv:Value} (r:RIn Lv snap lo hi) (qc:QC q snap Lv) (hC:nZ d C) (hB:BfOk d w Bf) (hU:UOk d w U) (hF:lJ n d w v Ls) (hne:Bf≠U) (hUn:U < n) (hBI:∀ x ∈ Ls,x.I≠Bf) (hm:Ls.map Lvl.L=Lv) (hlo:OB d lov lo) (hhi:OB d hiv hi) :
    UC (q.k U) d U Bf C Ls.toArray snap (bN Lv.flatten) lov hiv lo hi:=by
 have hn:Ls.toArray.size=Lv.length:=by rw [← hm]; simp
 have hat:∀ i,i < Ls.toArray.size→Ls.toArray[i]! ∈ Ls:=fun i hi=>by rw [aI Ls.toArray i hi]; simpa using aS (by simpa using hi)
 have hL:∀ i,i < Ls.toArray.size→Ls.toArray[i]!.L ∈ Lv:=fun i hi=>by rw [← hm]; exact List.mem_map_of_mem (hat i hi)
 have hI:=hF.2
 have hl:Lv.flatten.length≤Lv.length * 1000:=fE fun L hL=>fS (r.len L hL).1
 have hb:=ib Lv.flatten
 have h10:=r.n10
 refine ⟨⟨⟨hU.o,hB.o,hne,by omega,fun i hi=>(hI.at_ _ (hat i hi)).2.2.1,fun i hi => ?_,fun i hi=>hBI _ (hat i hi),fun i hi=>(hI.at_ _ (hat i hi)).2.1,fun i hi=>r.wf _ (hL i hi),fun i hi => ?_,fun i j hi hj hij => ?_,fun i hi j hj => ?_⟩,?_,?_,?_,fun u => ?_,fun x hx => ?_⟩,by omega,r.bd,hC.1,fun i hi sp hsp x hx => ?_,qc.fs,qc.fl,qc.meth⟩
 ·have:=(hI.at_ _ (hat i hi)).2.2.2.1; omega
 ·exact Nat.lt_trans (r.len _ (hL i hi)).1 (by omega)
 ·have:=bL.1 hI.ne
  rw [aI Ls.toArray i hi,aI Ls.toArray j hj]
  simp only [List.getElem_toArray]
  rcases aH i j with h | h
  ·exact this i j (by simpa using hi) (by simpa using hj) h
  ·exact (this j i (by simpa using hj) (by simpa using hi) (by omega)).symm
 ·rw [aI _ j hj]
  exact ((r.len _ (hL i hi)).2 _ (aS hj)).2.2.2.1
 ·rw [hn,qi hm]; exact jU r.wf
 ·rw [hn,qi hm]; exact qc.ti hne hU.o hB.o hC.2.1
 ·rw [hn,qi hm]; exact r.cd
 ·rw [hn,qi hm]
  exact Nat.lt_of_le_of_lt (vZ (m:=5000) (fun L hL s hs=>fS ((r.len L hL).2 s hs).2.2.1) _ u) (by omega)
 ·obtain ⟨s,hs,h⟩:=((mN _).2 x).1 hx
  obtain ⟨L,hL,hs⟩:=dG.1 hs
  have:=(r.len L hL).2 s hs
  rcases h with rfl | rfl
  ·exact this.1
  ·exact this.2.1
 ·exact (((r.len _ (hL i hi)).2 sp hsp).2.2.2.2 x hx)
end
end Go.E
end
section
namespace Go.E
open Go Go.Sort Go.Proofs
theorem cQ {c n:Nat} {g:Nat}:¬ (Value.slice none n c).ownBlock=some g:=by simp [Value.ownBlock]
abbrev Hi (q:UK) (d:World) (U Bf C snap:Nat) (Ls:List Lvl):Nat→Nat→Prop:=bT U (uM q d U Bf C snap Ls.toArray)
theorem Bg {q:UQ} {d w:World} {n U Bf C snap:Nat} {Ls:List Lvl} {Lv:List (List Sp)} {lov hiv v:Value} {lo hi:Option Bytes} {B:List Bytes} (hB:B=bN Lv.flatten) (hinc:cH d w) (uc:UC (q.k U) d U Bf C Ls.toArray snap B lov hiv lo hi) (m:MI0 w U 2 Bf 221 (.pointer (some ⟨U,0,none⟩)) Ls) (u:UI0 w U Bf C snap q.it (GN q.it) (GO q.it U) lov hiv) (hF:lJ n d w v Ls) (hne:Bf≠U)
    (fU:∀ x,w.frozen? ⟨U,x,none⟩=false) (fB:∀ x,w.frozen? ⟨Bf,x,none⟩=false) (cB:∀ x,x=0∨5≤x∧x≤8∨x=10→w.cell? ⟨Bf,x,none⟩=some (.slice none 0 0)) (c3:w.cell? ⟨Bf,3,none⟩=some (.bool false)) (c9:w.cell? ⟨Bf,9,none⟩=some .nilFunc) (hlo:OB d lov lo) (hhi:OB d hiv hi) :
    Gl d (q.k U).Y U Bf C U 6 226 (.pointer (some ⟨U,72,none⟩)) (GB (uG (q.k U) Ls.toArray B) lo hi) (Hi (q.k U) d U Bf C snap Ls) (uD (q.k U) d U Bf C snap Ls.toArray B lov hiv lo hi) w (dN (q.k U).Y U Bf (Hi (q.k U) d U Bf C snap Ls) (fun _=>False) (fun _=>False)) (-2):=by
 have hat:∀ i,i < Ls.toArray.size→Ls[i]? = some Ls.toArray[i]! := fun i hi=>by rw [aI Ls.toArray i hi,List.getElem_toArray]; exact aC _
 have hS:(fun b=>(Value.slice none 0 0).ownBlock=some b)=fun _:Nat=>False:=by
  funext b
  simp [Value.ownBlock]
 have mi:uW (q.k U) d U Bf C snap Ls.toArray B w (fun _=>False) (-1):=by
  refine ⟨0,fun _ => -1,.slice none 0 0,.slice none 0 0,fun _=>False,[],[],⟨⟨m.u2,by have:=m.b1; simpa using this,fun i hi => ?_,m.u10,fU,fB,hinc⟩,⟨m.b2,⟨_,c3⟩,⟨0,by omega,m.b4⟩,fun x h1 h2=>m.it x (by omega) (by omega)⟩,
   ⟨⟨_,_,_,m.u3⟩,⟨_,_,_,m.u4⟩,m.u5,⟨_,m.u6⟩,⟨_,m.u7⟩,⟨_,m.u8⟩,⟨_,m.u9⟩,⟨_,m.u11⟩⟩,
   ⟨⟨cB 0 (by omega),gP,by simp⟩,⟨u.u0,u.u1,u.u93,u.u94,⟨_,c9⟩,.slice none 0 0,[],⟨cB 10 (by omega),gP,by simp⟩,fun g h=>(cQ h).elim,hS.symm⟩,cB 5 (by omega),gP,fun g h=>(cQ h).elim,fun g h=>(cQ h).elim,fun g h=>h.elim,fun g h=>(cQ h).elim,fun g h=>h.elim,fun g h=>h.elim,fun g h=>h.elim⟩⟩,
   aM _,.inr (.inr ⟨rfl,rfl⟩),fun h=>by omega,.inr (.inr ⟨m.u11,fun i hi _ => ?_,rfl,m.b4⟩)⟩
  ·obtain ⟨a,b,c,e⟩:=m.lv i _ (hat i hi)
   have hI:=hF.2.at_ _ (aL (hat i hi))
   exact ⟨a,by rw [gB (by unfold dH; omega)]; exact b,⟨_,c,rfl,fun h=>by unfold dH at h; omega⟩,⟨_,e,rfl,fun h=>by unfold dH at h; omega⟩,hI.1,by omega,fU⟩
  ·show (-1:Int)+1=((cp (Lf Ls.toArray) B 0 i:Nat):Int)
   unfold cp
   rw [if_pos rfl]
   rfl
 refine ⟨fun _=>False,fun _=>False,⟨fun _ _=>False,.slice none 0 0,.slice none 0 0,.slice none 0 0,[],[],0,[],none,0,-2,⟨⟨-1,none,0,mi,⟨u.b0,u.b1,u.b2,u.b4,u.b5,u.b6,u.b8,fU,hlo,hhi⟩,.inl rfl⟩,
  ⟨u.d.d0,u.d.d1,u.d.d2,u.d.d3,u.d.d4,u.d.d5,⟨_,u.d.d6⟩,⟨_,u.d.d7⟩,⟨_,u.d.d8⟩,⟨_,u.d.d9⟩,u.d.d10,⟨_,_,u.d.d11,rfl,rfl⟩,fU,fB⟩,
  ⟨cB 6 (by omega),gP,⟨⟨none,rfl⟩,by omega⟩,cB 7 (by omega),gP,cB 8 (by omega),gP,fun g h=>(cQ h).elim,fun g h=>(cQ h).elim,fun g h=>(cQ h).elim,fun g h=>(cQ h).elim,fun g h=>(cQ h).elim,fun g h=>(cQ h).elim,fun g h=>h.elim,fun b x h=>h.elim,fun g x h=>(cQ h).elim,fun g x h=>(cQ h).elim,fun g x h=>(cQ h).elim⟩⟩,.inl rfl⟩,rfl⟩
end Go.E
end
section
namespace Go.E
open Go Go.Sort Go.Proofs Go.Proofs.Tryz
def Bh (lo hi:Option Bytes) (steps:List (Nat × Bytes)):Prop:=∀ x ∈ steps,(x.1=0→lo=none)∧(x.1=1→hi=none)∧(x.1=4∨x.1=5→uw lo hi x.2)∧x.2.length≤4294967296
end Go.E
namespace Go.Proofs
open Go Go.E Go.Sort Go.Proofs.Tryz
section
variable {k:ae} {d w:World}
set_option maxHeartbeats 4000000 in
theorem vm {sv:Value} {Lv:List (List Sp)} {snap:Nat} {kl kh:Bytes} {bl bh:Bool} {steps:List (Nat × Bytes)} {q:UQ} {KS:List K→List K→Prop} (hKL:∀ a b,KS a b→a.length=b.length) (hKS:∀ ks b,(q.F ks).map q.π=b.map q.π→KS (q.F ks) b) (r:RIn Lv snap (kB kl bl) (kB kh bh)) (qc:QC q snap Lv) (hs:Sl B5 2 d sv steps)
    (hst:Bh (kB kl bl) (kB kh bh) steps) (hsl:steps.length < 1000000) {d5 w5:World} {C U Bf:Nat} {lov hiv fv:Value} {Ls:List Lvl} {n:Nat} {K:ae} (g:Gr d w d5 w5) (hU:UOk d5 w5 U) (hC:nZ d5 C) (hL:OB d5 lov (kB kl bl)) (hH:OB d5 hiv (kB kh bh)) (hB:BfOk d5 w5 Bf) (hF:lJ n d5 w5 fv Ls) (hne:Bf≠U) (hUn:U < n) (hU0:w.heap.size≤U) (hB0:w.heap.size≤Bf) (hBI:∀ x ∈ Ls,x.I≠Bf) (hm:Ls.map Lvl.L=Lv)
    (hK:∀ w6,(∀ K2:ae,(∀ d2 w2 v l,Gr d w d2 w2→Sl wz 5 d2 v l→Pw (qS (qV q Lv (kB kl bl) (kB kh bh)) KS) (tF (qV q Lv (kB kl bl) (kB kh bh)) (-2) false 0 steps) l→K2 v w2)→aU prog 64 #[.iface 229 (.pointer (some ⟨U,81,none⟩)),sv] K2 w6)→K (.iface 229 (.pointer (some ⟨U,81,none⟩))) w6) :
    aU prog 65 #[.pointer (some ⟨U,0,none⟩),.pointer (some ⟨C,0,none⟩),.int .u64 snap,lov,hiv,.pointer none,.pointer none,.bool q.it,.pointer (some ⟨Bf,0,none⟩),fv] K w5:=by
 have hn:Ls.length≤10:=by have:=r.n10; rw [← hm,bK] at this; exact this
 refine Be hF.1 g.j hU.o hB.o hn hne hU.c hU.f (hB.c 1 (by omega)) hB.c2 (hB.c 4 (by omega)) hB.f hL hH hC.1 hC.2.1 hC.2.2 fun w6 k6 m6 u6=>hK w6 fun K2 hK2 => ?_
 have uc:=GP r qc hC hB hU hF hne hUn hBI hm hL hH
 have hd6:cH d5 w6:=g.j.keep k6 fun b x h=>by
  rcases h with rfl | ⟨rfl,_⟩
  ·exact hU.o x
  ·exact hB.o x
 have fU:∀ x,w6.frozen? ⟨U,x,none⟩=false:=fun x=>by rw [k6.frozen U x hU.lt]; exact hU.f x
 have fB:∀ x,w6.frozen? ⟨Bf,x,none⟩=false:=fun x=>by rw [k6.frozen Bf x (aE hB.c2)]; exact hB.f x
 have cB:∀ x u,x≠1→x≠2→x≠4→w5.cell? ⟨Bf,x,none⟩=some u→w6.cell? ⟨Bf,x,none⟩=some u:=fun x u h1 h2 h3 hu=>k6.some hu fun h=>by
  rcases h with h | ⟨_,h⟩
  ·exact hne h
  ·omega
 have hF6:lJ n d5 w6 fv Ls:=⟨hF.1,hF.2.keep k6 (fun x hx o h=>by
  rcases h with h | ⟨h,_⟩
  ·have:=(hF.2.at_ x hx).2.2.2.1; omega
  ·exact hBI x hx h) (cH.refl _) fun b h _=>h⟩
 have h0:=Bg rfl hd6 uc m6 u6 hF6 hne fU fB (fun x hx=>cB x _ (by omega) (by omega) (by omega) (hB.c x (by omega))) (cB 3 _ (by omega) (by omega) (by omega) hB.c3) (cB 9 _ (by omega) (by omega) (by omega) hB.c9) hL hH
 have eG:GB (uG (q.k U) Ls.toArray (bN Lv.flatten)) (kB kl bl) (kB kh bh)=GB (GL q.F Lv.length (eN Lv) (bN Lv.flatten)) (kB kl bl) (kB kh bh):=by
  unfold uG
  rw [qi hm]
  congr 2
  rw [← hm]; simp
 refine rK (uc.wi hKL hKS) h0 (hs.inc B5.mono g.i) (fun x hx => ?_) hsl fun a w7 v l b1 b2 b3 b4 b5 b6 => ?_
 ·obtain ⟨s1,s2,s3,s4⟩:=hst x hx
  exact ⟨fun h=>⟨trivial,s1 h⟩,fun h=>⟨trivial,s2 h⟩,fun h=>⟨trivial,s3 h⟩,s4⟩
 ·have hx:bV w w6:=g.x.tr k6 fun b o hb h=>by
    rcases h with h | ⟨h,_⟩ <;> omega
  refine hK2 a w7 v l ⟨hx.tr b4 fun b o hb h => ?_,g.i.trans b1,b2,fun b hb ho=>b3 b (aG hb hx.size) (g.o b hb ho)⟩ b5 ?_
  ·rcases h with h | h | ⟨y,h⟩ | h | h
   ·omega
   ·omega
   ·rcases h with (⟨h,_⟩ | ⟨h,_⟩ | ⟨i,hi,h⟩ | ⟨h,_⟩ | ⟨h,_⟩) | ⟨h,_⟩
    ·omega
    ·omega
    ·have hat:Ls.toArray[i]! ∈ Ls:=by rw [aI Ls.toArray i hi]; simpa using aS (by simpa using hi)
     have:=(hF.2.at_ _ hat).2.2.2.1
     omega
    ·omega
    ·omega
    ·omega
   ·exact h
   ·exact h
  ·have eV:uV (q.k U) Ls.toArray (bN Lv.flatten) (kB kl bl) (kB kh bh)=qV q Lv (kB kl bl) (kB kh bh):=congrArg (Vw q.π) eG
   rw [← eV]; exact b6
set_option maxHeartbeats 4000000 in
theorem rP {lv sv:Value} {Lv:List (List Sp)} {snap:Nat} {kl kh:Bytes} {bl bh:Bool} {steps:List (Nat × Bytes)} (hv:Sl kO 1 d lv Lv) (hs:Sl B5 2 d sv steps) (hinc:cH d w) (r:RIn Lv snap (kB kl bl) (kB kh bh)) (hkl:kl.length≤4294967296) (hkh:kh.length≤4294967296)
    (hst:Bh (kB kl bl) (kB kh bh) steps) (hsl:steps.length < 1000000)
    (hk:∀ d2 w2 v l,Gr d w d2 w2→Sl wz 5 d2 v l→Pw (qS (rV Lv snap (kB kl bl) (kB kh bh)) (GF qT)) (tF (rV Lv snap (kB kl bl) (kB kh bh)) (-2) false 0 steps) l→k v w2) :
    aU prog 18 #[lv,.int .u64 snap,.agg #[.string ⟨kl.toArray⟩,.bool bl],.agg #[.string ⟨kh.toArray⟩,.bool bh],sv] k w:=by
 have fin:=fun {d5 w5:World} {C U Bf:Nat} {lov hiv fv:Value} {Ls:List Lvl} {n:Nat} {K:ae}=>vm (w:=w) (q:=Hh snap) (KS:=GF qT) Ci (fun ks b=>EZ snap ks b) r (Cw r.snap) hs hst hsl (d5:=d5) (w5:=w5) (C:=C) (U:=U) (Bf:=Bf) (lov:=lov) (hiv:=hiv) (fv:=fv) (Ls:=Ls) (n:=n) (K:=K)
 obtain ⟨la,lc,rfl⟩:=hv.form
 obtain ⟨sa,sc,rfl⟩:=hs.form
 refine aW [.tmp 10] func18 ?_
 refine aY ?_
 refine ao (sq [1] (.read 2 (.read 4 (sq [7,10] (.alt (.eff 0 [2,4] (.alt (.eff 3 [4] (.alt (.eff 5 [] (.alt (.eff 6 [2,4] (.eff 8 [] (.eff 9 [] (.eff 11 [] (sq [12] .done))))) (.eff 8 [] (.eff 6 [2,4] (.eff 9 [] (.eff 11 [] (sq [12] .done))))))) (.eff 6 [2,4] (.eff 5 [] (.eff 8 [] (.eff 9 [] (.eff 11 [] (sq [12] .done)))))))) (.eff 6 [2,4] (.eff 3 [4] (.eff 5 [] (.eff 8 [] (.eff 9 [] (.eff 11 [] (sq [12] .done))))))))) (.eff 6 [2,4] (.eff 0 [2,4] (.eff 3 [4] (.eff 5 [] (.eff 8 [] (.eff 9 [] (.eff 11 [] (sq [12] .done))))))))))))) ?_
 generalize hO:Obj.cells _ 154=O
 obtain ⟨wc,hw1⟩:∃ wc,wc=(((w.alloc (.cells #[.string ⟨kl.toArray⟩,.bool bl] 37)).alloc (.cells #[.string ⟨kh.toArray⟩,.bool bh] 37)).alloc O).drew:=⟨_,rfl⟩
 rw [← hw1]
 have x1:bV w wc:=by rw [hw1]; exact Keep.drew (((aK _).trans (aK _)).trans (aK _))
 have hz:w.heap.size+3≤wc.heap.size:=by rw [hw1,World.size_drew,World.size_alloc,World.size_alloc,World.size_alloc]; omega
 obtain ⟨dc,hdc⟩:∃ dc,dc=d:=⟨_,rfl⟩
 have t:Gr d w dc wc:=by rw [hdc]; exact Gr.ext hinc x1
 have p0:wc.cell? ⟨w.heap.size,0,none⟩=some (.string ⟨kl.toArray⟩):=by rw [hw1]; exact bU @aA
 have p1:wc.cell? ⟨w.heap.size,1,none⟩=some (.bool bl):=by rw [hw1]; exact bU @aA
 have q0:wc.cell? ⟨w.heap.size+1,0,none⟩=some (.string ⟨kh.toArray⟩):=by rw [hw1]; exact bU @aA
 have q1:wc.cell? ⟨w.heap.size+1,1,none⟩=some (.bool bh):=by rw [hw1]; exact bU @aA
 have hU:UOk dc wc (w.heap.size+2):=by
  refine ⟨fun x hx => ?_,fun x => ?_,by rw [hdc]; exact hinc.out (by omega)⟩
  rotate_left
  ·have key:∀ (v:World) (c:Array Value) (t:TypeId),v.heap.size=w.heap.size+2→(v.alloc (.cells c t)).drew.frozen? ⟨w.heap.size+2,x,none⟩=false:=fun v c t hv=>by rw [← hv]; exact World.frozen?_alloc_new v c t x
   rw [hw1,← hO]
   exact key _ _ _ (by rw [World.size_alloc,World.size_alloc])
  rw [hw1,← hO]
  refine bP @aA ?_
  exact ⟨_,aC (show x < 95 from hx)⟩
 have hlen:∀ x ∈ Lv,x.length < 1000000∧∀ s ∈ x,BK s:=fun x hx=>by
  obtain ⟨a,b⟩:=r.len x hx
  refine ⟨by omega,fun s hs => ?_⟩
  obtain ⟨b1,b2,b3,_,b5⟩:=b s hs
  exact ⟨by omega,by omega,by omega,b5⟩
 clear hw1 x1 hdc
 refine eI @p0 @p1 @q0 @q1 ?_
 refine ⟨?_,?_⟩
 ·
  refine ia t.j fun dc wc C g _ hC0 hC1 hC5 => ?_
  have t:=t.trans g
  have hz:=aP hz g.x.size
  have p0:=g.x.cell p0
  have p1:=g.x.cell p1
  have q0:=g.x.cell q0
  have q1:=g.x.cell q1
  have hU:=hU.gr g
  (try have hC:=hC.gr g)
  (try have hL:=OB.inc hL g.i)
  (try have hH:=OB.inc hH g.i)
  (try have hB:=hB.gr g)
  (try have hBl:=aG hBl g.x.size)
  (try have hF:=hF.gr g)
  have hC:nZ dc C:=⟨hC0,hC1,hC5⟩
  refine eI @p0 @p1 @q0 @q1 ?_
  refine ⟨?_,?_⟩
  ·
   refine bt t.j hkl fun dc wc lov g hLn => ?_
   have t:=t.trans g
   have hz:=aP hz g.x.size
   have p0:=g.x.cell p0
   have p1:=g.x.cell p1
   have q0:=g.x.cell q0
   have q1:=g.x.cell q1
   have hU:=hU.gr g
   (try have hC:=hC.gr g)
   (try have hL:=OB.inc hL g.i)
   (try have hH:=OB.inc hH g.i)
   (try have hB:=hB.gr g)
   (try have hBl:=aG hBl g.x.size)
   (try have hF:=hF.gr g)
   have hL:=hLn
   refine eI @p0 @p1 @q0 @q1 ?_
   refine ⟨?_,?_⟩
   ·
    refine bt t.j hkh fun dc wc hiv g hHn => ?_
    have t:=t.trans g
    have hz:=aP hz g.x.size
    have p0:=g.x.cell p0
    have p1:=g.x.cell p1
    have q0:=g.x.cell q0
    have q1:=g.x.cell q1
    have hU:=hU.gr g
    (try have hC:=hC.gr g)
    (try have hL:=OB.inc hL g.i)
    (try have hH:=OB.inc hH g.i)
    (try have hB:=hB.gr g)
    (try have hBl:=aG hBl g.x.size)
    (try have hF:=hF.gr g)
    have hH:=hHn
    refine eI @p0 @p1 @q0 @q1 ?_
    refine ⟨?_,?_⟩
    ·
     generalize hO2:Obj.cells _ 172=O2
     obtain ⟨Bf,hBe⟩:∃ b,b=wc.heap.size:=⟨_,rfl⟩
     (try rw [← hBe])
     have hBU:w.heap.size+3≤Bf:=by omega
     have hBn:BfOk dc (wc.alloc O2) Bf:=by
      rw [hBe,← hO2]
      exact ⟨fun x hx=>by (rcases hx with rfl | rfl | hx | rfl); exact aA (aD _) (by omega); exact aA (aD _) (by omega); (have h:x=4∨x=5∨x=6∨x=7∨x=8:=by omega); (rcases h with rfl | rfl | rfl | rfl | rfl <;> exact aA (aD _) (by omega)); exact aA (aD _) (by omega),aA (aD _) (by omega),aA (aD _) (by omega),aA (aD _) (by omega),fun x=>by simp (disch:=first | exact dZ | fail) only [go_sem],t.j.out (aD _)⟩
     have g:Gr dc wc dc (wc.alloc O2):=Gr.ext t.j (aK _)
     (try have hBI:∀ x ∈ Ls,x.I≠Bf:=fun x hx=>by have:=(hF.2.at_ x hx).2.2.2.2; omega)
     have hBl:Bf < (wc.alloc O2).heap.size:=by rw [World.size_alloc]; omega
     have t:=t.trans g
     have hz:=aP hz g.x.size
     have p0:=g.x.cell p0
     have p1:=g.x.cell p1
     have q0:=g.x.cell q0
     have q1:=g.x.cell q1
     have hU:=hU.gr g
     (try have hC:=hC.gr g)
     (try have hL:=OB.inc hL g.i)
     (try have hH:=OB.inc hH g.i)
     (try have hB:=hB.gr g)
     (try have hBl:=aG hBl g.x.size)
     (try have hF:=hF.gr g)
     have hB:=hBn
     obtain ⟨wd,hwd⟩:∃ wd,wd=wc.alloc O2:=⟨_,rfl⟩
     rw [← hwd] at t hz p0 p1 q0 q1 hU hB hBl ⊢
     (try rw [← hwd] at hF)
     obtain ⟨nF,hnF⟩:∃ n,n=wd.heap.size:=⟨_,rfl⟩
     have hUn:w.heap.size+2 < nF:=by omega
     refine cw (hv.inc kO.mono t.i) (by have:=r.n10; omega) hlen t.j fun dc wc fv Ls g f1 f2 hm => ?_
     rw [← hnF] at f2
     (try have hBl:Bf < nF:=by omega)
     (try have hBI:∀ x ∈ Ls,x.I≠Bf:=fun x hx=>by have:=(f2.at_ x hx).2.2.2.1; omega)
     have t:=t.trans g
     have hz:=aP hz g.x.size
     have p0:=g.x.cell p0
     have p1:=g.x.cell p1
     have q0:=g.x.cell q0
     have q1:=g.x.cell q1
     have hU:=hU.gr g
     (try have hC:=hC.gr g)
     (try have hL:=OB.inc hL g.i)
     (try have hH:=OB.inc hH g.i)
     (try have hB:=hB.gr g)
     (try have hBl:=aG hBl g.x.size)
     (try have hF:=hF.gr g)
     have hF:lJ nF dc wc fv Ls:=⟨f1,f2⟩
     refine eI @p0 @p1 @q0 @q1 ?_
     refine fin t hU hC hL hH hB hF (by omega) hUn (by omega) (by omega) hBI hm fun w6 hw6 => ?_
     refine aY ?_
     refine hw6 _ fun d8 w8 v l g8 s8 p8 => ?_
     refine aY ?_
     exact hk d8 w8 v l g8 s8 p8
    ·
     obtain ⟨nF,hnF⟩:∃ n,n=wc.heap.size:=⟨_,rfl⟩
     have hUn:w.heap.size+2 < nF:=by omega
     refine cw (hv.inc kO.mono t.i) (by have:=r.n10; omega) hlen t.j fun dc wc fv Ls g f1 f2 hm => ?_
     rw [← hnF] at f2
     (try have hBl:Bf < nF:=by omega)
     (try have hBI:∀ x ∈ Ls,x.I≠Bf:=fun x hx=>by have:=(f2.at_ x hx).2.2.2.1; omega)
     have t:=t.trans g
     have hz:=aP hz g.x.size
     have p0:=g.x.cell p0
     have p1:=g.x.cell p1
     have q0:=g.x.cell q0
     have q1:=g.x.cell q1
     have hU:=hU.gr g
     (try have hC:=hC.gr g)
     (try have hL:=OB.inc hL g.i)
     (try have hH:=OB.inc hH g.i)
     (try have hB:=hB.gr g)
     (try have hBl:=aG hBl g.x.size)
     (try have hF:=hF.gr g)
     have hF:lJ nF dc wc fv Ls:=⟨f1,f2⟩
     refine eI @p0 @p1 @q0 @q1 ?_
     generalize hO2:Obj.cells _ 172=O2
     obtain ⟨Bf,hBe⟩:∃ b,b=wc.heap.size:=⟨_,rfl⟩
     (try rw [← hBe])
     have hBU:w.heap.size+3≤Bf:=by omega
     have hBn:BfOk dc (wc.alloc O2) Bf:=by
      rw [hBe,← hO2]
      exact ⟨fun x hx=>by (rcases hx with rfl | rfl | hx | rfl); exact aA (aD _) (by omega); exact aA (aD _) (by omega); (have h:x=4∨x=5∨x=6∨x=7∨x=8:=by omega); (rcases h with rfl | rfl | rfl | rfl | rfl <;> exact aA (aD _) (by omega)); exact aA (aD _) (by omega),aA (aD _) (by omega),aA (aD _) (by omega),aA (aD _) (by omega),fun x=>by simp (disch:=first | exact dZ | fail) only [go_sem],t.j.out (aD _)⟩
     have g:Gr dc wc dc (wc.alloc O2):=Gr.ext t.j (aK _)
     (try have hBI:∀ x ∈ Ls,x.I≠Bf:=fun x hx=>by have:=(hF.2.at_ x hx).2.2.2.2; omega)
     have hBl:Bf < (wc.alloc O2).heap.size:=by rw [World.size_alloc]; omega
     have t:=t.trans g
     have hz:=aP hz g.x.size
     have p0:=g.x.cell p0
     have p1:=g.x.cell p1
     have q0:=g.x.cell q0
     have q1:=g.x.cell q1
     have hU:=hU.gr g
     (try have hC:=hC.gr g)
     (try have hL:=OB.inc hL g.i)
     (try have hH:=OB.inc hH g.i)
     (try have hB:=hB.gr g)
     (try have hBl:=aG hBl g.x.size)
     (try have hF:=hF.gr g)
     have hB:=hBn
     obtain ⟨wd,hwd⟩:∃ wd,wd=wc.alloc O2:=⟨_,rfl⟩
     rw [← hwd] at t hz p0 p1 q0 q1 hU hB hBl ⊢
     (try rw [← hwd] at hF)
     refine fin t hU hC hL hH hB hF (by omega) hUn (by omega) (by omega) hBI hm fun w6 hw6 => ?_
     refine aY ?_
     refine hw6 _ fun d8 w8 v l g8 s8 p8 => ?_
     refine aY ?_
     exact hk d8 w8 v l g8 s8 p8
   ·
    generalize hO2:Obj.cells _ 172=O2
    obtain ⟨Bf,hBe⟩:∃ b,b=wc.heap.size:=⟨_,rfl⟩
    (try rw [← hBe])
    have hBU:w.heap.size+3≤Bf:=by omega
    have hBn:BfOk dc (wc.alloc O2) Bf:=by
     rw [hBe,← hO2]
     exact ⟨fun x hx=>by (rcases hx with rfl | rfl | hx | rfl); exact aA (aD _) (by omega); exact aA (aD _) (by omega); (have h:x=4∨x=5∨x=6∨x=7∨x=8:=by omega); (rcases h with rfl | rfl | rfl | rfl | rfl <;> exact aA (aD _) (by omega)); exact aA (aD _) (by omega),aA (aD _) (by omega),aA (aD _) (by omega),aA (aD _) (by omega),fun x=>by simp (disch:=first | exact dZ | fail) only [go_sem],t.j.out (aD _)⟩
    have g:Gr dc wc dc (wc.alloc O2):=Gr.ext t.j (aK _)
    (try have hBI:∀ x ∈ Ls,x.I≠Bf:=fun x hx=>by have:=(hF.2.at_ x hx).2.2.2.2; omega)
    have hBl:Bf < (wc.alloc O2).heap.size:=by rw [World.size_alloc]; omega
    have t:=t.trans g
    have hz:=aP hz g.x.size
    have p0:=g.x.cell p0
    have p1:=g.x.cell p1
    have q0:=g.x.cell q0
    have q1:=g.x.cell q1
    have hU:=hU.gr g
    (try have hC:=hC.gr g)
    (try have hL:=OB.inc hL g.i)
    (try have hH:=OB.inc hH g.i)
    (try have hB:=hB.gr g)
    (try have hBl:=aG hBl g.x.size)
    (try have hF:=hF.gr g)
    have hB:=hBn
    obtain ⟨wd,hwd⟩:∃ wd,wd=wc.alloc O2:=⟨_,rfl⟩
    rw [← hwd] at t hz p0 p1 q0 q1 hU hB hBl ⊢
    (try rw [← hwd] at hF)
    refine bt t.j hkh fun dc wc hiv g hHn => ?_
    have t:=t.trans g
    have hz:=aP hz g.x.size
    have p0:=g.x.cell p0
    have p1:=g.x.cell p1
    have q0:=g.x.cell q0
    have q1:=g.x.cell q1
    have hU:=hU.gr g
    (try have hC:=hC.gr g)
    (try have hL:=OB.inc hL g.i)
    (try have hH:=OB.inc hH g.i)
    (try have hB:=hB.gr g)
    (try have hBl:=aG hBl g.x.size)
    (try have hF:=hF.gr g)
    have hH:=hHn
    refine eI @p0 @p1 @q0 @q1 ?_
    obtain ⟨nF,hnF⟩:∃ n,n=wc.heap.size:=⟨_,rfl⟩
    have hUn:w.heap.size+2 < nF:=by omega
    refine cw (hv.inc kO.mono t.i) (by have:=r.n10; omega) hlen t.j fun dc wc fv Ls g f1 f2 hm => ?_
    rw [← hnF] at f2
    (try have hBl:Bf < nF:=by omega)
    (try have hBI:∀ x ∈ Ls,x.I≠Bf:=fun x hx=>by have:=(f2.at_ x hx).2.2.2.1; omega)
    have t:=t.trans g
    have hz:=aP hz g.x.size
    have p0:=g.x.cell p0
    have p1:=g.x.cell p1
    have q0:=g.x.cell q0
    have q1:=g.x.cell q1
    have hU:=hU.gr g
    (try have hC:=hC.gr g)
    (try have hL:=OB.inc hL g.i)
    (try have hH:=OB.inc hH g.i)
    (try have hB:=hB.gr g)
    (try have hBl:=aG hBl g.x.size)
    (try have hF:=hF.gr g)
    have hF:lJ nF dc wc fv Ls:=⟨f1,f2⟩
    refine eI @p0 @p1 @q0 @q1 ?_
    refine fin t hU hC hL hH hB hF (by omega) hUn (by omega) (by omega) hBI hm fun w6 hw6 => ?_
    refine aY ?_
    refine hw6 _ fun d8 w8 v l g8 s8 p8 => ?_
    refine aY ?_
    exact hk d8 w8 v l g8 s8 p8
  ·
   generalize hO2:Obj.cells _ 172=O2
   obtain ⟨Bf,hBe⟩:∃ b,b=wc.heap.size:=⟨_,rfl⟩
   (try rw [← hBe])
   have hBU:w.heap.size+3≤Bf:=by omega
   have hBn:BfOk dc (wc.alloc O2) Bf:=by
    rw [hBe,← hO2]
    exact ⟨fun x hx=>by (rcases hx with rfl | rfl | hx | rfl); exact aA (aD _) (by omega); exact aA (aD _) (by omega); (have h:x=4∨x=5∨x=6∨x=7∨x=8:=by omega); (rcases h with rfl | rfl | rfl | rfl | rfl <;> exact aA (aD _) (by omega)); exact aA (aD _) (by omega),aA (aD _) (by omega),aA (aD _) (by omega),aA (aD _) (by omega),fun x=>by simp (disch:=first | exact dZ | fail) only [go_sem],t.j.out (aD _)⟩
   have g:Gr dc wc dc (wc.alloc O2):=Gr.ext t.j (aK _)
   (try have hBI:∀ x ∈ Ls,x.I≠Bf:=fun x hx=>by have:=(hF.2.at_ x hx).2.2.2.2; omega)
   have hBl:Bf < (wc.alloc O2).heap.size:=by rw [World.size_alloc]; omega
   have t:=t.trans g
   have hz:=aP hz g.x.size
   have p0:=g.x.cell p0
   have p1:=g.x.cell p1
   have q0:=g.x.cell q0
   have q1:=g.x.cell q1
   have hU:=hU.gr g
   (try have hC:=hC.gr g)
   (try have hL:=OB.inc hL g.i)
   (try have hH:=OB.inc hH g.i)
   (try have hB:=hB.gr g)
   (try have hBl:=aG hBl g.x.size)
   (try have hF:=hF.gr g)
   have hB:=hBn
   obtain ⟨wd,hwd⟩:∃ wd,wd=wc.alloc O2:=⟨_,rfl⟩
   rw [← hwd] at t hz p0 p1 q0 q1 hU hB hBl ⊢
   (try rw [← hwd] at hF)
   refine bt t.j hkl fun dc wc lov g hLn => ?_
   have t:=t.trans g
   have hz:=aP hz g.x.size
   have p0:=g.x.cell p0
   have p1:=g.x.cell p1
   have q0:=g.x.cell q0
   have q1:=g.x.cell q1
   have hU:=hU.gr g
   (try have hC:=hC.gr g)
   (try have hL:=OB.inc hL g.i)
   (try have hH:=OB.inc hH g.i)
   (try have hB:=hB.gr g)
   (try have hBl:=aG hBl g.x.size)
   (try have hF:=hF.gr g)
   have hL:=hLn
   refine eI @p0 @p1 @q0 @q1 ?_
   refine bt t.j hkh fun dc wc hiv g hHn => ?_
   have t:=t.trans g
   have hz:=aP hz g.x.size
   have p0:=g.x.cell p0
   have p1:=g.x.cell p1
   have q0:=g.x.cell q0
   have q1:=g.x.cell q1
   have hU:=hU.gr g
   (try have hC:=hC.gr g)
   (try have hL:=OB.inc hL g.i)
   (try have hH:=OB.inc hH g.i)
   (try have hB:=hB.gr g)
   (try have hBl:=aG hBl g.x.size)
   (try have hF:=hF.gr g)
   have hH:=hHn
   refine eI @p0 @p1 @q0 @q1 ?_
   obtain ⟨nF,hnF⟩:∃ n,n=wc.heap.size:=⟨_,rfl⟩
   have hUn:w.heap.size+2 < nF:=by omega
   refine cw (hv.inc kO.mono t.i) (by have:=r.n10; omega) hlen t.j fun dc wc fv Ls g f1 f2 hm => ?_
   rw [← hnF] at f2
   (try have hBl:Bf < nF:=by omega)
   (try have hBI:∀ x ∈ Ls,x.I≠Bf:=fun x hx=>by have:=(f2.at_ x hx).2.2.2.1; omega)
   have t:=t.trans g
   have hz:=aP hz g.x.size
   have p0:=g.x.cell p0
   have p1:=g.x.cell p1
   have q0:=g.x.cell q0
   have q1:=g.x.cell q1
   have hU:=hU.gr g
   (try have hC:=hC.gr g)
   (try have hL:=OB.inc hL g.i)
   (try have hH:=OB.inc hH g.i)
   (try have hB:=hB.gr g)
   (try have hBl:=aG hBl g.x.size)
   (try have hF:=hF.gr g)
   have hF:lJ nF dc wc fv Ls:=⟨f1,f2⟩
   refine eI @p0 @p1 @q0 @q1 ?_
   refine fin t hU hC hL hH hB hF (by omega) hUn (by omega) (by omega) hBI hm fun w6 hw6 => ?_
   refine aY ?_
   refine hw6 _ fun d8 w8 v l g8 s8 p8 => ?_
   refine aY ?_
   exact hk d8 w8 v l g8 s8 p8
 ·
  generalize hO2:Obj.cells _ 172=O2
  obtain ⟨Bf,hBe⟩:∃ b,b=wc.heap.size:=⟨_,rfl⟩
  (try rw [← hBe])
  have hBU:w.heap.size+3≤Bf:=by omega
  have hBn:BfOk dc (wc.alloc O2) Bf:=by
   rw [hBe,← hO2]
   exact ⟨fun x hx=>by (rcases hx with rfl | rfl | hx | rfl); exact aA (aD _) (by omega); exact aA (aD _) (by omega); (have h:x=4∨x=5∨x=6∨x=7∨x=8:=by omega); (rcases h with rfl | rfl | rfl | rfl | rfl <;> exact aA (aD _) (by omega)); exact aA (aD _) (by omega),aA (aD _) (by omega),aA (aD _) (by omega),aA (aD _) (by omega),fun x=>by simp (disch:=first | exact dZ | fail) only [go_sem],t.j.out (aD _)⟩
  have g:Gr dc wc dc (wc.alloc O2):=Gr.ext t.j (aK _)
  (try have hBI:∀ x ∈ Ls,x.I≠Bf:=fun x hx=>by have:=(hF.2.at_ x hx).2.2.2.2; omega)
  have hBl:Bf < (wc.alloc O2).heap.size:=by rw [World.size_alloc]; omega
  have t:=t.trans g
  have hz:=aP hz g.x.size
  have p0:=g.x.cell p0
  have p1:=g.x.cell p1
  have q0:=g.x.cell q0
  have q1:=g.x.cell q1
  have hU:=hU.gr g
  (try have hC:=hC.gr g)
  (try have hL:=OB.inc hL g.i)
  (try have hH:=OB.inc hH g.i)
  (try have hB:=hB.gr g)
  (try have hBl:=aG hBl g.x.size)
  (try have hF:=hF.gr g)
  have hB:=hBn
  obtain ⟨wd,hwd⟩:∃ wd,wd=wc.alloc O2:=⟨_,rfl⟩
  rw [← hwd] at t hz p0 p1 q0 q1 hU hB hBl ⊢
  (try rw [← hwd] at hF)
  refine ia t.j fun dc wc C g _ hC0 hC1 hC5 => ?_
  have t:=t.trans g
  have hz:=aP hz g.x.size
  have p0:=g.x.cell p0
  have p1:=g.x.cell p1
  have q0:=g.x.cell q0
  have q1:=g.x.cell q1
  have hU:=hU.gr g
  (try have hC:=hC.gr g)
  (try have hL:=OB.inc hL g.i)
  (try have hH:=OB.inc hH g.i)
  (try have hB:=hB.gr g)
  (try have hBl:=aG hBl g.x.size)
  (try have hF:=hF.gr g)
  have hC:nZ dc C:=⟨hC0,hC1,hC5⟩
  refine eI @p0 @p1 @q0 @q1 ?_
  refine bt t.j hkl fun dc wc lov g hLn => ?_
  have t:=t.trans g
  have hz:=aP hz g.x.size
  have p0:=g.x.cell p0
  have p1:=g.x.cell p1
  have q0:=g.x.cell q0
  have q1:=g.x.cell q1
  have hU:=hU.gr g
  (try have hC:=hC.gr g)
  (try have hL:=OB.inc hL g.i)
  (try have hH:=OB.inc hH g.i)
  (try have hB:=hB.gr g)
  (try have hBl:=aG hBl g.x.size)
  (try have hF:=hF.gr g)
  have hL:=hLn
  refine eI @p0 @p1 @q0 @q1 ?_
  refine bt t.j hkh fun dc wc hiv g hHn => ?_
  have t:=t.trans g
  have hz:=aP hz g.x.size
  have p0:=g.x.cell p0
  have p1:=g.x.cell p1
  have q0:=g.x.cell q0
  have q1:=g.x.cell q1
  have hU:=hU.gr g
  (try have hC:=hC.gr g)
  (try have hL:=OB.inc hL g.i)
  (try have hH:=OB.inc hH g.i)
  (try have hB:=hB.gr g)
  (try have hBl:=aG hBl g.x.size)
  (try have hF:=hF.gr g)
  have hH:=hHn
  refine eI @p0 @p1 @q0 @q1 ?_
  obtain ⟨nF,hnF⟩:∃ n,n=wc.heap.size:=⟨_,rfl⟩
  have hUn:w.heap.size+2 < nF:=by omega
  refine cw (hv.inc kO.mono t.i) (by have:=r.n10; omega) hlen t.j fun dc wc fv Ls g f1 f2 hm => ?_
  rw [← hnF] at f2
  (try have hBl:Bf < nF:=by omega)
  (try have hBI:∀ x ∈ Ls,x.I≠Bf:=fun x hx=>by have:=(f2.at_ x hx).2.2.2.1; omega)
  have t:=t.trans g
  have hz:=aP hz g.x.size
  have p0:=g.x.cell p0
  have p1:=g.x.cell p1
  have q0:=g.x.cell q0
  have q1:=g.x.cell q1
  have hU:=hU.gr g
  (try have hC:=hC.gr g)
  (try have hL:=OB.inc hL g.i)
  (try have hH:=OB.inc hH g.i)
  (try have hB:=hB.gr g)
  (try have hBl:=aG hBl g.x.size)
  (try have hF:=hF.gr g)
  have hF:lJ nF dc wc fv Ls:=⟨f1,f2⟩
  refine eI @p0 @p1 @q0 @q1 ?_
  refine fin t hU hC hL hH hB hF (by omega) hUn (by omega) (by omega) hBI hm fun w6 hw6 => ?_
  refine aY ?_
  refine hw6 _ fun d8 w8 v l g8 s8 p8 => ?_
  refine aY ?_
  exact hk d8 w8 v l g8 s8 p8
end
end Go.Proofs
end
