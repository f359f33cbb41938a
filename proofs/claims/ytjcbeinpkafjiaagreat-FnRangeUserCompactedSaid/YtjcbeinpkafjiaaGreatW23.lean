/- Parts of the proof: Wh, Wi, Wj, Wk, Wl. -/
import Derived.Test.YtjcbeinpkafjiaaGreatW20
import Derived.Test.YtjcbeinpkafjiaaGreatW21
set_option linter.all false
set_option maxRecDepth 10000
section
namespace Go.E
open Go Go.Sort Go.Proofs Go.Proofs.Tryz
structure MI0 (w:World) (U Bf:Nat) (Ls:List Lvl):Prop where
 u2:w.cell? ⟨U,2,none⟩=some (.pointer (some ⟨Bf,0,none⟩))
 u3:w.cell? ⟨U,3,none⟩=some (.slice none 0 0)
 u4:w.cell? ⟨U,4,none⟩=some (.slice none 0 0)
 u5:w.cell? ⟨U,5,none⟩=some (.iface 221 (.pointer (some ⟨U,0,none⟩)))
 u6:w.cell? ⟨U,6,none⟩=some (.slice none 0 0)
 u7:w.cell? ⟨U,7,none⟩=some (.slice none 0 0)
 u8:w.cell? ⟨U,8,none⟩=some (.slice none 0 0)
 u9:w.cell? ⟨U,9,none⟩=some (.int .i8 0)
 u10:w.cell? ⟨U,10,none⟩=some .nilIface
 u11:w.cell? ⟨U,11,none⟩=some (.int .i8 0)
 lv:∀ i x,Ls[i]? = some x→w.cell? ⟨U,12+i * 4,none⟩=some (.iface 233 (.pointer (some ⟨x.I,0,none⟩)))∧w.cell? ⟨U,12+i * 4+1,none⟩=some (.int .i8 0)∧w.cell? ⟨U,12+i * 4+2,none⟩=some (.slice none 0 0)∧w.cell? ⟨U,12+i * 4+3,none⟩=some (.pointer none)
 it:∀ x,52≤x→x < 72→∃ v,w.cell? ⟨U,x,none⟩=some v
 b1:w.cell? ⟨Bf,1,none⟩=some (.slice (some ⟨U,12,none⟩) Ls.length 10)
 b2:w.cell? ⟨Bf,2,none⟩=some (.func (.func 102) #[] #[])
 b4:w.cell? ⟨Bf,4,none⟩=some (.slice (some ⟨U,52,none⟩) 0 10)
def zH (U Bf:Nat):Nat→Nat→Prop:=fun b x=>b=U∧2≤x∧x < 72∨b=Bf∧(x=1∨x=2∨x=4)
end Go.E
namespace Go.Proofs
open Go Go.E Go.Sort Go.Proofs.Tryz
section
variable {k:au} {d w:World} {U Bf:Nat}
theorem Bc {v:Value} {Ls:List Lvl} (hv:Sl BJ 1 d v Ls) (hd:cN d w) (oU:cx d U) (oB:cx d Bf) (hn:Ls.length≤10) (hne:Bf≠U) (cU:∀ x,x < 95→∃ u,w.cell? ⟨U,x,none⟩=some u) (fU:∀ x,w.frozen? ⟨U,x,none⟩=false)
    (b1:w.cell? ⟨Bf,1,none⟩=some (.slice none 0 0)) (b2:w.cell? ⟨Bf,2,none⟩=some .nilFunc) (b4:w.cell? ⟨Bf,4,none⟩=some (.slice none 0 0)) (fB:∀ x,w.frozen? ⟨Bf,x,none⟩=false)
    (hk:∀ w',Keep (zH U Bf) w w'→MI0 w' U Bf Ls→k (.tuple #[]) w') :
    aX prog 97 #[.pointer (some ⟨U,2,none⟩),.func (.func 102) #[] #[],.iface 221 (.pointer (some ⟨U,0,none⟩)),.pointer (some ⟨Bf,0,none⟩),v] k w:=by
 obtain ⟨ka,kc,rfl⟩:=hv.form
 refine ae [] func97 ?_
 refine an ?_
 refine DF (fun j hj => ?_) fU ?_ fun w1 h1 k1 => ?_
 ·have hj:j < 70:=hj
  exact cU _ (by omega)
 ·simp [Value.oneCell']
 have k1:Keep (fun b x=>b=U∧2≤x∧x < 72) w w1:=k1
 have u2:w1.cell? ⟨U,2,none⟩=some (.pointer (some ⟨Bf,0,none⟩)):=h1 0 _ rfl
 have a1:=k1.some b1 fun h=>hne h.1
 have a2:=k1.some b2 fun h=>hne h.1
 have a4:=k1.some b4 fun h=>hne h.1
 have hUl:U < w.heap.size:=by obtain ⟨u,hu⟩:=cU 0 (by omega); exact aD hu
 have fU1:∀ x,w1.frozen? ⟨U,x,none⟩=false:=fun x=>by rw [k1.frozen U x hUl]; exact fU x
 have fB1:∀ x,w1.frozen? ⟨Bf,x,none⟩=false:=fun x=>by rw [k1.frozen Bf x (aD b1)]; exact fB x
 refine pI @u2 @a1 @a2 @a4 @fU1 @fB1 ?_
 obtain ⟨w2,hw2⟩:∃ w2,w2=w1.setCell ⟨Bf,2,none⟩ (.func (.func 102) #[] #[]):=⟨_,rfl⟩
 rw [← hw2]
 have k2:Keep (fun b x=>b=U∧2≤x∧x < 72∨b=Bf∧x=2) w w2:=by rw [hw2]; exact (k1.mono fun b x _ h => .inl h).set fun _ => .inr ⟨rfl,rfl⟩
 have nU:U≠Bf:=fun h=>hne h.symm
 have h2:∀ j u,w1.cell? ⟨U,j,none⟩=some u→w2.cell? ⟨U,j,none⟩=some u:=fun j u hu=>by rw [hw2]; exact (bW (M:=fun b _=>b=Bf) rfl).some hu nU
 have a1:w2.cell? ⟨Bf,1,none⟩=some (.slice none 0 0):=by rw [hw2,fu (by decide)]; exact a1
 have a2:w2.cell? ⟨Bf,2,none⟩=some (.func (.func 102) #[] #[]):=by rw [hw2,bu,a2]; rfl
 have a4:w2.cell? ⟨Bf,4,none⟩=some (.slice none 0 0):=by rw [hw2,fu (by decide)]; exact a4
 have u2:=h2 _ _ u2
 have fU2:∀ x,w2.frozen? ⟨U,x,none⟩=false:=fun x=>by rw [k2.frozen U x hUl]; exact fU x
 have fB2:∀ x,w2.frozen? ⟨Bf,x,none⟩=false:=fun x=>by rw [k2.frozen Bf x (aD b1)]; exact fB x
 refine ay (sq [0,1,2] (.read 3 (sq [4,5] (.read 6 (sq [7,8,9] (.read 10 (sq [11,12,13] (.read 14 (sq [15,16] .done))))))))) ?_
 refine eA @u2 @a1 @a4 ?_
 have hle:(Ls.length:Int)≤10:=by omega
 refine bf @hle ?_
 refine ay (sq [0,1,2] (.read 3 (sq [4,5,6,7,8,9,10,11,12] (.eff 13 [] .done)))) ?_
 have s1:∀ q,de prog 125 (.pointer (some ⟨U,12,none⟩)) none (some (.int .i64 Ls.length)) none q=q (.slice (some ⟨U,12,none⟩) Ls.length 10):=fun q=>by
  rw [rR Tryz.ar125 rfl rfl (by simp [bd]) (by simp [bd]; omega) (by simp [bd]) (by simp)]; simp [bd]
 have s2:∀ q,de prog 129 (.pointer (some ⟨U,52,none⟩)) none (some (.int .i64 0)) none q=q (.slice (some ⟨U,52,none⟩) 0 10):=fun q=>by
  rw [rR Tryz.ar129 rfl rfl (by simp [bd]) (by simp [bd]) (by simp [bd]) (by simp)]; simp [bd]
 refine fI @u2 @a1 @fB2 @s1 ?_
 obtain ⟨w3,hw3⟩:∃ w3,w3=(w2.setCell ⟨Bf,1,none⟩ (.slice (some ⟨U,12,none⟩) Ls.length 10)).drew.drew:=⟨_,rfl⟩
 rw [← hw3]
 have k3:Keep (zH U Bf) w w3:=by rw [hw3]; exact (k2.mono fun b x _ h=>by unfold zH; omega).set (fun _ => .inr ⟨rfl,.inl rfl⟩) |>.drew.drew
 have h3:∀ j u,w1.cell? ⟨U,j,none⟩=some u→w3.cell? ⟨U,j,none⟩=some u:=fun j u hu=>by rw [hw3]; exact (bW (M:=fun b _=>b=Bf) rfl).drew.drew.some (h2 j u hu) nU
 have b13:w3.cell? ⟨Bf,1,none⟩=some (.slice (some ⟨U,12,none⟩) Ls.length 10):=by rw [hw3]; exact bk @a1
 have b2':w3.cell? ⟨Bf,2,none⟩=some (.func (.func 102) #[] #[]):=by rw [hw3]; exact bk @a2
 have a4:w3.cell? ⟨Bf,4,none⟩=some (.slice none 0 0):=by rw [hw3]; exact bk @a4
 have u2:w3.cell? ⟨U,2,none⟩=some (.pointer (some ⟨Bf,0,none⟩)):=h3 2 _ (h1 0 _ rfl)
 have fB3:∀ x,w3.frozen? ⟨Bf,x,none⟩=false:=fun x=>by rw [k3.frozen Bf x (aD b1)]; exact fB x
 refine ay (sq [0,1,2] (.read 3 (sq [4,5,6,7,8,9,10,11] (.eff 12 [] .done)))) ?_
 refine fI @u2 @a4 @fB3 @s2 ?_
 obtain ⟨w4,hw4⟩:∃ w4,w4=(w3.setCell ⟨Bf,4,none⟩ (.slice (some ⟨U,52,none⟩) 0 10)).drew:=⟨_,rfl⟩
 rw [← hw4]
 have k4:Keep (zH U Bf) w w4:=by rw [hw4]; exact (k3.set fun _ => .inr ⟨rfl,.inr (.inr rfl)⟩).drew
 have h4:∀ j u,w1.cell? ⟨U,j,none⟩=some u→w4.cell? ⟨U,j,none⟩=some u:=fun j u hu=>by rw [hw4]; exact (bW (M:=fun b _=>b=Bf) rfl).drew.some (h3 j u hu) nU
 have b1':w4.cell? ⟨Bf,1,none⟩=some (.slice (some ⟨U,12,none⟩) Ls.length 10):=by rw [hw4]; exact bk @b13
 have b2':w4.cell? ⟨Bf,2,none⟩=some (.func (.func 102) #[] #[]):=by rw [hw4]; exact bk @b2'
 have b4':w4.cell? ⟨Bf,4,none⟩=some (.slice (some ⟨U,52,none⟩) 0 10):=by rw [hw4]; exact bk @a4
 have u2:w4.cell? ⟨U,2,none⟩=some (.pointer (some ⟨Bf,0,none⟩)):=h4 2 _ (h1 0 _ rfl)
 refine bf @b13 ?_
 refine bR (fun i:Nat=>[(0,.pointer (some ⟨U,2,none⟩)),(4,.slice ka Ls.length kc),(119,.int .i64 Ls.length),(120,.int .i64 i)])
  (fun i w'=>i≤Ls.length∧Keep (zH U Bf) w w'∧(∀ j u,j < 12∨52≤j→w1.cell? ⟨U,j,none⟩=some u→w'.cell? ⟨U,j,none⟩=some u)∧(∀ j,12≤j→j < 52→∃ u,w'.cell? ⟨U,j,none⟩=some u) ∧
   (w'.cell? ⟨Bf,1,none⟩=some (.slice (some ⟨U,12,none⟩) Ls.length 10)∧w'.cell? ⟨Bf,2,none⟩=some (.func (.func 102) #[] #[])∧w'.cell? ⟨Bf,4,none⟩=some (.slice (some ⟨U,52,none⟩) 0 10)) ∧
   ∀ j x,j < i→Ls[j]? = some x→w'.cell? ⟨U,12+j * 4,none⟩=some (.iface 233 (.pointer (some ⟨x.I,0,none⟩)))∧w'.cell? ⟨U,12+j * 4+1,none⟩=some (.int .i8 0)∧w'.cell? ⟨U,12+j * 4+2,none⟩=some (.slice none 0 0)∧w'.cell? ⟨U,12+j * 4+3,none⟩=some (.pointer none))
  (fun i _=>Ls.length - i) 0 (by kernel_rfl) ?_ ⟨aP _,k4,fun j u _ h=>h4 j u h,fun j h5 h6 => ?_,⟨b1',b2',b4'⟩,fun j x h=>by omega⟩ ?_
 ·exact bO
 ·obtain ⟨u,hu⟩:∃ u,w1.cell? ⟨U,j,none⟩=some u:=by
    obtain ⟨m,rfl⟩:∃ m,j=2+m:=⟨j - 2,by omega⟩
    exact ⟨_,h1 m _ (aC (show m < 70 by omega))⟩
  exact ⟨u,h4 j u hu⟩
 rintro K2 e i w5 ⟨i1,i2,i3,i4,⟨i5,i6,i7⟩,i8⟩ hK2
 have u2:w5.cell? ⟨U,2,none⟩=some (.pointer (some ⟨Bf,0,none⟩)):=i3 2 _ (by omega) (h1 0 _ rfl)
 rcases aG i Ls.length with hi | hi
 rotate_left
 ·have hi':¬ (i:Int) < Ls.length:=by omega
  refine bf @hi' ?_
  obtain rfl:i=Ls.length:=by omega
  refine hk w5 i2 ⟨u2,i3 3 _ (by omega) (h1 1 _ rfl),i3 4 _ (by omega) (h1 2 _ rfl),i3 5 _ (by omega) (h1 3 _ rfl),i3 6 _ (by omega) (h1 4 _ rfl),i3 7 _ (by omega) (h1 5 _ rfl),i3 8 _ (by omega) (h1 6 _ rfl),i3 9 _ (by omega) (h1 7 _ rfl),i3 10 _ (by omega) (h1 8 _ rfl),i3 11 _ (by omega) (h1 9 _ rfl),fun j x hx=>i8 j x (aR.1 hx).1 hx,fun x h5 h6 => ?_,i5,i6,i7⟩
  obtain ⟨m,rfl⟩:∃ m,x=2+m:=⟨x - 2,by omega⟩
  exact ⟨_,i3 _ _ (by omega) (h1 m _ (aC (show m < 70 by omega)))⟩
 have hi':(i:Int) < Ls.length:=by omega
 obtain ⟨g,f,c,hv',hc,hat⟩:=(hv.inc BJ.mono (hd.keep i2 fun b x h=>by rcases h with ⟨rfl,_⟩ | ⟨rfl,_⟩; exact oU x; exact oB x)).at (by omega)
 obtain ⟨rfl,rfl⟩:=sEq hv'
 obtain ⟨x,hx⟩:=gEl hi
 obtain ⟨cs,_,hcs,rfl⟩:=hat i x hx
 have h0:w5.cell? ⟨g,f+i * 1,none⟩=some (.iface 233 (.pointer (some ⟨x.I,0,none⟩))):=hcs 0 _ rfl
 obtain ⟨v0,q0⟩:=i4 (12+i * 4) (by omega) (by omega)
 obtain ⟨v1,q1⟩:=i4 (12+i * 4+1) (by omega) (by omega)
 obtain ⟨v2,q2⟩:=i4 (12+i * 4+2) (by omega) (by omega)
 obtain ⟨v3,q3⟩:=i4 (12+i * 4+3) (by omega) (by omega)
 have fU5:∀ x,w5.frozen? ⟨U,x,none⟩=false:=fun x=>by rw [i2.frozen U x hUl]; exact fU x
 refine bf @hi' ?_
 refine ay (sq [0,1,2] (.read 3 (sq [4,5] (.read 6 (sq [7,8,9,10] (.read 11 (sq [12,13] (.eff 14 [] .done)))))))) ?_
 refine xq @u2 @i5 @h0 @q0 @q1 @q2 @q3 @fU5 ?_
 obtain ⟨w6,hw6⟩:∃ w6,w6=(((((w5.setCell ⟨U,12+i * 4,none⟩ (.iface 233 (.pointer (some ⟨x.I,0,none⟩)))).setCell ⟨U,12+i * 4+1,none⟩ (.int .i8 0)).setCell ⟨U,12+i * 4+2,none⟩ (.slice none 0 0)).setCell ⟨U,12+i * 4+3,none⟩ (.pointer none))).drew:=⟨_,rfl⟩
 rw [← hw6]
 have k6:Keep (fun b x=>b=U∧12+i * 4≤x∧x < 12+i * 4+4) w5 w6:=by
  rw [hw6]
  exact (((((Keep.refl _ w5).set fun _=>⟨rfl,by omega,by omega⟩).set fun _=>⟨rfl,by omega,by omega⟩).set fun _=>⟨rfl,by omega,by omega⟩).set fun _=>⟨rfl,by omega,by omega⟩).drew
 have z0:w6.cell? ⟨U,12+i * 4,none⟩=some (.iface 233 (.pointer (some ⟨x.I,0,none⟩))):=by rw [hw6]; exact bk @q0
 have z1:w6.cell? ⟨U,12+i * 4+1,none⟩=some (.int .i8 0):=by rw [hw6]; exact bk @q1
 have z2:w6.cell? ⟨U,12+i * 4+2,none⟩=some (.slice none 0 0):=by rw [hw6]; exact bk @q2
 have z3:w6.cell? ⟨U,12+i * 4+3,none⟩=some (.pointer none):=by rw [hw6]; exact bk @q3
 refine hK2 _ _ (i+1) ?_ ⟨hi,i2.tr k6 fun b y _ h => .inl ⟨h.1,by omega,by omega⟩,fun j u hj hu=>k6.some (i3 j u hj hu) (by omega),fun j h5 h6 => ?_,⟨k6.some i5 fun h=>hne h.1,k6.some i6 fun h=>hne h.1,k6.some i7 fun h=>hne h.1⟩,fun j y hj hy => ?_⟩ (by omega)
 ·exact bO
 ·by_cases h:12+i * 4≤j∧j < 12+i * 4+4
  ·obtain ⟨m,rfl⟩:∃ m,j=12+i * 4+m:=⟨j - (12+i * 4),by omega⟩
   match m,(by omega:m < 4) with
   | 0,_=>exact ⟨_,z0⟩
   | 1,_=>exact ⟨_,z1⟩
   | 2,_=>exact ⟨_,z2⟩
   | 3,_=>exact ⟨_,z3⟩
  ·obtain ⟨u,hu⟩:=i4 j h5 h6
   exact ⟨u,k6.some hu fun hh=>h hh.2⟩
 ·rcases aG j i with h | h
  ·obtain ⟨y0,y1,y2,y3⟩:=i8 j y h hy
   exact ⟨k6.some y0 (by omega),k6.some y1 (by omega),k6.some y2 (by omega),k6.some y3 (by omega)⟩
  ·obtain rfl:j=i:=by omega
   rw [hx] at hy
   cases hy
   exact ⟨z0,z1,z2,z3⟩
end
end Go.Proofs
end
section
namespace Go.E
open Go Go.Sort Go.Proofs Go.Proofs.Tryz
structure UI0 (w:World) (U Bf C snap:Nat) (lov hiv:Value):Prop where
 u0:w.cell? ⟨U,0,none⟩=some (.int .u64 snap)
 u1:w.cell? ⟨U,1,none⟩=some (.pointer (some ⟨C,0,none⟩))
 b0:w.cell? ⟨U,72,none⟩=some (.iface 224 (.pointer (some ⟨U,2,none⟩)))
 b1:w.cell? ⟨U,73,none⟩=some (.pointer none)
 b2:w.cell? ⟨U,74,none⟩=some (.func (.func 102) #[] #[])
 b4:w.cell? ⟨U,76,none⟩=some lov
 b5:w.cell? ⟨U,77,none⟩=some hiv
 b6:w.cell? ⟨U,78,none⟩=some (.pointer none)
 b8:w.cell? ⟨U,80,none⟩=some (.int .i8 0)
 d0:w.cell? ⟨U,81,none⟩=some (.pointer (some ⟨Bf,6,none⟩))
 d1:w.cell? ⟨U,82,none⟩=some (.pointer (some ⟨C,0,none⟩))
 d2:w.cell? ⟨U,83,none⟩=some (.func (.func 103) #[] #[])
 d3:w.cell? ⟨U,84,none⟩=some (.iface 226 (.pointer (some ⟨U,72,none⟩)))
 d4:w.cell? ⟨U,85,none⟩=some (.pointer none)
 d5:w.cell? ⟨U,86,none⟩=some (.int .i8 0)
 d6:w.cell? ⟨U,87,none⟩=some (.slice none 0 0)
 d7:w.cell? ⟨U,88,none⟩=some (.slice none 0 0)
 d8:w.cell? ⟨U,89,none⟩=some (.slice none 0 0)
 d9:w.cell? ⟨U,90,none⟩=some (.int .i8 0)
 d10:w.cell? ⟨U,91,none⟩=some (.iface 221 (.pointer (some ⟨U,0,none⟩)))
 d11:w.cell? ⟨U,92,none⟩=some (.func (.func 101) #[] #[])
 u93:w.cell? ⟨U,93,none⟩=some (.bool false)
 u94:w.cell? ⟨U,94,none⟩=some (.pointer (some ⟨Bf,0,none⟩))
theorem MI0.keep {w w2:World} {U Bf:Nat} {Ls:List Lvl} {M:Nat→Nat→Prop} (m:MI0 w U Bf Ls) (hn:Ls.length≤10) (hk:Keep M w w2) (h1:∀ x,2≤x→x < 72→¬ M U x) (h2:∀ x,¬ M Bf x):MI0 w2 U Bf Ls where
 u2:=hk.some m.u2 (h1 _ (by omega) (by omega))
 u3:=hk.some m.u3 (h1 _ (by omega) (by omega))
 u4:=hk.some m.u4 (h1 _ (by omega) (by omega))
 u5:=hk.some m.u5 (h1 _ (by omega) (by omega))
 u6:=hk.some m.u6 (h1 _ (by omega) (by omega))
 u7:=hk.some m.u7 (h1 _ (by omega) (by omega))
 u8:=hk.some m.u8 (h1 _ (by omega) (by omega))
 u9:=hk.some m.u9 (h1 _ (by omega) (by omega))
 u10:=hk.some m.u10 (h1 _ (by omega) (by omega))
 u11:=hk.some m.u11 (h1 _ (by omega) (by omega))
 lv i x hx:=by
  have:=(aR.1 hx).1
  obtain ⟨a,b,c,e⟩:=m.lv i x hx
  exact ⟨hk.some a (h1 _ (by omega) (by omega)),hk.some b (h1 _ (by omega) (by omega)),hk.some c (h1 _ (by omega) (by omega)),hk.some e (h1 _ (by omega) (by omega))⟩
 it x a b:=by obtain ⟨v,h⟩:=m.it x a b; exact ⟨v,hk.some h (h1 _ (by omega) b)⟩
 b1:=hk.some m.b1 (h2 _)
 b2:=hk.some m.b2 (h2 _)
 b4:=hk.some m.b4 (h2 _)
end Go.E
namespace Go.Proofs
open Go Go.E Go.Sort Go.Proofs.Tryz
section
variable {k:au} {d w:World} {U Bf C snap:Nat}
theorem JB {w:World} {j:Nat} {v:Value} (cU:∀ x,x < 95→∃ u,w.cell? ⟨U,x,none⟩=some u):∀ x,x < 95→∃ u,(w.setCell ⟨U,j,none⟩ v).cell? ⟨U,x,none⟩=some u:=fun x hx=>by
 obtain ⟨u,hu⟩:=cU x hx
 by_cases h:x=j
 ·subst h; exact ⟨v,by rw [bu,hu]; rfl⟩
 ·exact ⟨u,by rw [fu (by omega)]; exact hu⟩
theorem DZ {v lov hiv:Value} {lo hi:Option Bytes} {Ls:List Lvl} (hv:Sl BJ 1 d v Ls) (hd:cN d w) (oU:cx d U) (oB:cx d Bf) (hn:Ls.length≤10) (hne:Bf≠U) (cU:∀ x,x < 95→∃ u,w.cell? ⟨U,x,none⟩=some u) (fU:∀ x,w.frozen? ⟨U,x,none⟩=false)
    (b1:w.cell? ⟨Bf,1,none⟩=some (.slice none 0 0)) (b2:w.cell? ⟨Bf,2,none⟩=some .nilFunc) (b4:w.cell? ⟨Bf,4,none⟩=some (.slice none 0 0)) (fB:∀ x,w.frozen? ⟨Bf,x,none⟩=false) (hlo:OB d lov lo) (hhi:OB d hiv hi)
    (c0:d.cell? ⟨C,0,none⟩=some (.func (.func 102) #[] #[])) (c1:d.cell? ⟨C,1,none⟩=some (.func (.func 103) #[] #[])) (c5:d.cell? ⟨C,5,none⟩=some .nilFunc)
    (hk:∀ w',Keep (fun b x=>b=U∨b=Bf∧(x=1∨x=2∨x=4)) w w'→MI0 w' U Bf Ls→UI0 w' U Bf C snap lov hiv→k (.iface 229 (.pointer (some ⟨U,81,none⟩))) w') :
    aX prog 65 #[.pointer (some ⟨U,0,none⟩),.pointer (some ⟨C,0,none⟩),.int .u64 snap,lov,hiv,.pointer none,.pointer none,.bool false,.pointer (some ⟨Bf,0,none⟩),v] k w:=by
 obtain ⟨ka,kc,rfl⟩:=hv.form
 obtain ⟨la,ln,lc,rfl⟩:∃ a n c,lov = .slice a n c:=by
  rcases hlo with ⟨_,rfl⟩ | ⟨_,a,n,c,_,rfl,_⟩
  ·exact ⟨_,_,_,rfl⟩
  ·exact ⟨_,_,_,rfl⟩
 obtain ⟨ha,hn',hc,rfl⟩:∃ a n c,hiv = .slice a n c:=by
  rcases hhi with ⟨_,rfl⟩ | ⟨_,a,n,c,_,rfl,_⟩
  ·exact ⟨_,_,_,rfl⟩
  ·exact ⟨_,_,_,rfl⟩
 have hUl:U < w.heap.size:=by obtain ⟨u,hu⟩:=cU 0 (by omega); exact aD hu
 obtain ⟨v0,q0⟩:=cU 0 (by omega)
 obtain ⟨v1,q1⟩:=cU 1 (by omega)
 obtain ⟨v93,q93⟩:=cU 93 (by omega)
 refine ae [.tmp 20] func65 ?_
 refine fI @q0 @q1 @q93 @fU ?_
 obtain ⟨w1,hw1⟩:∃ w1,w1=(((w.setCell ⟨U,0,none⟩ (.int .u64 snap)).setCell ⟨U,1,none⟩ (.pointer (some ⟨C,0,none⟩))).setCell ⟨U,93,none⟩ (.bool false)):=⟨_,rfl⟩
 rw [← hw1]
 have k1:Keep (fun b x=>b=U∧(x=0∨x=1∨x=93)) w w1:=by rw [hw1]; exact (((Keep.refl _ w).set fun _=>⟨rfl,.inl rfl⟩).set fun _=>⟨rfl,.inr (.inl rfl)⟩).set fun _=>⟨rfl,.inr (.inr rfl)⟩
 have cU1:∀ x,x < 95→∃ u,w1.cell? ⟨U,x,none⟩=some u:=by rw [hw1]; exact JB (JB (JB cU))
 have e0:w1.cell? ⟨U,0,none⟩=some (.int .u64 snap):=by rw [hw1]; exact bk @q0
 have e1:w1.cell? ⟨U,1,none⟩=some (.pointer (some ⟨C,0,none⟩)):=by rw [hw1]; exact bk @q1
 have e93:w1.cell? ⟨U,93,none⟩=some (.bool false):=by rw [hw1]; exact bk @q93
 have hd1:cN d w1:=hd.keep k1 fun b x h=>by rw [h.1]; exact oU x
 have fU1:∀ x,w1.frozen? ⟨U,x,none⟩=false:=fun x=>by rw [k1.frozen U x hUl]; exact fU x
 have hBl:=aD b1
 have fB1:∀ x,w1.frozen? ⟨Bf,x,none⟩=false:=fun x=>by rw [k1.frozen Bf x hBl]; exact fB x
 refine ay (sq [0,1,2,3,4,5] (.read 6 (sq [7,8,9,10,11,12] (.eff 13 [] .done)))) ?_
 simp (disch:=first | exact dZ | fail) only [go_sem,hd1 _ _ _ c0]
 refine Bc hv hd1.drew oU oB hn hne cU1 fU1 (k1.some b1 fun h=>hne h.1) (k1.some b2 fun h=>hne h.1) (k1.some b4 fun h=>hne h.1) fB1 fun w2 k2 m2 => ?_
 have k2:Keep (zH U Bf) w1 w2:=(Keep.refl _ w1).drew.trans k2
 have nM:∀ x,x < 2∨72≤x→¬ zH U Bf U x:=fun x hx h=>by
  rcases h with h | ⟨h,_⟩
  ·omega
  ·exact hne h.symm
 have hd2:cN d w2:=hd1.keep k2 fun b x h=>by rcases h with ⟨rfl,_⟩ | ⟨rfl,_⟩; exact oU x; exact oB x
 have fU2:∀ x,w2.frozen? ⟨U,x,none⟩=false:=fun x=>by rw [k2.frozen U x (aI hUl k1.size)]; exact fU1 x
 have e0:=k2.some e0 (nM _ (by omega))
 have e1:=k2.some e1 (nM _ (by omega))
 have e93:=k2.some e93 (nM _ (by omega))
 have cU2:∀ x,72≤x→x < 95→∃ u,w2.cell? ⟨U,x,none⟩=some u:=fun x h1 h2=>by obtain ⟨u,hu⟩:=cU1 x h2; exact ⟨u,k2.some hu (nM _ (by omega))⟩
 refine an ?_
 refine ay (sq [0,1,2,3,4,5] (.read 6 (sq [7,8,9] (.read 10 (sq [11,12,13,14,15,16,17,18] (.eff 19 [] .done)))))) ?_
 simp (disch:=first | exact dZ | fail) only [go_sem,hd2 _ _ _ c0,hd2 _ _ _ c5]
 refine ae [] func98 ?_
 refine an ?_
 refine DF (w:=w2.drew) (fun j hj => ?_) fU2 ?_ fun w3 h3 k3 => ?_
 ·have hj:j < 9:=hj
  exact cU2 _ (by omega) (by omega)
 ·simp [Value.oneCell']
 have k3:Keep (fun b x=>b=U∧72≤x∧x < 81) w2 w3:=(Keep.refl _ w2).drew.trans k3
 have fU3:∀ x,w3.frozen? ⟨U,x,none⟩=false:=fun x=>by rw [k3.frozen U x (aI hUl (ai k1.size k2.size))]; exact fU2 x
 have hd3:cN d w3:=hd2.keep k3 fun b x h=>by rw [h.1]; exact oU x
 have m3:=m2.keep hn k3 (fun x _ _ h=>by omega) fun x h=>hne h.1
 have e0:=k3.some e0 (by omega)
 have e1:=k3.some e1 (by omega)
 have e93:=k3.some e93 (by omega)
 have cU3:∀ x,81≤x→x < 95→∃ u,w3.cell? ⟨U,x,none⟩=some u:=fun x h1 h2=>by obtain ⟨u,hu⟩:=cU2 x (by omega) h2; exact ⟨u,k3.some hu (by omega)⟩
 refine an ?_
 refine ay (sq [0,1,2,3,4,5,6,7,8,9,10,11,12] (.eff 13 [] .done)) ?_
 refine an ?_
 refine ae [] func99 ?_
 simp (disch:=first | exact dZ | fail) only [go_sem,hd3 _ _ _ c1]
 refine DF (w:=w3.drew) (fun j hj => ?_) fU3 ?_ fun w4 h4 k4 => ?_
 ·have hj:j < 12:=hj
  exact cU3 _ (by omega) (by omega)
 ·simp [Value.oneCell']
 have k4:Keep (fun b x=>b=U∧81≤x∧x < 93) w3 w4:=(Keep.refl _ w3).drew.trans k4
 have fU4:∀ x,w4.frozen? ⟨U,x,none⟩=false:=fun x=>by rw [k4.frozen U x (aI hUl (ai k1.size (ai k2.size k3.size)))]; exact fU3 x
 have m4:=m3.keep hn k4 (fun x _ _ h=>by omega) fun x h=>hne h.1
 obtain ⟨v94,q94⟩:=cU3 94 (by omega) (by omega)
 have q94:=k4.some q94 (by omega)
 refine dU @fU4 @q94 ?_
 have k5:Keep (fun b x=>b=U∧x=94) w4 (w4.setCell ⟨U,94,none⟩ (.pointer (some ⟨Bf,0,none⟩))):=bW ⟨rfl,rfl⟩
 have e0:=k5.some (k4.some e0 (by omega)) (by omega)
 have e1:=k5.some (k4.some e1 (by omega)) (by omega)
 have e93:=k5.some (k4.some e93 (by omega)) (by omega)
 have B:∀ j u,72+j < 81→w3.cell? ⟨U,72+j,none⟩=some u→(w4.setCell ⟨U,94,none⟩ (.pointer (some ⟨Bf,0,none⟩))).cell? ⟨U,72+j,none⟩=some u:=fun j u hj hu=>k5.some (k4.some hu (by omega)) (by omega)
 have D:∀ j u,81+j < 93→w4.cell? ⟨U,81+j,none⟩=some u→(w4.setCell ⟨U,94,none⟩ (.pointer (some ⟨Bf,0,none⟩))).cell? ⟨U,81+j,none⟩=some u:=fun j u hj hu=>k5.some hu (by omega)
 refine hk _ ?_ (m4.keep hn k5 (fun x _ _ h=>by omega) fun x h=>hne h.1) ⟨e0,e1,B 0 _ (by omega) (h3 0 _ rfl),B 1 _ (by omega) (h3 1 _ rfl),B 2 _ (by omega) (h3 2 _ rfl),B 4 _ (by omega) (h3 4 _ rfl),B 5 _ (by omega) (h3 5 _ rfl),B 6 _ (by omega) (h3 6 _ rfl),B 8 _ (by omega) (h3 8 _ rfl),
  D 0 _ (by omega) (h4 0 _ rfl),D 1 _ (by omega) (h4 1 _ rfl),D 2 _ (by omega) (h4 2 _ rfl),D 3 _ (by omega) (h4 3 _ rfl),D 4 _ (by omega) (h4 4 _ rfl),D 5 _ (by omega) (h4 5 _ rfl),D 6 _ (by omega) (h4 6 _ rfl),D 7 _ (by omega) (h4 7 _ rfl),D 8 _ (by omega) (h4 8 _ rfl),D 9 _ (by omega) (h4 9 _ rfl),D 10 _ (by omega) (h4 10 _ rfl),D 11 _ (by omega) (h4 11 _ rfl),e93,by rw [bu,q94]; rfl⟩
 exact ((((k1.mono fun b x _ h => .inl h.1).tr k2 fun b x _ h=>h.elim (fun h => .inl h.1) .inr).tr k3 fun b x _ h => .inl h.1).tr k4 fun b x _ h => .inl h.1).tr k5 fun b x _ h => .inl h.1
end
end Go.Proofs
end
section
namespace Go.E
open Go Go.Sort Go.Proofs
def sO (d:World) (C:Nat):Prop:=d.cell? ⟨C,0,none⟩=some (.func (.func 102) #[] #[])∧d.cell? ⟨C,1,none⟩=some (.func (.func 103) #[] #[])∧d.cell? ⟨C,5,none⟩=some .nilFunc
structure BfOk (d w:World) (Bf:Nat):Prop where
 c:∀ x,x=0∨x=1∨4≤x∧x≤8∨x=10→w.cell? ⟨Bf,x,none⟩=some (.slice none 0 0)
 c2:w.cell? ⟨Bf,2,none⟩=some .nilFunc
 c3:w.cell? ⟨Bf,3,none⟩=some (.bool false)
 c9:w.cell? ⟨Bf,9,none⟩=some .nilFunc
 f:∀ x,w.frozen? ⟨Bf,x,none⟩=false
 o:cx d Bf
structure UOk (d w:World) (U:Nat):Prop where
 c:∀ x,x < 95→∃ u,w.cell? ⟨U,x,none⟩=some u
 f:∀ x,w.frozen? ⟨U,x,none⟩=false
 o:cx d U
def qu (n:Nat) (d w:World) (v:Value) (Ls:List Lvl):Prop:=Sl BJ 1 d v Ls∧ItsAt n d w Ls
section
variable {d w d2 w2:World} {n:Nat} {v:Value} {Ls:List Lvl} {C U Bf:Nat}
theorem sO.gr (h:sO d C) (g:Gr d w d2 w2):sO d2 C:=⟨g.i _ _ _ h.1,g.i _ _ _ h.2.1,g.i _ _ _ h.2.2⟩
theorem BfOk.gr (h:BfOk d w Bf) (g:Gr d w d2 w2):BfOk d2 w2 Bf:=⟨fun x hx=>g.x.cell (h.c x hx),g.x.cell h.c2,g.x.cell h.c3,g.x.cell h.c9,fun x=>by rw [g.x.frozen _ x (aD h.c2)]; exact h.f x,g.o _ (aD h.c2) h.o⟩
theorem UOk.lt (h:UOk d w U):U < w.heap.size:=by obtain ⟨u,hu⟩:=h.c 0 (by omega); exact aD hu
theorem UOk.gr (h:UOk d w U) (g:Gr d w d2 w2):UOk d2 w2 U:=⟨fun x hx=>by obtain ⟨u,hu⟩:=h.c x hx; exact ⟨u,g.x.cell hu⟩,fun x=>by rw [g.x.frozen _ x h.lt]; exact h.f x,g.o _ h.lt h.o⟩
theorem qu.gr (h:qu n d w v Ls) (g:Gr d w d2 w2):qu n d2 w2 v Ls:=⟨h.1.inc BJ.mono g.i,h.2.keep g.x (fun _ _ _ h=>h) g.i fun b hb ⟨x,hx,e⟩=>g.o b (by rw [← e]; exact (h.2.at_ x hx).2.2.2.2) hb⟩
structure RIn (Lv:List (List Sp)) (snap:Nat) (lo hi:Option Bytes):Prop where
 n10:Lv.length≤10
 snap:snap < 18446744073709551616
 wf:∀ L ∈ Lv,Wf L
 len:∀ L ∈ Lv,L.length < 1000∧∀ s ∈ L,s.s.length < 4294967296∧s.e.length < 4294967296∧s.ks.length < 5000∧s.ks≠[]∧∀ x ∈ s.ks,wk x
 cd:∀ u,Cd (dO Lv.length (fY Lv) (cG Lv.flatten) u)
 bd:wT lo hi
abbrev rV (Lv:List (List Sp)) (snap:Nat) (lo hi:Option Bytes):List Sp:=Vw (GB (GL snap Lv.length (fY Lv) (cG Lv.flatten)) lo hi)
theorem vC {Ls:List Lvl} {Lv:List (List Sp)} (h:Ls.map Lvl.L=Lv):Lf Ls.toArray=fY Lv:=by
 funext i
 unfold Lf fY
 rw [← h]
 rcases aG i Ls.length with hi | hi
 ·rw [aH Ls.toArray i (by simpa using hi),aH (Ls.map Lvl.L) i (by simpa using hi)]
  simp
 ·rw [getElem!_neg Ls.toArray i (by simpa using hi),getElem!_neg (Ls.map Lvl.L) i (by simpa using hi)]
  rfl
theorem IB {Lv:List (List Sp)} {snap:Nat} {lo hi:Option Bytes} {lov hiv:Value} (r:RIn Lv snap lo hi) (hC:sO d C) (hB:BfOk d w Bf) (hU:UOk d w U) (hF:qu n d w v Ls) (hne:Bf≠U) (hUn:U < n) (hBI:∀ x ∈ Ls,x.I≠Bf) (hm:Ls.map Lvl.L=Lv) (hlo:OB d lov lo) (hhi:OB d hiv hi) :
    UC d U Bf C Ls.toArray snap (cG Lv.flatten) lov hiv lo hi:=by
 have hn:Ls.toArray.size=Lv.length:=by rw [← hm]; simp
 have hat:∀ i,i < Ls.toArray.size→Ls.toArray[i]! ∈ Ls:=fun i hi=>by rw [aH Ls.toArray i hi]; simpa using ag (by simpa using hi)
 have hL:∀ i,i < Ls.toArray.size→Ls.toArray[i]!.L ∈ Lv:=fun i hi=>by rw [← hm]; exact List.mem_map_of_mem (hat i hi)
 have hI:=hF.2
 have hl:Lv.flatten.length≤Lv.length * 1000:=fj fun L hL=>gM (r.len L hL).1
 have hb:=gL Lv.flatten
 have h10:=r.n10
 refine ⟨⟨⟨hU.o,hB.o,hne,by omega,fun i hi=>(hI.at_ _ (hat i hi)).2.2.1,fun i hi => ?_,fun i hi=>hBI _ (hat i hi),fun i hi=>(hI.at_ _ (hat i hi)).2.1,fun i hi=>r.wf _ (hL i hi),fun i hi => ?_,fun i j hi hj hij => ?_,fun i hi j hj => ?_⟩,?_,r.snap,hC.2.1,?_,fun u => ?_,fun x hx => ?_⟩,by omega,r.bd,hC.1,fun i hi sp hsp x hx => ?_⟩
 ·have:=(hI.at_ _ (hat i hi)).2.2.2.1; omega
 ·exact Nat.lt_trans (r.len _ (hL i hi)).1 (by omega)
 ·have:=bK.1 hI.ne
  rw [aH Ls.toArray i hi,aH Ls.toArray j hj]
  simp only [List.getElem_toArray]
  rcases aG i j with h | h
  ·exact this i j (by simpa using hi) (by simpa using hj) h
  ·exact (this j i (by simpa using hj) (by simpa using hi) (by omega)).symm
 ·rw [aH _ j hj]
  exact ((r.len _ (hL i hi)).2 _ (ag hj)).2.2.2.1
 ·rw [hn,vC hm]; exact lI r.wf
 ·rw [hn,vC hm]; exact r.cd
 ·rw [hn,vC hm]
  exact fT (DQ (m:=5000) (fun L hL s hs=>gM ((r.len L hL).2 s hs).2.2.1) _ u) (by omega)
 ·obtain ⟨s,hs,h⟩:=((lH _).2 x).1 hx
  obtain ⟨L,hL,hs⟩:=cu.1 hs
  have:=(r.len L hL).2 s hs
  rcases h with rfl | rfl
  ·exact this.1
  ·exact this.2.1
 ·exact (((r.len _ (hL i hi)).2 sp hsp).2.2.2.2 x hx)
end
end Go.E
end
section
namespace Go.E
open Go Go.Sort Go.Proofs
theorem cV {c n:Nat} {g:Nat}:¬ (Value.slice none n c).ownBlock=some g:=by simp [Value.ownBlock]
abbrev uT (U Bf:Nat) (Ls:List Lvl):Nat→Nat→Prop:=bT U (mT U Bf Ls.toArray)
abbrev uR (d:World) (U Bf C snap:Nat) (Ls:List Lvl) (B:List Bytes) (lov hiv:Value) (lo hi:Option Bytes):World→(Nat→Prop)→Int→Prop:=Bd d U U 6 224 (.pointer (some ⟨U,2,none⟩)) lov hiv lo hi (uG Ls.toArray snap B) (Mi d U Bf C snap Ls.toArray B)
theorem Da {d w:World} {n U Bf C snap:Nat} {Ls:List Lvl} {Lv:List (List Sp)} {lov hiv v:Value} {lo hi:Option Bytes} {B:List Bytes} (hB:B=cG Lv.flatten) (hinc:cN d w) (uc:UC d U Bf C Ls.toArray snap B lov hiv lo hi) (m:MI0 w U Bf Ls) (u:UI0 w U Bf C snap lov hiv) (hF:qu n d w v Ls) (hne:Bf≠U)
    (fU:∀ x,w.frozen? ⟨U,x,none⟩=false) (fB:∀ x,w.frozen? ⟨Bf,x,none⟩=false) (cB:∀ x,x=0∨5≤x∧x≤8∨x=10→w.cell? ⟨Bf,x,none⟩=some (.slice none 0 0)) (c3:w.cell? ⟨Bf,3,none⟩=some (.bool false)) (c9:w.cell? ⟨Bf,9,none⟩=some .nilFunc) (hlo:OB d lov lo) (hhi:OB d hiv hi) :
    Ie d U Bf C U 6 226 (.pointer (some ⟨U,72,none⟩)) (GB (uG Ls.toArray snap B) lo hi) (uT U Bf Ls) (uR d U Bf C snap Ls B lov hiv lo hi) w (dN U Bf (uT U Bf Ls) (fun _=>False) (fun _=>False)) (-2):=by
 have hat:∀ i,i < Ls.toArray.size→Ls[i]? = some Ls.toArray[i]! := fun i hi=>by rw [aH Ls.toArray i hi,List.getElem_toArray]; exact aC _
 have mi:Mi d U Bf C snap Ls.toArray B w (fun _=>False) (-1):=by
  refine ⟨0,fun _ => -1,.slice none 0 0,.slice none 0 0,.slice none 0 0,[],[],[],⟨⟨m.u2,by have:=m.b1; simpa using this,fun i hi => ?_,m.u10,fU,fB,hinc⟩,⟨m.b2,⟨_,c3⟩,⟨0,by omega,m.b4⟩,fun x h1 h2=>m.it x (by omega) (by omega)⟩,
   ⟨u.u0,u.u1,⟨_,_,_,m.u3⟩,⟨_,_,_,m.u4⟩,m.u5,⟨_,m.u6⟩,⟨_,m.u7⟩,⟨_,m.u8⟩,⟨_,m.u9⟩,⟨_,m.u11⟩,u.u93,u.u94,⟨_,c9⟩⟩,
   ⟨⟨cB 0 (by omega),dq,by simp⟩,⟨cB 10 (by omega),dq,by simp⟩,cB 5 (by omega),dq,fun g h=>(cV h).elim,fun g h=>(cV h).elim,fun g h=>(cV h).elim,fun g h=>(cV h).elim,fun g h=>(cV h).elim,fun g h=>(cV h).elim,fun g h=>h.elim⟩⟩,
   aP _,.inr (.inr ⟨rfl,rfl⟩),fun h=>by omega,.inr (.inr ⟨m.u11,fun i hi _ => ?_,rfl,m.b4⟩)⟩
  ·obtain ⟨a,b,c,e⟩:=m.lv i _ (hat i hi)
   have hI:=hF.2.at_ _ (aK (hat i hi))
   exact ⟨a,by rw [gu (by unfold dY; omega)]; exact b,⟨_,c,rfl,fun h=>by unfold dY at h; omega⟩,⟨_,e,rfl,fun h=>by unfold dY at h; omega⟩,hI.1,by omega,fU⟩
  ·show (-1:Int)+1=((cp (Lf Ls.toArray) B 0 i:Nat):Int)
   unfold cp
   rw [if_pos rfl]
   rfl
 refine ⟨fun _=>False,fun _=>False,⟨fun _ _=>False,.slice none 0 0,.slice none 0 0,.slice none 0 0,[],[],0,[],none,0,-2,⟨⟨-1,none,0,mi,⟨u.b0,u.b1,u.b2,u.b4,u.b5,u.b6,u.b8,fU,hlo,hhi⟩,.inl rfl⟩,
  ⟨u.d0,u.d1,u.d2,u.d3,u.d4,u.d5,⟨_,u.d6⟩,⟨_,u.d7⟩,⟨_,u.d8⟩,⟨_,u.d9⟩,u.d10,⟨_,_,u.d11,rfl,rfl⟩,fU,fB⟩,
  ⟨cB 6 (by omega),dq,⟨⟨none,rfl⟩,by omega⟩,cB 7 (by omega),dq,cB 8 (by omega),dq,fun g h=>(cV h).elim,fun g h=>(cV h).elim,fun g h=>(cV h).elim,fun g h=>(cV h).elim,fun g h=>(cV h).elim,fun g h=>(cV h).elim,fun g h=>h.elim,fun b x h=>h.elim,fun g x h=>(cV h).elim,fun g x h=>(cV h).elim,fun g x h=>(cV h).elim⟩⟩,.inl rfl⟩,rfl⟩
end Go.E
end
section
namespace Go.E
open Go Go.Sort Go.Proofs Go.Proofs.Tryz
def En (lo hi:Option Bytes) (steps:List (Nat × Bytes)):Prop:=∀ x ∈ steps,(x.1=0→lo=none)∧(x.1=1→hi=none)∧(x.1=4∨x.1=5→um lo hi x.2)∧x.2.length≤4294967296
end Go.E
namespace Go.Proofs
open Go Go.E Go.Sort Go.Proofs.Tryz
section
variable {k:au} {d w:World}
set_option maxHeartbeats 4000000 in
theorem nJ {lv sv:Value} {Lv:List (List Sp)} {snap:Nat} {kl kh:Bytes} {bl bh:Bool} {steps:List (Nat × Bytes)} (hv:Sl mf 1 d lv Lv) (hs:Sl DA 2 d sv steps) (hinc:cN d w) (r:RIn Lv snap (qs kl bl) (qs kh bh)) (hkl:kl.length≤4294967296) (hkh:kh.length≤4294967296)
    (hst:En (qs kl bl) (qs kh bh) steps) (hsl:steps.length < 1000000)
    (hk:∀ d2 w2 v l,Gr d w d2 w2→Sl yx 5 d2 v l→Pw (nE (rV Lv snap (qs kl bl) (qs kh bh)) rz) (pX (rV Lv snap (qs kl bl) (qs kh bh)) (-2) false 0 steps) l→k v w2) :
    aX prog 18 #[lv,.int .u64 snap,.agg #[.string ⟨kl.toArray⟩,.bool bl],.agg #[.string ⟨kh.toArray⟩,.bool bh],sv] k w:=by
 have fin:∀ {d5 w5:World} {C U Bf:Nat} {lov hiv fv:Value} {Ls:List Lvl} {n:Nat} {K:au},Gr d w d5 w5→UOk d5 w5 U→sO d5 C→OB d5 lov (qs kl bl)→OB d5 hiv (qs kh bh)→BfOk d5 w5 Bf→qu n d5 w5 fv Ls→Bf≠U→U < n→w.heap.size≤U→w.heap.size≤Bf→(∀ x ∈ Ls,x.I≠Bf)→Ls.map Lvl.L=Lv →
     (∀ w6,(∀ K2:au,(∀ d2 w2 v l,Gr d w d2 w2→Sl yx 5 d2 v l→Pw (nE (rV Lv snap (qs kl bl) (qs kh bh)) rz) (pX (rV Lv snap (qs kl bl) (qs kh bh)) (-2) false 0 steps) l→K2 v w2)→aX prog 64 #[.iface 229 (.pointer (some ⟨U,81,none⟩)),sv] K2 w6)→K (.iface 229 (.pointer (some ⟨U,81,none⟩))) w6) →
     aX prog 65 #[.pointer (some ⟨U,0,none⟩),.pointer (some ⟨C,0,none⟩),.int .u64 snap,lov,hiv,.pointer none,.pointer none,.bool false,.pointer (some ⟨Bf,0,none⟩),fv] K w5:=by
  intro d5 w5 C U Bf lov hiv fv Ls n K g hU hC hL hH hB hF hne hUn hU0 hB0 hBI hm hK
  have hn:Ls.length≤10:=by have:=r.n10; rw [← hm,aS] at this; exact this
  refine DZ hF.1 g.j hU.o hB.o hn hne hU.c hU.f (hB.c 1 (by omega)) hB.c2 (hB.c 4 (by omega)) hB.f hL hH hC.1 hC.2.1 hC.2.2 fun w6 k6 m6 u6=>hK w6 fun K2 hK2 => ?_
  have uc:=IB r hC hB hU hF hne hUn hBI hm hL hH
  have hd6:cN d5 w6:=g.j.keep k6 fun b x h=>by
   rcases h with rfl | ⟨rfl,_⟩
   ·exact hU.o x
   ·exact hB.o x
  have fU:∀ x,w6.frozen? ⟨U,x,none⟩=false:=fun x=>by rw [k6.frozen U x hU.lt]; exact hU.f x
  have fB:∀ x,w6.frozen? ⟨Bf,x,none⟩=false:=fun x=>by rw [k6.frozen Bf x (aD hB.c2)]; exact hB.f x
  have cB:∀ x u,x≠1→x≠2→x≠4→w5.cell? ⟨Bf,x,none⟩=some u→w6.cell? ⟨Bf,x,none⟩=some u:=fun x u h1 h2 h3 hu=>k6.some hu fun h=>by
   rcases h with h | ⟨_,h⟩
   ·exact hne h
   ·omega
  have hF6:qu n d5 w6 fv Ls:=⟨hF.1,hF.2.keep k6 (fun x hx o h=>by
   rcases h with h | ⟨h,_⟩
   ·have:=(hF.2.at_ x hx).2.2.2.1; omega
   ·exact hBI x hx h) (cN.refl _) fun b h _=>h⟩
  have h0:=Da rfl hd6 uc m6 u6 hF6 hne fU fB (fun x hx=>cB x _ (by omega) (by omega) (by omega) (hB.c x (by omega))) (cB 3 _ (by omega) (by omega) (by omega) hB.c3) (cB 9 _ (by omega) (by omega) (by omega) hB.c9) hL hH
  have eG:GB (uG Ls.toArray snap (cG Lv.flatten)) (qs kl bl) (qs kh bh)=GB (GL snap Lv.length (fY Lv) (cG Lv.flatten)) (qs kl bl) (qs kh bh):=by
   unfold uG
   rw [vC hm]
   congr 2
   rw [← hm]; simp
  refine tE uc.wi h0 (hs.inc DA.mono g.i) (fun x hx => ?_) hsl fun a w7 v l b1 b2 b3 b4 b5 b6 => ?_
  ·obtain ⟨s1,s2,s3,s4⟩:=hst x hx
   exact ⟨fun h=>⟨trivial,s1 h⟩,fun h=>⟨trivial,s2 h⟩,fun h=>⟨trivial,s3 h⟩,s4⟩
  ·have hx:bj w w6:=g.x.tr k6 fun b o hb h=>by
     rcases h with h | ⟨h,_⟩ <;> omega
   refine hK2 a w7 v l ⟨hx.tr b4 fun b o hb h => ?_,g.i.trans b1,b2,fun b hb ho=>b3 b (aI hb hx.size) (g.o b hb ho)⟩ b5 ?_
   ·rcases h with h | h | ⟨y,h⟩ | h | h
    ·omega
    ·omega
    ·rcases h with (⟨h,_⟩ | ⟨h,_⟩ | ⟨i,hi,h⟩) | ⟨h,_⟩
     ·omega
     ·omega
     ·have hat:Ls.toArray[i]! ∈ Ls:=by rw [aH Ls.toArray i hi]; simpa using ag (by simpa using hi)
      have:=(hF.2.at_ _ hat).2.2.2.1
      omega
     ·omega
    ·exact h
    ·exact h
   ·have eV:uV Ls.toArray snap (cG Lv.flatten) (qs kl bl) (qs kh bh)=rV Lv snap (qs kl bl) (qs kh bh):=congrArg Vw eG
    rw [← eV]; exact b6
 obtain ⟨la,lc,rfl⟩:=hv.form
 obtain ⟨sa,sc,rfl⟩:=hs.form
 refine ae [.tmp 10] func18 ?_
 refine an ?_
 refine ay (sq [1] (.read 2 (.read 4 (sq [7,10] (.alt (.eff 0 [2,4] (.alt (.eff 3 [4] (.alt (.eff 5 [] (.alt (.eff 6 [2,4] (.eff 8 [] (.eff 9 [] (.eff 11 [] (sq [12] .done))))) (.eff 8 [] (.eff 6 [2,4] (.eff 9 [] (.eff 11 [] (sq [12] .done))))))) (.eff 6 [2,4] (.eff 5 [] (.eff 8 [] (.eff 9 [] (.eff 11 [] (sq [12] .done)))))))) (.eff 6 [2,4] (.eff 3 [4] (.eff 5 [] (.eff 8 [] (.eff 9 [] (.eff 11 [] (sq [12] .done))))))))) (.eff 6 [2,4] (.eff 0 [2,4] (.eff 3 [4] (.eff 5 [] (.eff 8 [] (.eff 9 [] (.eff 11 [] (sq [12] .done))))))))))))) ?_
 generalize hO:Obj.cells _ 154=O
 obtain ⟨wc,hw1⟩:∃ wc,wc=(((w.alloc (.cells #[.string ⟨kl.toArray⟩,.bool bl] 37)).alloc (.cells #[.string ⟨kh.toArray⟩,.bool bh] 37)).alloc O).drew:=⟨_,rfl⟩
 rw [← hw1]
 have x1:bj w wc:=by rw [hw1]; exact Keep.drew (((aM _).trans (aM _)).trans (aM _))
 have hz:w.heap.size+3≤wc.heap.size:=by rw [hw1,World.size_drew,World.size_alloc,World.size_alloc,World.size_alloc]; omega
 obtain ⟨dc,hdc⟩:∃ dc,dc=d:=⟨_,rfl⟩
 have t:Gr d w dc wc:=by rw [hdc]; exact Gr.ext hinc x1
 have p0:wc.cell? ⟨w.heap.size,0,none⟩=some (.string ⟨kl.toArray⟩):=by rw [hw1]; exact bk @aA
 have p1:wc.cell? ⟨w.heap.size,1,none⟩=some (.bool bl):=by rw [hw1]; exact bk @aA
 have q0:wc.cell? ⟨w.heap.size+1,0,none⟩=some (.string ⟨kh.toArray⟩):=by rw [hw1]; exact bk @aA
 have q1:wc.cell? ⟨w.heap.size+1,1,none⟩=some (.bool bh):=by rw [hw1]; exact bk @aA
 have hU:UOk dc wc (w.heap.size+2):=by
  refine ⟨fun x hx => ?_,fun x => ?_,by rw [hdc]; exact hinc.out (by omega)⟩
  rotate_left
  ·have key:∀ (v:World) (c:Array Value) (t:TypeId),v.heap.size=w.heap.size+2→(v.alloc (.cells c t)).drew.frozen? ⟨w.heap.size+2,x,none⟩=false:=fun v c t hv=>by rw [← hv]; exact World.frozen?_alloc_new v c t x
   rw [hw1,← hO]
   exact key _ _ _ (by rw [World.size_alloc,World.size_alloc])
  rw [hw1,← hO]
  refine bf @aA ?_
  exact ⟨_,aC (show x < 95 from hx)⟩
 have hlen:∀ x ∈ Lv,x.length < 1000000∧∀ s ∈ x,wm s:=fun x hx=>by
  obtain ⟨a,b⟩:=r.len x hx
  refine ⟨by omega,fun s hs => ?_⟩
  obtain ⟨b1,b2,b3,_,b5⟩:=b s hs
  exact ⟨by omega,by omega,by omega,b5⟩
 clear hw1 x1 hdc
 refine fI @p0 @p1 @q0 @q1 ?_
 refine ⟨?_,?_⟩
 ·
  refine pA t.j fun dc wc C g _ hC0 hC1 hC5 => ?_
  have t:=t.trans g
  have hz:=ai hz g.x.size
  have p0:=g.x.cell p0
  have p1:=g.x.cell p1
  have q0:=g.x.cell q0
  have q1:=g.x.cell q1
  have hU:=hU.gr g
  (try have hC:=hC.gr g)
  (try have hL:=OB.inc hL g.i)
  (try have hH:=OB.inc hH g.i)
  (try have hB:=hB.gr g)
  (try have hBl:=aI hBl g.x.size)
  (try have hF:=hF.gr g)
  have hC:sO dc C:=⟨hC0,hC1,hC5⟩
  refine fI @p0 @p1 @q0 @q1 ?_
  refine ⟨?_,?_⟩
  ·
   refine eO t.j hkl fun dc wc lov g hLn => ?_
   have t:=t.trans g
   have hz:=ai hz g.x.size
   have p0:=g.x.cell p0
   have p1:=g.x.cell p1
   have q0:=g.x.cell q0
   have q1:=g.x.cell q1
   have hU:=hU.gr g
   (try have hC:=hC.gr g)
   (try have hL:=OB.inc hL g.i)
   (try have hH:=OB.inc hH g.i)
   (try have hB:=hB.gr g)
   (try have hBl:=aI hBl g.x.size)
   (try have hF:=hF.gr g)
   have hL:=hLn
   refine fI @p0 @p1 @q0 @q1 ?_
   refine ⟨?_,?_⟩
   ·
    refine eO t.j hkh fun dc wc hiv g hHn => ?_
    have t:=t.trans g
    have hz:=ai hz g.x.size
    have p0:=g.x.cell p0
    have p1:=g.x.cell p1
    have q0:=g.x.cell q0
    have q1:=g.x.cell q1
    have hU:=hU.gr g
    (try have hC:=hC.gr g)
    (try have hL:=OB.inc hL g.i)
    (try have hH:=OB.inc hH g.i)
    (try have hB:=hB.gr g)
    (try have hBl:=aI hBl g.x.size)
    (try have hF:=hF.gr g)
    have hH:=hHn
    refine fI @p0 @p1 @q0 @q1 ?_
    refine ⟨?_,?_⟩
    ·
     generalize hO2:Obj.cells _ 172=O2
     obtain ⟨Bf,hBe⟩:∃ b,b=wc.heap.size:=⟨_,rfl⟩
     (try rw [← hBe])
     have hBU:w.heap.size+3≤Bf:=by omega
     have hBn:BfOk dc (wc.alloc O2) Bf:=by
      rw [hBe,← hO2]
      exact ⟨fun x hx=>by (rcases hx with rfl | rfl | hx | rfl); exact aA (aE _) (by omega); exact aA (aE _) (by omega); (have h:x=4∨x=5∨x=6∨x=7∨x=8:=by omega); (rcases h with rfl | rfl | rfl | rfl | rfl <;> exact aA (aE _) (by omega)); exact aA (aE _) (by omega),aA (aE _) (by omega),aA (aE _) (by omega),aA (aE _) (by omega),fun x=>by simp (disch:=first | exact dZ | fail) only [go_sem],t.j.out (aE _)⟩
     have g:Gr dc wc dc (wc.alloc O2):=Gr.ext t.j (aM _)
     (try have hBI:∀ x ∈ Ls,x.I≠Bf:=fun x hx=>by have:=(hF.2.at_ x hx).2.2.2.2; omega)
     have hBl:Bf < (wc.alloc O2).heap.size:=by rw [World.size_alloc]; omega
     have t:=t.trans g
     have hz:=ai hz g.x.size
     have p0:=g.x.cell p0
     have p1:=g.x.cell p1
     have q0:=g.x.cell q0
     have q1:=g.x.cell q1
     have hU:=hU.gr g
     (try have hC:=hC.gr g)
     (try have hL:=OB.inc hL g.i)
     (try have hH:=OB.inc hH g.i)
     (try have hB:=hB.gr g)
     (try have hBl:=aI hBl g.x.size)
     (try have hF:=hF.gr g)
     have hB:=hBn
     obtain ⟨wd,hwd⟩:∃ wd,wd=wc.alloc O2:=⟨_,rfl⟩
     rw [← hwd] at t hz p0 p1 q0 q1 hU hB hBl ⊢
     (try rw [← hwd] at hF)
     obtain ⟨nF,hnF⟩:∃ n,n=wd.heap.size:=⟨_,rfl⟩
     have hUn:w.heap.size+2 < nF:=by omega
     refine gW (hv.inc mf.mono t.i) (by have:=r.n10; omega) hlen t.j fun dc wc fv Ls g f1 f2 hm => ?_
     rw [← hnF] at f2
     (try have hBl:Bf < nF:=by omega)
     (try have hBI:∀ x ∈ Ls,x.I≠Bf:=fun x hx=>by have:=(f2.at_ x hx).2.2.2.1; omega)
     have t:=t.trans g
     have hz:=ai hz g.x.size
     have p0:=g.x.cell p0
     have p1:=g.x.cell p1
     have q0:=g.x.cell q0
     have q1:=g.x.cell q1
     have hU:=hU.gr g
     (try have hC:=hC.gr g)
     (try have hL:=OB.inc hL g.i)
     (try have hH:=OB.inc hH g.i)
     (try have hB:=hB.gr g)
     (try have hBl:=aI hBl g.x.size)
     (try have hF:=hF.gr g)
     have hF:qu nF dc wc fv Ls:=⟨f1,f2⟩
     refine fI @p0 @p1 @q0 @q1 ?_
     refine fin t hU hC hL hH hB hF (by omega) hUn (by omega) (by omega) hBI hm fun w6 hw6 => ?_
     refine an ?_
     refine hw6 _ fun d8 w8 v l g8 s8 p8 => ?_
     refine an ?_
     exact hk d8 w8 v l g8 s8 p8
    ·
     obtain ⟨nF,hnF⟩:∃ n,n=wc.heap.size:=⟨_,rfl⟩
     have hUn:w.heap.size+2 < nF:=by omega
     refine gW (hv.inc mf.mono t.i) (by have:=r.n10; omega) hlen t.j fun dc wc fv Ls g f1 f2 hm => ?_
     rw [← hnF] at f2
     (try have hBl:Bf < nF:=by omega)
     (try have hBI:∀ x ∈ Ls,x.I≠Bf:=fun x hx=>by have:=(f2.at_ x hx).2.2.2.1; omega)
     have t:=t.trans g
     have hz:=ai hz g.x.size
     have p0:=g.x.cell p0
     have p1:=g.x.cell p1
     have q0:=g.x.cell q0
     have q1:=g.x.cell q1
     have hU:=hU.gr g
     (try have hC:=hC.gr g)
     (try have hL:=OB.inc hL g.i)
     (try have hH:=OB.inc hH g.i)
     (try have hB:=hB.gr g)
     (try have hBl:=aI hBl g.x.size)
     (try have hF:=hF.gr g)
     have hF:qu nF dc wc fv Ls:=⟨f1,f2⟩
     refine fI @p0 @p1 @q0 @q1 ?_
     generalize hO2:Obj.cells _ 172=O2
     obtain ⟨Bf,hBe⟩:∃ b,b=wc.heap.size:=⟨_,rfl⟩
     (try rw [← hBe])
     have hBU:w.heap.size+3≤Bf:=by omega
     have hBn:BfOk dc (wc.alloc O2) Bf:=by
      rw [hBe,← hO2]
      exact ⟨fun x hx=>by (rcases hx with rfl | rfl | hx | rfl); exact aA (aE _) (by omega); exact aA (aE _) (by omega); (have h:x=4∨x=5∨x=6∨x=7∨x=8:=by omega); (rcases h with rfl | rfl | rfl | rfl | rfl <;> exact aA (aE _) (by omega)); exact aA (aE _) (by omega),aA (aE _) (by omega),aA (aE _) (by omega),aA (aE _) (by omega),fun x=>by simp (disch:=first | exact dZ | fail) only [go_sem],t.j.out (aE _)⟩
     have g:Gr dc wc dc (wc.alloc O2):=Gr.ext t.j (aM _)
     (try have hBI:∀ x ∈ Ls,x.I≠Bf:=fun x hx=>by have:=(hF.2.at_ x hx).2.2.2.2; omega)
     have hBl:Bf < (wc.alloc O2).heap.size:=by rw [World.size_alloc]; omega
     have t:=t.trans g
     have hz:=ai hz g.x.size
     have p0:=g.x.cell p0
     have p1:=g.x.cell p1
     have q0:=g.x.cell q0
     have q1:=g.x.cell q1
     have hU:=hU.gr g
     (try have hC:=hC.gr g)
     (try have hL:=OB.inc hL g.i)
     (try have hH:=OB.inc hH g.i)
     (try have hB:=hB.gr g)
     (try have hBl:=aI hBl g.x.size)
     (try have hF:=hF.gr g)
     have hB:=hBn
     obtain ⟨wd,hwd⟩:∃ wd,wd=wc.alloc O2:=⟨_,rfl⟩
     rw [← hwd] at t hz p0 p1 q0 q1 hU hB hBl ⊢
     (try rw [← hwd] at hF)
     refine fin t hU hC hL hH hB hF (by omega) hUn (by omega) (by omega) hBI hm fun w6 hw6 => ?_
     refine an ?_
     refine hw6 _ fun d8 w8 v l g8 s8 p8 => ?_
     refine an ?_
     exact hk d8 w8 v l g8 s8 p8
   ·
    generalize hO2:Obj.cells _ 172=O2
    obtain ⟨Bf,hBe⟩:∃ b,b=wc.heap.size:=⟨_,rfl⟩
    (try rw [← hBe])
    have hBU:w.heap.size+3≤Bf:=by omega
    have hBn:BfOk dc (wc.alloc O2) Bf:=by
     rw [hBe,← hO2]
     exact ⟨fun x hx=>by (rcases hx with rfl | rfl | hx | rfl); exact aA (aE _) (by omega); exact aA (aE _) (by omega); (have h:x=4∨x=5∨x=6∨x=7∨x=8:=by omega); (rcases h with rfl | rfl | rfl | rfl | rfl <;> exact aA (aE _) (by omega)); exact aA (aE _) (by omega),aA (aE _) (by omega),aA (aE _) (by omega),aA (aE _) (by omega),fun x=>by simp (disch:=first | exact dZ | fail) only [go_sem],t.j.out (aE _)⟩
    have g:Gr dc wc dc (wc.alloc O2):=Gr.ext t.j (aM _)
    (try have hBI:∀ x ∈ Ls,x.I≠Bf:=fun x hx=>by have:=(hF.2.at_ x hx).2.2.2.2; omega)
    have hBl:Bf < (wc.alloc O2).heap.size:=by rw [World.size_alloc]; omega
    have t:=t.trans g
    have hz:=ai hz g.x.size
    have p0:=g.x.cell p0
    have p1:=g.x.cell p1
    have q0:=g.x.cell q0
    have q1:=g.x.cell q1
    have hU:=hU.gr g
    (try have hC:=hC.gr g)
    (try have hL:=OB.inc hL g.i)
    (try have hH:=OB.inc hH g.i)
    (try have hB:=hB.gr g)
    (try have hBl:=aI hBl g.x.size)
    (try have hF:=hF.gr g)
    have hB:=hBn
    obtain ⟨wd,hwd⟩:∃ wd,wd=wc.alloc O2:=⟨_,rfl⟩
    rw [← hwd] at t hz p0 p1 q0 q1 hU hB hBl ⊢
    (try rw [← hwd] at hF)
    refine eO t.j hkh fun dc wc hiv g hHn => ?_
    have t:=t.trans g
    have hz:=ai hz g.x.size
    have p0:=g.x.cell p0
    have p1:=g.x.cell p1
    have q0:=g.x.cell q0
    have q1:=g.x.cell q1
    have hU:=hU.gr g
    (try have hC:=hC.gr g)
    (try have hL:=OB.inc hL g.i)
    (try have hH:=OB.inc hH g.i)
    (try have hB:=hB.gr g)
    (try have hBl:=aI hBl g.x.size)
    (try have hF:=hF.gr g)
    have hH:=hHn
    refine fI @p0 @p1 @q0 @q1 ?_
    obtain ⟨nF,hnF⟩:∃ n,n=wc.heap.size:=⟨_,rfl⟩
    have hUn:w.heap.size+2 < nF:=by omega
    refine gW (hv.inc mf.mono t.i) (by have:=r.n10; omega) hlen t.j fun dc wc fv Ls g f1 f2 hm => ?_
    rw [← hnF] at f2
    (try have hBl:Bf < nF:=by omega)
    (try have hBI:∀ x ∈ Ls,x.I≠Bf:=fun x hx=>by have:=(f2.at_ x hx).2.2.2.1; omega)
    have t:=t.trans g
    have hz:=ai hz g.x.size
    have p0:=g.x.cell p0
    have p1:=g.x.cell p1
    have q0:=g.x.cell q0
    have q1:=g.x.cell q1
    have hU:=hU.gr g
    (try have hC:=hC.gr g)
    (try have hL:=OB.inc hL g.i)
    (try have hH:=OB.inc hH g.i)
    (try have hB:=hB.gr g)
    (try have hBl:=aI hBl g.x.size)
    (try have hF:=hF.gr g)
    have hF:qu nF dc wc fv Ls:=⟨f1,f2⟩
    refine fI @p0 @p1 @q0 @q1 ?_
    refine fin t hU hC hL hH hB hF (by omega) hUn (by omega) (by omega) hBI hm fun w6 hw6 => ?_
    refine an ?_
    refine hw6 _ fun d8 w8 v l g8 s8 p8 => ?_
    refine an ?_
    exact hk d8 w8 v l g8 s8 p8
  ·
   generalize hO2:Obj.cells _ 172=O2
   obtain ⟨Bf,hBe⟩:∃ b,b=wc.heap.size:=⟨_,rfl⟩
   (try rw [← hBe])
   have hBU:w.heap.size+3≤Bf:=by omega
   have hBn:BfOk dc (wc.alloc O2) Bf:=by
    rw [hBe,← hO2]
    exact ⟨fun x hx=>by (rcases hx with rfl | rfl | hx | rfl); exact aA (aE _) (by omega); exact aA (aE _) (by omega); (have h:x=4∨x=5∨x=6∨x=7∨x=8:=by omega); (rcases h with rfl | rfl | rfl | rfl | rfl <;> exact aA (aE _) (by omega)); exact aA (aE _) (by omega),aA (aE _) (by omega),aA (aE _) (by omega),aA (aE _) (by omega),fun x=>by simp (disch:=first | exact dZ | fail) only [go_sem],t.j.out (aE _)⟩
   have g:Gr dc wc dc (wc.alloc O2):=Gr.ext t.j (aM _)
   (try have hBI:∀ x ∈ Ls,x.I≠Bf:=fun x hx=>by have:=(hF.2.at_ x hx).2.2.2.2; omega)
   have hBl:Bf < (wc.alloc O2).heap.size:=by rw [World.size_alloc]; omega
   have t:=t.trans g
   have hz:=ai hz g.x.size
   have p0:=g.x.cell p0
   have p1:=g.x.cell p1
   have q0:=g.x.cell q0
   have q1:=g.x.cell q1
   have hU:=hU.gr g
   (try have hC:=hC.gr g)
   (try have hL:=OB.inc hL g.i)
   (try have hH:=OB.inc hH g.i)
   (try have hB:=hB.gr g)
   (try have hBl:=aI hBl g.x.size)
   (try have hF:=hF.gr g)
   have hB:=hBn
   obtain ⟨wd,hwd⟩:∃ wd,wd=wc.alloc O2:=⟨_,rfl⟩
   rw [← hwd] at t hz p0 p1 q0 q1 hU hB hBl ⊢
   (try rw [← hwd] at hF)
   refine eO t.j hkl fun dc wc lov g hLn => ?_
   have t:=t.trans g
   have hz:=ai hz g.x.size
   have p0:=g.x.cell p0
   have p1:=g.x.cell p1
   have q0:=g.x.cell q0
   have q1:=g.x.cell q1
   have hU:=hU.gr g
   (try have hC:=hC.gr g)
   (try have hL:=OB.inc hL g.i)
   (try have hH:=OB.inc hH g.i)
   (try have hB:=hB.gr g)
   (try have hBl:=aI hBl g.x.size)
   (try have hF:=hF.gr g)
   have hL:=hLn
   refine fI @p0 @p1 @q0 @q1 ?_
   refine eO t.j hkh fun dc wc hiv g hHn => ?_
   have t:=t.trans g
   have hz:=ai hz g.x.size
   have p0:=g.x.cell p0
   have p1:=g.x.cell p1
   have q0:=g.x.cell q0
   have q1:=g.x.cell q1
   have hU:=hU.gr g
   (try have hC:=hC.gr g)
   (try have hL:=OB.inc hL g.i)
   (try have hH:=OB.inc hH g.i)
   (try have hB:=hB.gr g)
   (try have hBl:=aI hBl g.x.size)
   (try have hF:=hF.gr g)
   have hH:=hHn
   refine fI @p0 @p1 @q0 @q1 ?_
   obtain ⟨nF,hnF⟩:∃ n,n=wc.heap.size:=⟨_,rfl⟩
   have hUn:w.heap.size+2 < nF:=by omega
   refine gW (hv.inc mf.mono t.i) (by have:=r.n10; omega) hlen t.j fun dc wc fv Ls g f1 f2 hm => ?_
   rw [← hnF] at f2
   (try have hBl:Bf < nF:=by omega)
   (try have hBI:∀ x ∈ Ls,x.I≠Bf:=fun x hx=>by have:=(f2.at_ x hx).2.2.2.1; omega)
   have t:=t.trans g
   have hz:=ai hz g.x.size
   have p0:=g.x.cell p0
   have p1:=g.x.cell p1
   have q0:=g.x.cell q0
   have q1:=g.x.cell q1
   have hU:=hU.gr g
   (try have hC:=hC.gr g)
   (try have hL:=OB.inc hL g.i)
   (try have hH:=OB.inc hH g.i)
   (try have hB:=hB.gr g)
   (try have hBl:=aI hBl g.x.size)
   (try have hF:=hF.gr g)
   have hF:qu nF dc wc fv Ls:=⟨f1,f2⟩
   refine fI @p0 @p1 @q0 @q1 ?_
   refine fin t hU hC hL hH hB hF (by omega) hUn (by omega) (by omega) hBI hm fun w6 hw6 => ?_
   refine an ?_
   refine hw6 _ fun d8 w8 v l g8 s8 p8 => ?_
   refine an ?_
   exact hk d8 w8 v l g8 s8 p8
 ·
  generalize hO2:Obj.cells _ 172=O2
  obtain ⟨Bf,hBe⟩:∃ b,b=wc.heap.size:=⟨_,rfl⟩
  (try rw [← hBe])
  have hBU:w.heap.size+3≤Bf:=by omega
  have hBn:BfOk dc (wc.alloc O2) Bf:=by
   rw [hBe,← hO2]
   exact ⟨fun x hx=>by (rcases hx with rfl | rfl | hx | rfl); exact aA (aE _) (by omega); exact aA (aE _) (by omega); (have h:x=4∨x=5∨x=6∨x=7∨x=8:=by omega); (rcases h with rfl | rfl | rfl | rfl | rfl <;> exact aA (aE _) (by omega)); exact aA (aE _) (by omega),aA (aE _) (by omega),aA (aE _) (by omega),aA (aE _) (by omega),fun x=>by simp (disch:=first | exact dZ | fail) only [go_sem],t.j.out (aE _)⟩
  have g:Gr dc wc dc (wc.alloc O2):=Gr.ext t.j (aM _)
  (try have hBI:∀ x ∈ Ls,x.I≠Bf:=fun x hx=>by have:=(hF.2.at_ x hx).2.2.2.2; omega)
  have hBl:Bf < (wc.alloc O2).heap.size:=by rw [World.size_alloc]; omega
  have t:=t.trans g
  have hz:=ai hz g.x.size
  have p0:=g.x.cell p0
  have p1:=g.x.cell p1
  have q0:=g.x.cell q0
  have q1:=g.x.cell q1
  have hU:=hU.gr g
  (try have hC:=hC.gr g)
  (try have hL:=OB.inc hL g.i)
  (try have hH:=OB.inc hH g.i)
  (try have hB:=hB.gr g)
  (try have hBl:=aI hBl g.x.size)
  (try have hF:=hF.gr g)
  have hB:=hBn
  obtain ⟨wd,hwd⟩:∃ wd,wd=wc.alloc O2:=⟨_,rfl⟩
  rw [← hwd] at t hz p0 p1 q0 q1 hU hB hBl ⊢
  (try rw [← hwd] at hF)
  refine pA t.j fun dc wc C g _ hC0 hC1 hC5 => ?_
  have t:=t.trans g
  have hz:=ai hz g.x.size
  have p0:=g.x.cell p0
  have p1:=g.x.cell p1
  have q0:=g.x.cell q0
  have q1:=g.x.cell q1
  have hU:=hU.gr g
  (try have hC:=hC.gr g)
  (try have hL:=OB.inc hL g.i)
  (try have hH:=OB.inc hH g.i)
  (try have hB:=hB.gr g)
  (try have hBl:=aI hBl g.x.size)
  (try have hF:=hF.gr g)
  have hC:sO dc C:=⟨hC0,hC1,hC5⟩
  refine fI @p0 @p1 @q0 @q1 ?_
  refine eO t.j hkl fun dc wc lov g hLn => ?_
  have t:=t.trans g
  have hz:=ai hz g.x.size
  have p0:=g.x.cell p0
  have p1:=g.x.cell p1
  have q0:=g.x.cell q0
  have q1:=g.x.cell q1
  have hU:=hU.gr g
  (try have hC:=hC.gr g)
  (try have hL:=OB.inc hL g.i)
  (try have hH:=OB.inc hH g.i)
  (try have hB:=hB.gr g)
  (try have hBl:=aI hBl g.x.size)
  (try have hF:=hF.gr g)
  have hL:=hLn
  refine fI @p0 @p1 @q0 @q1 ?_
  refine eO t.j hkh fun dc wc hiv g hHn => ?_
  have t:=t.trans g
  have hz:=ai hz g.x.size
  have p0:=g.x.cell p0
  have p1:=g.x.cell p1
  have q0:=g.x.cell q0
  have q1:=g.x.cell q1
  have hU:=hU.gr g
  (try have hC:=hC.gr g)
  (try have hL:=OB.inc hL g.i)
  (try have hH:=OB.inc hH g.i)
  (try have hB:=hB.gr g)
  (try have hBl:=aI hBl g.x.size)
  (try have hF:=hF.gr g)
  have hH:=hHn
  refine fI @p0 @p1 @q0 @q1 ?_
  obtain ⟨nF,hnF⟩:∃ n,n=wc.heap.size:=⟨_,rfl⟩
  have hUn:w.heap.size+2 < nF:=by omega
  refine gW (hv.inc mf.mono t.i) (by have:=r.n10; omega) hlen t.j fun dc wc fv Ls g f1 f2 hm => ?_
  rw [← hnF] at f2
  (try have hBl:Bf < nF:=by omega)
  (try have hBI:∀ x ∈ Ls,x.I≠Bf:=fun x hx=>by have:=(f2.at_ x hx).2.2.2.1; omega)
  have t:=t.trans g
  have hz:=ai hz g.x.size
  have p0:=g.x.cell p0
  have p1:=g.x.cell p1
  have q0:=g.x.cell q0
  have q1:=g.x.cell q1
  have hU:=hU.gr g
  (try have hC:=hC.gr g)
  (try have hL:=OB.inc hL g.i)
  (try have hH:=OB.inc hH g.i)
  (try have hB:=hB.gr g)
  (try have hBl:=aI hBl g.x.size)
  (try have hF:=hF.gr g)
  have hF:qu nF dc wc fv Ls:=⟨f1,f2⟩
  refine fI @p0 @p1 @q0 @q1 ?_
  refine fin t hU hC hL hH hB hF (by omega) hUn (by omega) (by omega) hBI hm fun w6 hw6 => ?_
  refine an ?_
  refine hw6 _ fun d8 w8 v l g8 s8 p8 => ?_
  refine an ?_
  exact hk d8 w8 v l g8 s8 p8
end
end Go.Proofs
end
