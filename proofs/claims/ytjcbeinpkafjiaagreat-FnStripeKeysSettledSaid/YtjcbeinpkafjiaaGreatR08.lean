/- Parts of the proof: Q, R, T, Y. -/
import Derived.Test.YtjcbeinpkafjiaaGreatR07
set_option linter.all false
set_option maxRecDepth 10000
section
namespace Go.E
open Go Go.Sort Go.Proofs Go.Proofs.Tryz
structure Lvl where
 I:Nat
 b:Nat
 o:Nat
 L:List Sp
 deriving Inhabited
structure MC (d:World) (U Bf:Nat) (Ls:Array Lvl):Prop where
 oU:cq d U
 oB:cq d Bf
 ne:Bf≠U
 n10:Ls.size≤10
 oI:∀ i,i < Ls.size→cq d Ls[i]!.I
 iU:∀ i,i < Ls.size→Ls[i]!.I≠U
 iB:∀ i,i < Ls.size→Ls[i]!.I≠Bf
 sp:∀ i,i < Ls.size→jf d Ls[i]!.b Ls[i]!.o Ls[i]!.L
 wf:∀ i,i < Ls.size→Wf Ls[i]!.L
 sz:∀ i,i < Ls.size→Ls[i]!.L.length < 1000000
 inj:∀ i j,i < Ls.size→j < Ls.size→i≠j→Ls[i]!.I≠Ls[j]!.I
 kn:∀ i,i < Ls.size→∀ j,j < Ls[i]!.L.length→Ls[i]!.L[j]!.ks≠[]
structure MB (d w:World) (U o Bf f:Nat) (Ls:Array Lvl) (pos:Nat→Int):Prop where
 bufs:w.cell? ⟨U,o,none⟩=some (.pointer (some ⟨Bf,f,none⟩))
 lvls:w.cell? ⟨Bf,f+1,none⟩=some (.slice (some ⟨U,o+10,none⟩) Ls.size 10)
 lv:∀ i,i < Ls.size→LvAt d w U (o+10+i * 4) Ls[i]!.I Ls[i]!.b Ls[i]!.o Ls[i]!.L (pos i)
 err:w.cell? ⟨U,o+8,none⟩=some .nilIface
 fU:∀ x,w.frozen? ⟨U,x,none⟩=false
 fB:∀ x,w.frozen? ⟨Bf,x,none⟩=false
 inc:bz d w
def np (U o Bf f:Nat) (Ls:Array Lvl):Nat→Nat→Prop:=fun b x=>b=U∧o+10≤x∧x < o+70∨b=Bf∧f+3≤x∧x≤f+4∨∃ i,i < Ls.size∧b=Ls[i]!.I∧x=2
def jb (pos:Nat→Int) (r:Nat) (p:Int):Nat→Int:=fun i=>if i=r then p else pos i
def Ce (Ls:Array Lvl) (pos:Nat→Int) (i:Nat):Bytes:=eg Ls[i]!.L (pos i).toNat
structure MH (w:World) (U o Bf f:Nat) (Ls:Array Lvl) (pos:Nat→Int) (rev:Bool) (hp:Array Nat):Prop where
 at_:HeapAt w Bf (f+2) U o rev hp
 ok:FU rev (Ce Ls pos) hp
 mem:∀ x,x ∈ hp.toList↔x < Ls.size∧ez Ls[x]!.L (pos x)
 nd:hp.toList.Nodup
section
variable {d w w2:World} {U o Bf f:Nat} {Ls:Array Lvl} {pos:Nat→Int} {rev:Bool} {hp:Array Nat}
theorem MB.drew (g:MB d w U o Bf f Ls pos):MB d w.drew U o Bf f Ls pos:=⟨g.bufs,g.lvls,fun i hi=>(g.lv i hi).drew,g.err,g.fU,g.fB,g.inc⟩
theorem MH.drew (g:MH w U o Bf f Ls pos rev hp):MH w.drew U o Bf f Ls pos rev hp:=⟨g.at_.drew,g.ok,g.mem,g.nd⟩
theorem HeapAt.keep {H h:Nat} {M:Nat→Nat→Prop} (g:HeapAt w H h U o rev hp) (hk:Keep M w w2) (h1:∀ x,h≤x→x≤h+2→¬ M H x) (h2:∀ x,o+50≤x→x < o+70→¬ M U x) (hU:U < w.heap.size):HeapAt w2 H h U o rev hp where
 ex x q1 q2:=by obtain ⟨v,hv⟩:=g.ex x q1 q2; exact ⟨v,hk.some hv (h2 x q1 q2)⟩
 c0:=hk.some g.c0 (h1 _ (by omega) (by omega))
 c1:=hk.some g.c1 (h1 _ (by omega) (by omega))
 c2:=hk.some g.c2 (h1 _ (by omega) (by omega))
 ptr j hj:=hk.some (g.ptr j hj) (h2 _ (by omega) (by have:=g.room; omega))
 ix j hj:=hk.some (g.ix j hj) (h2 _ (by omega) (by have:=g.room; omega))
 room:=g.room
 lv:=g.lv
 fU x:=by rw [hk.frozen U x hU]; exact g.fU x
 fH x:=by rw [hk.frozen H x (aE g.c0)]; exact g.fH x
 ne:=g.ne
theorem MB.hkeys (g:MB d w U o Bf f Ls pos) (h:∀ x,x ∈ hp.toList→x < Ls.size∧ez Ls[x]!.L (pos x)):gv d w U o (Ce Ls pos) hp hp.size:=by
 intro j hj
 have hm:hp[j]! ∈ hp.toList:=by rw [aG hp j hj]; simp
 obtain ⟨h1,h2⟩:=h _ hm
 obtain ⟨v,q1,_,q2⟩:=(g.lv _ h1).ky
 exact ⟨v,q1,(q2 h2).2⟩
theorem MB.keep {M:Nat→Nat→Prop} (c:MC d U Bf Ls) (g:MB d w U o Bf f Ls pos) (hk:Keep M w w2) (h1:¬ M U o) (h2:¬ M Bf (f+1)) (h3:¬ M U (o+8)) (h4:∀ x,o+10≤x→x < o+50→¬ M U x) (h5:∀ i,i < Ls.size→∀ x,¬ M Ls[i]!.I x)
    (h6:∀ x y,M x y→d.cell? ⟨x,y,none⟩=none):MB d w2 U o Bf f Ls pos where
 bufs:=hk.some g.bufs h1
 lvls:=hk.some g.lvls h2
 lv i hi:=(g.lv i hi).keep hk (fun x hx hx2=>h4 x (by omega) (by have:=c.n10; omega)) (h5 i hi)
 err:=hk.some g.err h3
 fU x:=by rw [hk.frozen U x (aE g.bufs)]; exact g.fU x
 fB x:=by rw [hk.frozen Bf x (aE g.lvls)]; exact g.fB x
 inc:=g.inc.keep hk h6
theorem mX {r:Nat} (c:MC d U Bf Ls) (hr:r < Ls.size) (b x:Nat) (h:Ev U (o+10+r * 4) Ls[r]!.I b x):np U o Bf f Ls b x:=by
 have:=c.n10
 rcases h with ⟨h1,h2,h3⟩ | ⟨h1,h2⟩
 ·exact .inl ⟨h1,by omega,by omega⟩
 ·exact .inr (.inr ⟨r,hr,h1,h2⟩)
theorem FV (c:MC d U Bf Ls) (x y:Nat) (h:np U o Bf f Ls x y):d.cell? ⟨x,y,none⟩=none:=by
 rcases h with ⟨rfl,_⟩ | ⟨rfl,_⟩ | ⟨i,hi,rfl,_⟩
 ·exact c.oU _
 ·exact c.oB _
 ·exact c.oI i hi _
theorem MB.step (c:MC d U Bf Ls) (g:MB d w U o Bf f Ls pos) {r:Nat} (hr:r < Ls.size) {p:Int} (hl:LvAt d w2 U (o+10+r * 4) Ls[r]!.I Ls[r]!.b Ls[r]!.o Ls[r]!.L p) (hk:Keep (Ev U (o+10+r * 4) Ls[r]!.I) w w2) :
    MB d w2 U o Bf f Ls (jb pos r p) where
 bufs:=hk.some g.bufs (by rintro (⟨_,h,_⟩ | ⟨h,_⟩); omega; exact c.iU r hr h.symm)
 lvls:=hk.some g.lvls (by rintro (⟨h,_⟩ | ⟨h,_⟩); exact c.ne h; exact c.iB r hr h.symm)
 lv i hi:=by
  unfold jb
  by_cases hir:i=r
  ·subst hir; rw [if_pos rfl]; exact hl
  ·rw [if_neg hir]
   refine (g.lv i hi).keep hk ?_ ?_
   ·rintro x h1 h2 (⟨_,h3,h4⟩ | ⟨h,_⟩)
    ·omega
    ·exact c.iU r hr h.symm
   ·rintro x (⟨h,_⟩ | ⟨h,_⟩)
    ·exact c.iU i hi h
    ·exact c.inj i r hi hr hir h
 err:=hk.some g.err (by rintro (⟨_,h,_⟩ | ⟨h,_⟩); omega; exact c.iU r hr h.symm)
 fU x:=by rw [hk.frozen U x (aE g.bufs)]; exact g.fU x
 fB x:=by rw [hk.frozen Bf x (aE g.lvls)]; exact g.fB x
 inc:=g.inc.keep hk fun x y h=>FV (f:=f) (o:=o) c x y (mX c hr x y h)
end
theorem dp {α:Type} [Inhabited α] {n:Nat} {x y:Array α} (h:PermIn 0 n x y) (hn:n≤x.size):y.toList.Perm x.toList:=by
 obtain ⟨h1,h2,h3⟩:=h
 have e1:∀ z:Array α,z.toList=(z.extract 0 n).toList++z.toList.drop n:=by
  intro z
  simp [Array.toList_extract]
 have e2:y.toList.drop n=x.toList.drop n:=by
  apply List.ext_getElem
  ·simp [h1]
  ·intro i q1 q2
   have:=h2 (n+i) (.inr (by omega))
   simp only [List.length_drop,Array.length_toList] at q1 q2
   rw [aG y (n+i) (by omega),aG x (n+i) (by omega)] at this
   simpa using this
 rw [e1 y,e1 x,e2]
 exact h3.append_right _
section
variable {rev:Bool} {κ κ2:Nat→Bytes} {hp:Array Nat}
theorem gS {i:Nat} (hi:i < hp.size):hp[i]! ∈ hp.toList:=by rw [aG hp i hi]; simp
theorem AV (nd:hp.toList.Nodup) {i:Nat} (hi:i < hp.size) (h0:0 < i):hp[i]! ≠ hp[0]! := by
 rw [aG hp i hi,aG hp 0 (by omega)]
 intro e
 have:=(List.getElem_inj (i:=i) (j:=0) (h₀:=by simpa using hi) (h₁:=by simp; omega) nd).1 (by simpa using e)
 omega
theorem qZ (h:FU rev κ hp) (nd:hp.toList.Nodup) (hs:∀ x,x ∈ hp.toList→x≠hp[0]! → κ2 x=κ x) (i:Nat) (hi:i < hp.size) (h0:i≠0):Ok (jw rev κ2) 0 hp.size hp i:=by
 intro c hc hcs
 have:=h i hi c hc hcs
 simp only [Nat.zero_add] at this ⊢
 unfold jw at this ⊢
 rw [hs _ (gS hi) (AV nd hi (by omega)),hs _ (gS hcs) (AV nd hcs (by omega))]
 exact this
theorem xf (h:FU rev κ hp) (nd:hp.toList.Nodup) (h0:0 < hp.size) (hs:∀ x,x ∈ hp.toList→x≠hp[0]! → κ2 x=κ x) :
    FU rev κ2 (siftDown (jw rev κ2) hp.size 0 0 hp)∧(siftDown (jw rev κ2) hp.size 0 0 hp).toList.Perm hp.toList:=by
 obtain ⟨q1,q2⟩:=sift (rL rev κ2) hp.size 0 0 hp.size 0 hp (by omega) (by omega) (aD _) (fun i _ hi h0=>qZ h nd hs i hi h0) (fun p _ hp2=>by omega)
 rw [Nat.zero_add] at q2
 refine ⟨fun i hi => ?_,dp q2 (aD _)⟩
 rw [q2.1] at hi ⊢
 exact q1 i (aQ _) hi
theorem xg (h:FU rev κ hp) (nd:hp.toList.Nodup) (h0:0 < hp.size) (hs:∀ x,x ∈ hp.toList→x≠hp[0]! → κ2 x=κ x) :
    FU rev κ2 (siftDown (jw rev κ2) (hp.size - 1) 0 0 (swp hp 0 (hp.size - 1))).pop∧(hp[0]! :: (siftDown (jw rev κ2) (hp.size - 1) 0 0 (swp hp 0 (hp.size - 1))).pop.toList).Perm hp.toList:=by
 obtain ⟨n,hn⟩:∃ n,hp.size=n+1:=⟨hp.size - 1,by omega⟩
 rw [show hp.size - 1=n by omega]
 have hz:(swp hp 0 n).size=n+1:=by rw [swp_size,hn]
 have hsw:∀ k,0 < k→k < n→(swp hp 0 n)[k]! = hp[k]! := fun k h1 h2=>swp_other hp 0 n k (by omega) (by omega)
 obtain ⟨q1,q2⟩:=sift (rL rev κ2) n 0 0 n 0 (swp hp 0 n) (by omega) (by omega) (aD _) (fun i _ hi h0=>by
  intro c hc hcs
  have:=qZ h nd hs i (by omega) h0 c hc (by omega)
  simp only [Nat.zero_add] at this ⊢
  rw [hsw i (by omega) hi,hsw c (by omega) hcs]
  exact this) (fun p _ hp2=>by omega)
 rw [Nat.zero_add] at q2
 obtain ⟨D,hD⟩:∃ D,D=siftDown (jw rev κ2) n 0 0 (swp hp 0 n):=⟨_,rfl⟩
 rw [← hD] at q1 q2 ⊢
 have hDz:D.size=n+1:=by rw [q2.1,hz]
 have pz:D.pop.size=n:=by simp [hDz]
 have pg:∀ j,j < n→D.pop[j]! = D[j]! := by
  intro j hj
  rw [aG _ j (by omega),aG _ j (by omega)]
  simp
 refine ⟨fun i hi => ?_,?_⟩
 ·rw [pz] at hi ⊢
  intro c hc hcs
  have:=q1 i (aQ _) hi c hc hcs
  simp only [Nat.zero_add] at this ⊢
  rw [pg i hi,pg c hcs]; exact this
 ·have hlast:D[n]! = hp[0]! := by
    rw [q2.2.1 n (.inr (aD _))]
    by_cases h1:n=0
    ·subst h1; exact swp_right hp 0 0 (by omega)
    ·exact swp_right hp 0 n (by omega)
  have e:D.toList=D.pop.toList++[hp[0]!]:=by
   rw [← hlast]
   apply List.ext_getElem
   ·simp [hDz]
   ·intro i a1 a2
    simp only [Array.length_toList] at a1
    by_cases hi:i < n
    ·rw [List.getElem_append_left (by simp [hDz]; omega)]
     simp
    ·obtain rfl:i=n:=by omega
     rw [List.getElem_append_right (by simp [hDz])]
     simp [aG D i (by omega)]
  have p1:=dp q2 (by omega)
  have p2:(swp hp 0 n).toList.Perm hp.toList:=dp (n:=n+1) (swp_permIn hp 0 (n+1) 0 n (by omega) (by omega) (by omega) (by omega) (by omega)) (by omega)
  have p3:=p1.trans p2
  rw [e] at p3
  exact (List.perm_append_comm (l₁:=[hp[0]!])).trans p3
end
end Go.E
namespace Go.Proofs
open Go Go.E Go.Sort Go.Proofs.Tryz
section
variable {k:aq} {d w:World} {U o Bf f:Nat} {Ls:Array Lvl} {pos:Nat→Int} {rev:Bool} {hp:Array Nat}
theorem uO {n:Int} {x y:Value} (hx:x.cells = #[x]) (hy:y.cells = #[y]) (hk:∀ w',bY w w'→k (.bool (n != 0)) w'):aX prog 187 #[.agg [.int .i8 n,x,y].toArray] k w:=by
 refine ai [.tmp 2] func187 ?_
 refine al ?_
 exact hk _ (aL _)
theorem mq (c:MC d U Bf Ls) (g:MB d w U o Bf f Ls pos) (g2:MH w U o Bf f Ls pos rev hp) (h0:0 < hp.size)
    (hk:∀ w' hp',MB d w' U o Bf f Ls (jb pos hp[0]! (lx Ls[hp[0]!]!.L (pos hp[0]!)))→MH w' U o Bf f Ls (jb pos hp[0]! (lx Ls[hp[0]!]!.L (pos hp[0]!))) rev hp'→Keep (np U o Bf f Ls) w w'→k (.tuple #[]) w') :
    aX prog 212 #[.pointer (some ⟨U,o,none⟩)] k w:=by
 have hr:=(g2.mem _).1 (gS h0)
 obtain ⟨r,hre⟩:∃ r,r=hp[0]! := ⟨_,rfl⟩
 rw [← hre] at hr hk
 obtain ⟨p',hpe⟩:∃ p',p'=lx Ls[r]!.L (pos r):=⟨_,rfl⟩
 rw [← hpe] at hk
 have c1:=g.bufs
 have c2:=g.lvls
 have c3:=g2.at_.c2
 have c4:=g2.at_.ix 0 h0
 rw [← hre,Nat.zero_mul,Nat.add_zero] at c4
 have z0:(0:Int).toNat=0:=rfl
 have z1:(0:Int)≤0:=by decide
 have z2:(0:Int) < hp.size:=by omega
 have r1:(r:Int) < Ls.size:=by omega
 refine ai [] func212 ?_
 refine al ?_
 refine ay (sq [0,1,2] (.read 3 (sq [4,5] (.read 6 (sq [7,8,9] (.read 10 (sq [11,12,13] (.read 14 (sq [15,16] (.read 17 (sq [18,19] .done))))))))))) ?_
 refine vR @c1 @c2 @c3 @c4 @z0 @Nat.zero_mul @Nat.add_zero ?_
 have l0:=g.lv r hr.1
 refine mn l0.drew g.inc.drew c.oU (c.oI r hr.1) (Ne.symm (c.iU r hr.1)) (c.sp r hr.1) (c.sz r hr.1) fun w2 l1 k1 => ?_
 rw [← hpe] at l1
 have k1:Keep (Ev U (o+10+r * 4) Ls[r]!.I) w w2:=by first | exact k1 | exact (Keep.refl _ w).drew.trans k1
 have k1':Keep (np U o Bf f Ls) w w2:=k1.mono fun b x _ h=>mX c hr.1 b x h
 have b2:MB d w2 U o Bf f Ls (jb pos r p'):=g.step c hr.1 l1 k1
 have a2:HeapAt w2 Bf (f+2) U o rev hp:=g2.at_.keep k1 (by
     rintro x _ _ (⟨h,_⟩ | ⟨h,_⟩)
     ·exact c.ne h
     ·exact c.iB r hr.1 h.symm) (by
     rintro x h1 h2 (⟨_,h3,h4⟩ | ⟨h,_⟩)
     ·have:=c.n10; omega
     ·exact c.iU r hr.1 h.symm) (aE c1)
 have same:∀ x,x ∈ hp.toList→x≠hp[0]! → Ce Ls (jb pos r p') x=Ce Ls pos x:=by
  intro x _ hx
  unfold Ce jb
  rw [if_neg (by rw [hre]; exact hx)]
 have mem':∀ x,x≠r→(x ∈ hp.toList↔x < Ls.size∧ez Ls[x]!.L (jb pos r p' x)):=by
  intro x hx
  rw [g2.mem x]
  unfold jb
  rw [if_neg hx]
 have d0:=l1.it
 have d1:=l1.kd
 obtain ⟨v2,d2,cells2,y2⟩:=l1.ky
 obtain ⟨v3,d3,cells3,y3⟩:=l1.sp
 have d8:=b2.err
 have fU:=b2.fU
 have e1:=b2.bufs
 have er:=b2.err
 have d0:=l1.it
 refine eI @d1 @d2 @d3 ?_
 refine uO cells2 cells3 fun w3 x3 => ?_
 have f0:=x3.cell d0
 have f8:=x3.cell er
 have fe:=x3.cell e1
 have ff:∀ x,w3.frozen? ⟨U,x,none⟩=false:=fun x=>by rw [x3.frozen U x (aE e1)]; exact fU x
 have b3:MB d w3 U o Bf f Ls (jb pos r p'):=b2.keep c x3 id id id (fun _ _ _ h=>h) (fun _ _ _ h=>h) (fun _ _ h=>h.elim)
 have a3:HeapAt w3 Bf (f+2) U o rev hp:=a2.keep x3 (fun _ _ _ h=>h) (fun _ _ _ h=>h) (aE e1)
 have k3:Keep (np U o Bf f Ls) w w3:=k1'.trans x3.keep
 by_cases hv:ez Ls[r]!.L p'
 ·have e5:(et Ls[r]!.L p' != 0)=true:=by
    unfold et
    rw [if_pos hv]
    split <;> rfl
  have mem3:∀ x,x ∈ hp.toList↔x < Ls.size∧ez Ls[x]!.L (jb pos r p' x):=by
   intro x
   by_cases hx:x=r
   ·subst hx
    unfold jb
    rw [if_pos rfl]
    exact ⟨fun _=>⟨hr.1,hv⟩,fun _=>by rw [hre]; exact gS h0⟩
   ·exact mem' x hx
  refine dV @e5 @fe ?_
  refine fm a3 ?_
  by_cases h1:1 < hp.size
  ·have h1':(1:Int) < hp.size:=by omega
   refine dV @h1' @fe ?_
   refine qX a3 (b3.hkeys fun x hx=>(mem3 x).1 hx) b3.inc c.oU h0 fun w4 a4 q4 k4 => ?_
   refine al ?_
   have fp:=xf g2.ok g2.nd h0 same
   refine hk w4 _ ?_ ⟨a4,fp.1,fun x=>(fp.2.mem_iff).trans (mem3 x),fp.2.nodup_iff.2 g2.nd⟩ (k3.trans (k4.mono fun b x _ h => .inl ⟨h.1,by have:=h.2.1; omega,h.2.2⟩))
   refine b3.keep c k4 (by rintro ⟨_,h,_⟩; omega) (by rintro ⟨h,_⟩; exact c.ne h) (by rintro ⟨_,h,_⟩; omega) (by rintro x _ h2 ⟨_,h,_⟩; omega) (by rintro i hi x ⟨h,_⟩; exact c.iU i hi h) (by rintro x y ⟨rfl,_⟩; exact c.oU _)
  ·have h1':¬ (1:Int) < hp.size:=by omega
   refine dV @h1' @fe ?_
   refine hk w3 hp b3 ⟨a3,?_,mem3,g2.nd⟩ k3
   intro i hi x hx hx2
   omega
 ·have e5:(et Ls[r]!.L p' != 0)=false:=by rw [jL hv]; rfl
  have fp:=xg g2.ok g2.nd h0 same
  have hnr:hp[0]! = r:=hre.symm
  refine dV @e5 @f0 ?_
  refine ia ?_
  refine eI @f8 @ff @fe ?_
  obtain ⟨w4,hw4⟩:∃ w4,w4=w3.setCell ⟨U,o+8,none⟩ .nilIface:=⟨_,rfl⟩
  rw [← hw4]
  have x4:Keep (fun b x=>b=U∧x=o+8) w3 w4:=by rw [hw4]; exact (Keep.refl _ w3).set (fun _=>⟨rfl,rfl⟩)
  have a4:HeapAt w4 Bf (f+2) U o rev hp:=a3.keep x4 (by rintro x _ _ ⟨h,_⟩; exact c.ne h) (by rintro x _ _ ⟨_,h⟩; omega) (aE fe)
  have er4:w4.cell? ⟨U,o+8,none⟩=some .nilIface:=by rw [hw4]; exact bb @f8
  have b4:MB d w4 U o Bf f Ls (jb pos r p'):=by
   have hb:=b3
   refine ⟨x4.some hb.bufs (by rintro ⟨_,h⟩; omega),x4.some hb.lvls (by rintro ⟨h,_⟩; exact c.ne h),fun i hi=>(hb.lv i hi).keep x4 (by rintro x _ _ ⟨_,h⟩; have:=c.n10; omega) (by rintro x ⟨h,_⟩; exact c.iU i hi h),er4,?_,?_,hb.inc.keep x4 (by rintro x y ⟨rfl,_⟩; exact c.oU _)⟩
   ·intro x; rw [x4.frozen U x (aE fe)]; exact ff x
   ·intro x; rw [x4.frozen Bf x (aE hb.lvls)]; exact hb.fB x
  have x4':Keep (np U o Bf f Ls) w3 w4:=by
   refine ⟨x4.size,fun b x hb hm => ?_,x4.frozen,fun b hb hm=>x4.block b hb (by rintro x ⟨rfl,_⟩; exact hm (o+10) (.inl ⟨rfl,by omega,by omega⟩)),x4.st⟩
   by_cases hx:b=U∧x=o+8
   ·obtain ⟨rfl,rfl⟩:=hx
    rw [er4,f8]
   ·exact x4.cell b x hb hx
  refine qY (κ:=Ce Ls (jb pos r p')) a4 (fun j hj hj2 => ?_) b4.inc c.oU h0 fun w5 hp' v a5 he5 k5 => ?_
  ·have hne:hp[j]! ≠ r:=by rw [hre]; exact AV g2.nd hj2 hj
   obtain ⟨q1,q2⟩:=(mem' _ hne).1 (gS hj2)
   obtain ⟨v,t1,_,t2⟩:=(b4.lv _ q1).ky
   exact ⟨v,t1,(t2 q2).2⟩
  refine al ?_
  rw [← he5] at fp
  have k5':Keep (np U o Bf f Ls) w4 w5:=k5.mono fun b x _ h=>by
   rcases h with ⟨h1,h2,h3⟩ | ⟨h1,h2⟩
   ·exact .inl ⟨h1,by omega,h3⟩
   ·exact .inr (.inl ⟨h1,by omega,by omega⟩)
  refine hk w5 hp' ?_ ⟨a5,fp.1,fun x => ?_,?_⟩ ((k3.trans x4').trans k5')
  ·refine b4.keep c k5 ?_ ?_ ?_ ?_ ?_ ?_
   ·rintro (⟨_,h,_⟩ | ⟨h,_⟩)
    ·omega
    ·exact c.ne h.symm
   ·rintro (⟨h,_⟩ | ⟨_,h⟩)
    ·exact c.ne h
    ·omega
   ·rintro (⟨_,h,_⟩ | ⟨h,_⟩)
    ·omega
    ·exact c.ne h.symm
   ·rintro x _ h2 (⟨_,h,_⟩ | ⟨h,_⟩)
    ·omega
    ·exact c.ne h.symm
   ·rintro i hi x (⟨h,_⟩ | ⟨h,_⟩)
    ·exact c.iU i hi h
    ·exact c.iB i hi h
   ·rintro x y (⟨rfl,_⟩ | ⟨rfl,_⟩)
    ·exact c.oU _
    ·exact c.oB _
  ·have hnd:=fp.2.nodup_iff.2 g2.nd
   rw [hnr] at hnd fp
   by_cases hx:x=r
   ·subst hx
    constructor
    ·intro h; exact absurd h (List.nodup_cons.1 hnd).1
    ·rintro ⟨_,h⟩
     unfold jb at h
     rw [if_pos rfl] at h
     exact absurd h hv
   ·rw [← mem' x hx,← fp.2.mem_iff,ak]
    constructor
    ·exact .inr
    ·rintro (h | h)
     ·exact absurd h hx
     ·exact h
  ·exact (List.nodup_cons.1 (fp.2.nodup_iff.2 g2.nd)).2
theorem mr (c:MC d U Bf Ls) (g:MB d w U o Bf f Ls pos) (g2:MH w U o Bf f Ls pos rev hp) (h0:0 < hp.size)
    (hk:∀ w' hp',MB d w' U o Bf f Ls (jb pos hp[0]! (ly (pos hp[0]!)))→MH w' U o Bf f Ls (jb pos hp[0]! (ly (pos hp[0]!))) rev hp'→Keep (np U o Bf f Ls) w w'→k (.tuple #[]) w') :
    aX prog 214 #[.pointer (some ⟨U,o,none⟩)] k w:=by
 have hr:=(g2.mem _).1 (gS h0)
 obtain ⟨r,hre⟩:∃ r,r=hp[0]! := ⟨_,rfl⟩
 rw [← hre] at hr hk
 obtain ⟨p',hpe⟩:∃ p',p'=ly (pos r):=⟨_,rfl⟩
 rw [← hpe] at hk
 have c1:=g.bufs
 have c2:=g.lvls
 have c3:=g2.at_.c2
 have c4:=g2.at_.ix 0 h0
 rw [← hre,Nat.zero_mul,Nat.add_zero] at c4
 have z0:(0:Int).toNat=0:=rfl
 have z1:(0:Int)≤0:=by decide
 have z2:(0:Int) < hp.size:=by omega
 have r1:(r:Int) < Ls.size:=by omega
 refine ai [] func214 ?_
 refine al ?_
 refine ay (sq [0,1,2] (.read 3 (sq [4,5] (.read 6 (sq [7,8,9] (.read 10 (sq [11,12,13] (.read 14 (sq [15,16] (.read 17 (sq [18,19] .done))))))))))) ?_
 refine vR @c1 @c2 @c3 @c4 @z0 @Nat.zero_mul @Nat.add_zero ?_
 have l0:=g.lv r hr.1
 refine mo l0.drew g.inc.drew c.oU (c.oI r hr.1) (Ne.symm (c.iU r hr.1)) (c.sp r hr.1) (c.sz r hr.1) fun w2 l1 k1 => ?_
 rw [← hpe] at l1
 have k1:Keep (Ev U (o+10+r * 4) Ls[r]!.I) w w2:=by first | exact k1 | exact (Keep.refl _ w).drew.trans k1
 have k1':Keep (np U o Bf f Ls) w w2:=k1.mono fun b x _ h=>mX c hr.1 b x h
 have b2:MB d w2 U o Bf f Ls (jb pos r p'):=g.step c hr.1 l1 k1
 have a2:HeapAt w2 Bf (f+2) U o rev hp:=g2.at_.keep k1 (by
     rintro x _ _ (⟨h,_⟩ | ⟨h,_⟩)
     ·exact c.ne h
     ·exact c.iB r hr.1 h.symm) (by
     rintro x h1 h2 (⟨_,h3,h4⟩ | ⟨h,_⟩)
     ·have:=c.n10; omega
     ·exact c.iU r hr.1 h.symm) (aE c1)
 have same:∀ x,x ∈ hp.toList→x≠hp[0]! → Ce Ls (jb pos r p') x=Ce Ls pos x:=by
  intro x _ hx
  unfold Ce jb
  rw [if_neg (by rw [hre]; exact hx)]
 have mem':∀ x,x≠r→(x ∈ hp.toList↔x < Ls.size∧ez Ls[x]!.L (jb pos r p' x)):=by
  intro x hx
  rw [g2.mem x]
  unfold jb
  rw [if_neg hx]
 have d0:=l1.it
 have d1:=l1.kd
 obtain ⟨v2,d2,cells2,y2⟩:=l1.ky
 obtain ⟨v3,d3,cells3,y3⟩:=l1.sp
 have d8:=b2.err
 have fU:=b2.fU
 have e1:=b2.bufs
 have er:=b2.err
 have d0:=l1.it
 refine eI @d1 @d2 @d3 ?_
 refine uO cells2 cells3 fun w3 x3 => ?_
 have f0:=x3.cell d0
 have f8:=x3.cell er
 have fe:=x3.cell e1
 have ff:∀ x,w3.frozen? ⟨U,x,none⟩=false:=fun x=>by rw [x3.frozen U x (aE e1)]; exact fU x
 have b3:MB d w3 U o Bf f Ls (jb pos r p'):=b2.keep c x3 id id id (fun _ _ _ h=>h) (fun _ _ _ h=>h) (fun _ _ h=>h.elim)
 have a3:HeapAt w3 Bf (f+2) U o rev hp:=a2.keep x3 (fun _ _ _ h=>h) (fun _ _ _ h=>h) (aE e1)
 have k3:Keep (np U o Bf f Ls) w w3:=k1'.trans x3.keep
 by_cases hv:ez Ls[r]!.L p'
 ·have e5:(et Ls[r]!.L p' != 0)=true:=by
    unfold et
    rw [if_pos hv]
    split <;> rfl
  have mem3:∀ x,x ∈ hp.toList↔x < Ls.size∧ez Ls[x]!.L (jb pos r p' x):=by
   intro x
   by_cases hx:x=r
   ·subst hx
    unfold jb
    rw [if_pos rfl]
    exact ⟨fun _=>⟨hr.1,hv⟩,fun _=>by rw [hre]; exact gS h0⟩
   ·exact mem' x hx
  refine dV @e5 @fe ?_
  refine fm a3 ?_
  by_cases h1:1 < hp.size
  ·have h1':(1:Int) < hp.size:=by omega
   refine dV @h1' @fe ?_
   refine qX a3 (b3.hkeys fun x hx=>(mem3 x).1 hx) b3.inc c.oU h0 fun w4 a4 q4 k4 => ?_
   refine al ?_
   have fp:=xf g2.ok g2.nd h0 same
   refine hk w4 _ ?_ ⟨a4,fp.1,fun x=>(fp.2.mem_iff).trans (mem3 x),fp.2.nodup_iff.2 g2.nd⟩ (k3.trans (k4.mono fun b x _ h => .inl ⟨h.1,by have:=h.2.1; omega,h.2.2⟩))
   refine b3.keep c k4 (by rintro ⟨_,h,_⟩; omega) (by rintro ⟨h,_⟩; exact c.ne h) (by rintro ⟨_,h,_⟩; omega) (by rintro x _ h2 ⟨_,h,_⟩; omega) (by rintro i hi x ⟨h,_⟩; exact c.iU i hi h) (by rintro x y ⟨rfl,_⟩; exact c.oU _)
  ·have h1':¬ (1:Int) < hp.size:=by omega
   refine dV @h1' @fe ?_
   refine hk w3 hp b3 ⟨a3,?_,mem3,g2.nd⟩ k3
   intro i hi x hx hx2
   omega
 ·have e5:(et Ls[r]!.L p' != 0)=false:=by rw [jL hv]; rfl
  have fp:=xg g2.ok g2.nd h0 same
  have hnr:hp[0]! = r:=hre.symm
  refine dV @e5 @f0 ?_
  refine ia ?_
  refine eI @f8 @ff @fe ?_
  obtain ⟨w4,hw4⟩:∃ w4,w4=w3.setCell ⟨U,o+8,none⟩ .nilIface:=⟨_,rfl⟩
  rw [← hw4]
  have x4:Keep (fun b x=>b=U∧x=o+8) w3 w4:=by rw [hw4]; exact (Keep.refl _ w3).set (fun _=>⟨rfl,rfl⟩)
  have a4:HeapAt w4 Bf (f+2) U o rev hp:=a3.keep x4 (by rintro x _ _ ⟨h,_⟩; exact c.ne h) (by rintro x _ _ ⟨_,h⟩; omega) (aE fe)
  have er4:w4.cell? ⟨U,o+8,none⟩=some .nilIface:=by rw [hw4]; exact bb @f8
  have b4:MB d w4 U o Bf f Ls (jb pos r p'):=by
   have hb:=b3
   refine ⟨x4.some hb.bufs (by rintro ⟨_,h⟩; omega),x4.some hb.lvls (by rintro ⟨h,_⟩; exact c.ne h),fun i hi=>(hb.lv i hi).keep x4 (by rintro x _ _ ⟨_,h⟩; have:=c.n10; omega) (by rintro x ⟨h,_⟩; exact c.iU i hi h),er4,?_,?_,hb.inc.keep x4 (by rintro x y ⟨rfl,_⟩; exact c.oU _)⟩
   ·intro x; rw [x4.frozen U x (aE fe)]; exact ff x
   ·intro x; rw [x4.frozen Bf x (aE hb.lvls)]; exact hb.fB x
  have x4':Keep (np U o Bf f Ls) w3 w4:=by
   refine ⟨x4.size,fun b x hb hm => ?_,x4.frozen,fun b hb hm=>x4.block b hb (by rintro x ⟨rfl,_⟩; exact hm (o+10) (.inl ⟨rfl,by omega,by omega⟩)),x4.st⟩
   by_cases hx:b=U∧x=o+8
   ·obtain ⟨rfl,rfl⟩:=hx
    rw [er4,f8]
   ·exact x4.cell b x hb hx
  refine qY (κ:=Ce Ls (jb pos r p')) a4 (fun j hj hj2 => ?_) b4.inc c.oU h0 fun w5 hp' v a5 he5 k5 => ?_
  ·have hne:hp[j]! ≠ r:=by rw [hre]; exact AV g2.nd hj2 hj
   obtain ⟨q1,q2⟩:=(mem' _ hne).1 (gS hj2)
   obtain ⟨v,t1,_,t2⟩:=(b4.lv _ q1).ky
   exact ⟨v,t1,(t2 q2).2⟩
  refine al ?_
  rw [← he5] at fp
  have k5':Keep (np U o Bf f Ls) w4 w5:=k5.mono fun b x _ h=>by
   rcases h with ⟨h1,h2,h3⟩ | ⟨h1,h2⟩
   ·exact .inl ⟨h1,by omega,h3⟩
   ·exact .inr (.inl ⟨h1,by omega,by omega⟩)
  refine hk w5 hp' ?_ ⟨a5,fp.1,fun x => ?_,?_⟩ ((k3.trans x4').trans k5')
  ·refine b4.keep c k5 ?_ ?_ ?_ ?_ ?_ ?_
   ·rintro (⟨_,h,_⟩ | ⟨h,_⟩)
    ·omega
    ·exact c.ne h.symm
   ·rintro (⟨h,_⟩ | ⟨_,h⟩)
    ·exact c.ne h
    ·omega
   ·rintro (⟨_,h,_⟩ | ⟨h,_⟩)
    ·omega
    ·exact c.ne h.symm
   ·rintro x _ h2 (⟨_,h,_⟩ | ⟨h,_⟩)
    ·omega
    ·exact c.ne h.symm
   ·rintro i hi x (⟨h,_⟩ | ⟨h,_⟩)
    ·exact c.iU i hi h
    ·exact c.iB i hi h
   ·rintro x y (⟨rfl,_⟩ | ⟨rfl,_⟩)
    ·exact c.oU _
    ·exact c.oB _
  ·have hnd:=fp.2.nodup_iff.2 g2.nd
   rw [hnr] at hnd fp
   by_cases hx:x=r
   ·subst hx
    constructor
    ·intro h; exact absurd h (List.nodup_cons.1 hnd).1
    ·rintro ⟨_,h⟩
     unfold jb at h
     rw [if_pos rfl] at h
     exact absurd h hv
   ·rw [← mem' x hx,← fp.2.mem_iff,ak]
    constructor
    ·exact .inr
    ·rintro (h | h)
     ·exact absurd h hx
     ·exact h
  ·exact (List.nodup_cons.1 (fp.2.nodup_iff.2 g2.nd)).2
end
end Go.Proofs
end
section
namespace Go.E
open Go Go.Sort Go.Proofs Go.Proofs.Tryz
theorem ov {P:Program} {k:aq} {w:World} {t ty el:TypeId} {sz by_ n m c cap b off:Nat} {a:Addr} {news:List Value} (h:gQ P t=some (el,sz,by_)) (hl:news.length=m * sz)
    (hnews:∀ j u,news[j]? = some u→w.cell? (a.add j)=some u) (h1:∀ u ∈ news,u.oneCell'=true) (hroom:n+m≤cap)
    (hc:∀ j,j < news.length→∃ v,w.cell? ⟨b,off+n * sz+j,none⟩=some v) (hf:∀ o,w.frozen? ⟨b,o,none⟩=false) :
    pe P [t,t].toArray ty [.slice (some ⟨b,off,none⟩) n cap,.slice (some a) m c].toArray k w=k (.slice (some ⟨b,off,none⟩) (n+m) cap) (w.setCells b (off+n * sz) news):=by
 obtain ⟨i,z,e1,e2,e3,rfl,rfl,e6,e7⟩:=je h
 have:=run_append_room_cells (P:=P) w t ty el i e1 e2 b off n cap a m c news hl hnews h1 hroom (fun j hj=>by obtain ⟨v,hv⟩:=hc j hj; rw [hv]; rfl) (fun j _=>hf _)
 have hr:(Builtin.append_ [t,t].toArray ty [.slice (some ⟨b,off,none⟩) n cap,.slice (some a) m c].toArray).run P w = .ok (.slice (some ⟨b,off,none⟩) (n+m) cap) (w.setCells b (off+n * i.size) news):=this
 simp only [pe,dw,hr]
theorem zN {w:World} {b o:Nat} {ob:Obj} (h:∃ v,w.cell? ⟨b,o,none⟩=some v):∃ v,(w.alloc ob).cell? ⟨b,o,none⟩=some v:=by
 obtain ⟨v,h⟩:=h
 exact ⟨v,(aL ob).cell h⟩
theorem Ba {w:World} {b o:Nat} (h:∃ v,w.cell? ⟨b,o,none⟩=some v):∃ v,w.drew.cell? ⟨b,o,none⟩=some v:=h
structure HW (w:World) (U o Bf f:Nat):Prop where
 c0:w.cell? ⟨Bf,f+2,none⟩=some (.func (.func 102) #[] #[])
 c1:∃ b,w.cell? ⟨Bf,f+3,none⟩=some (.bool b)
 c2:∃ m,m≤10∧w.cell? ⟨Bf,f+4,none⟩=some (.slice (some ⟨U,o+50,none⟩) m 10)
 ex:∀ x,o+50≤x→x < o+70→∃ v,w.cell? ⟨U,x,none⟩=some v
theorem HeapAt.hw {w:World} {U o Bf f:Nat} {rev:Bool} {hp:Array Nat} (g:HeapAt w Bf (f+2) U o rev hp):HW w U o Bf f:=⟨g.c0,⟨_,g.c1⟩,⟨_,g.room,g.c2⟩,g.ex⟩
theorem HW.keep {w w2:World} {U o Bf f:Nat} {M:Nat→Nat→Prop} (g:HW w U o Bf f) (hk:Keep M w w2) (h1:∀ x,f+2≤x→x≤f+4→¬ M Bf x) (h2:∀ x,o+50≤x→x < o+70→¬ M U x):HW w2 U o Bf f where
 c0:=hk.some g.c0 (h1 _ (by omega) (by omega))
 c1:=by obtain ⟨b,h⟩:=g.c1; exact ⟨b,hk.some h (h1 _ (by omega) (by omega))⟩
 c2:=by obtain ⟨m,h,h'⟩:=g.c2; exact ⟨m,h,hk.some h' (h1 _ (by omega) (by omega))⟩
 ex x q1 q2:=by obtain ⟨v,hv⟩:=g.ex x q1 q2; exact ⟨v,hk.some hv (h2 x q1 q2)⟩
theorem eR {w:World} {b o:Nat} {v:Value} (h:w.cell? ⟨b,o,none⟩=some v):w.setCell ⟨b,o,none⟩ v=w:=by
 have e:(w.setCell ⟨b,o,none⟩ v).heap=w.heap:=by
  unfold World.setCell
  apply Array.ext
  ·simp
  ·intro i h1 h2
   simp only [Array.getElem_modify]
   split
   ·rename_i hb
    subst hb
    unfold World.cell? at h
    rw [Array.getElem?_eq_getElem h2] at h
    cases hx:w.heap[b] with
    | cells c t fz =>
     simp only [hx] at h ⊢
     simp at h
     simp only [Option.isSome_none,Bool.false_eq_true,if_false]
     congr 1
     apply Array.ext
     ·simp
     ·intro j q1 q2
      rw [Array.getElem_setIfInBounds (by simpa using q1)]
      split
      ·rename_i hj
       subst hj
       rw [Array.getElem?_eq_getElem q2] at h
       exact (bQ h).symm
      ·rfl
    | _=>rfl
   ·rfl
 calc w.setCell ⟨b,o,none⟩ v={ w with heap:=(w.setCell ⟨b,o,none⟩ v).heap }:=rfl
  _=w:=by rw [e]
def iM (U o Bf f:Nat):Nat→Nat→Prop:=fun b x=>b=U∧o+50≤x∧x < o+70∨b=Bf∧x=f+4
theorem Bb {d w W:World} {U o Bf f i:Nat} {Ls:Array Lvl} {pos:Nat→Int} {rev:Bool} {hp:Array Nat} (c:MC d U Bf Ls) (g:MB d w U o Bf f Ls pos) (h:HeapAt w Bf (f+2) U o rev hp) (kk:Keep (iM U o Bf f) w W) (hi:i < 10) (hz:hp.size < 10)
    (q1:W.cell? ⟨Bf,f+4,none⟩=some (.slice (some ⟨U,o+50,none⟩) (hp.size+1) 10)) (q2:W.cell? ⟨U,o+50+hp.size * 2,none⟩=some (.pointer (some ⟨U,o+10+i * 4+1,none⟩)))
    (q3:W.cell? ⟨U,o+50+hp.size * 2+1,none⟩=some (.int .i64 i)) (qo:∀ x,x < o+50+hp.size * 2→W.cell? ⟨U,x,none⟩=w.cell? ⟨U,x,none⟩) (qe:∀ x,o+50≤x→x < o+70→∃ v,W.cell? ⟨U,x,none⟩=some v) :
    MB d W U o Bf f Ls pos∧HeapAt W Bf (f+2) U o rev (hp.push i)∧Keep (np U o Bf f Ls) w W:=by
 have nB:∀ x,x≠f+4→¬ iM U o Bf f Bf x:=by
  rintro x hx (⟨h,_⟩ | ⟨_,h⟩)
  ·exact c.ne h
  ·exact hx h
 have nU:∀ x,x < o+50→¬ iM U o Bf f U x:=by
  rintro x hx (⟨_,h,_⟩ | ⟨h,_⟩)
  ·omega
  ·exact c.ne h.symm
 have hb:MB d W U o Bf f Ls pos:=g.keep c kk (nU _ (by omega)) (nB _ (by omega)) (nU _ (by omega)) (fun x _ h2=>nU x h2) (by
  rintro i hi x (⟨h,_⟩ | ⟨h,_⟩)
  ·exact c.iU i hi h
  ·exact c.iB i hi h) (by
  rintro x y (⟨rfl,_⟩ | ⟨rfl,_⟩)
  ·exact c.oU _
  ·exact c.oB _)
 have push_lt:∀ j,j < hp.size→(hp.push i)[j]! = hp[j]! := by
  intro j hj
  rw [aG _ j (by simp; omega),aG _ j hj]
  exact Array.getElem_push_lt hj
 have push_eq:(hp.push i)[hp.size]! = i:=by
  rw [aG _ hp.size (by simp)]
  simp
 refine ⟨hb,⟨kk.some h.c0 (nB _ (by omega)),kk.some h.c1 (nB _ (by omega)),by rw [Array.size_push]; exact q1,?_,?_,by simp; omega,?_,hb.fU,hb.fB,c.ne,qe⟩,kk.mono fun b x _ h => ?_⟩
 ·intro j hj
  rw [Array.size_push] at hj
  by_cases hj2:j=hp.size
  ·subst hj2
   rw [push_eq]; exact q2
  ·rw [push_lt j (by omega),qo _ (by omega)]
   exact h.ptr j (by omega)
 ·intro j hj
  rw [Array.size_push] at hj
  by_cases hj2:j=hp.size
  ·subst hj2
   rw [push_eq]; exact q3
  ·rw [push_lt j (by omega),qo _ (by omega)]
   exact h.ix j (by omega)
 ·intro j hj
  rw [Array.size_push] at hj
  by_cases hj2:j=hp.size
  ·subst hj2
   rw [push_eq]; exact hi
  ·rw [push_lt j (by omega)]; exact h.lv j (by omega)
 ·rcases h with ⟨h1,h2,h3⟩ | ⟨h1,h2⟩
  ·exact .inl ⟨h1,by omega,h3⟩
  ·exact .inr (.inl ⟨h1,by omega,by omega⟩)
def Gt (Ls:Array Lvl) (pos:Nat→Int) (i:Nat):List Nat:=(List.range i).filter fun x=>decide (ez Ls[x]!.L (pos x))
theorem xh (Ls:Array Lvl) (pos:Nat→Int) (i:Nat):Gt Ls pos (i+1)=Gt Ls pos i++if ez Ls[i]!.L (pos i) then [i] else []:=by
 unfold Gt
 rw [List.range_succ,List.filter_append]
 congr 1
 by_cases h:ez Ls[i]!.L (pos i) <;> simp [h]
theorem FW {Ls:Array Lvl} {pos:Nat→Int} {i x:Nat}:x ∈ Gt Ls pos i↔x < i∧ez Ls[x]!.L (pos x):=by simp [Gt]
theorem Bc (Ls:Array Lvl) (pos:Nat→Int) (i:Nat):(Gt Ls pos i).Nodup:=List.Pairwise.filter _ List.nodup_range
end Go.E
namespace Go.Proofs
open Go Go.E Go.Sort Go.Proofs.Tryz
section
variable {k:aq} {d w:World} {U o Bf f:Nat} {Ls:Array Lvl} {pos:Nat→Int} {rev:Bool} {hp:Array Nat}
theorem vZ (hk:k .nilIface w):aX prog 218 #[.nilIface,.nilIface] k w:=by
 refine ai [.tmp 4] func218 ?_
 refine al ?_
 exact hk
set_option maxHeartbeats 1000000 in
theorem ow (c:MC d U Bf Ls) (g:MB d w U o Bf f Ls pos) (hw:HW w U o Bf f) (hrev:w.cell? ⟨Bf,f+3,none⟩=some (.bool rev))
    (hk:∀ w' hp',MB d w' U o Bf f Ls pos→MH w' U o Bf f Ls pos rev hp'→Keep (np U o Bf f Ls) w w'→k (.tuple #[]) w') :
    aX prog 210 #[.pointer (some ⟨U,o,none⟩)] k w:=by
 have c1:=g.bufs
 obtain ⟨m,hm,c2⟩:=hw.c2
 have fB:=g.fB
 have z0:(0:Int).toNat=0:=rfl
 have z1:(0:Int)≤10:=by decide
 refine ai [] func210 ?_
 refine al ?_
 refine ay (sq [0,1,2] (.read 3 (sq [4,5,6] (.read 7 (sq [8,9,10] (.read 11 (sq [12,13,14,15] (.eff 16 [] .done)))))))) ?_
 have ne:=c.ne
 have lvs:=g.lvls
 simp (disch:=first | exact dZ | fail) only [go_sem,c1,c2,sD Tryz.es161,z0,fB,lvs]
 obtain ⟨w1,hw1⟩:∃ w1,w1=(w.setCell ⟨Bf,f+2+2,none⟩ (.slice (some ⟨U,o+50,none⟩) 0 10)).drew:=⟨_,rfl⟩
 rw [← hw1]
 have k1:Keep (fun b x=>b=Bf∧x=f+4) w w1:=by rw [hw1]; exact ((Keep.refl _ w).set (fun _=>⟨rfl,rfl⟩)).drew
 have k1':Keep (np U o Bf f Ls) w w1:=k1.mono fun b x _ h => .inr (.inl ⟨h.1,by omega,by omega⟩)
 have g1:MB d w1 U o Bf f Ls pos:=g.keep c k1 (by rintro ⟨h,_⟩; exact c.ne h.symm) (by rintro ⟨_,h⟩; omega) (by rintro ⟨h,_⟩; exact c.ne h.symm) (by rintro x _ _ ⟨h,_⟩; exact c.ne h.symm) (by rintro i hi x ⟨h,_⟩; exact c.iB i hi h) (by rintro x y ⟨rfl,_⟩; exact c.oB _)
 have h1:HeapAt w1 Bf (f+2) U o rev #[]:=by
  refine ⟨k1.some hw.c0 (by rintro ⟨_,h⟩; omega),k1.some hrev (by rintro ⟨_,h⟩; omega),?_,fun j hj=>by simp at hj,fun j hj=>by simp at hj,by simp,fun j hj=>by simp at hj,g1.fU,g1.fB,c.ne,?_⟩
  ·rw [hw1]; exact bb @c2
  ·intro x q1 q2
   obtain ⟨v,hv⟩:=hw.ex x q1 q2
   exact ⟨v,k1.some hv (by rintro ⟨h,_⟩; exact c.ne h.symm)⟩
 refine bO (fun i:Nat=>[(0,.pointer (some ⟨U,o,none⟩)),(27,.int .i64 Ls.size),(28,.int .i64 i)]) (fun i w'=>MB d w' U o Bf f Ls pos∧(∃ hp:Array Nat,hp.toList=Gt Ls pos i∧HeapAt w' Bf (f+2) U o rev hp)∧Keep (np U o Bf f Ls) w w'∧i≤Ls.size) (fun i _=>Ls.size - i) 0 (by kernel_rfl) ?_ ⟨g1,⟨#[],rfl,h1⟩,k1',aQ _⟩ ?_
 ·exact bE
 clear g1 h1 k1 k1' hw1 w1
 rintro K e i w1 ⟨g1,⟨hp,hhp,h1⟩,k1,hi⟩ hK
 have c1:=g1.bufs
 have lvs:=g1.lvls
 have fB:=g1.fB
 have fU:=g1.fU
 have c2:=h1.c2
 have ce:=g1.err
 have n10:=c.n10
 by_cases hin:i < Ls.size
 ·have hin':(i:Int) < Ls.size:=by omega
  have l1:=g1.lv i hin
  have d0:=l1.it
  have d1:=l1.kd
  have hsz:hp.size≤i:=by
   have:hp.size=hp.toList.length:=by simp
   rw [this,hhp]
   exact aU (az _ _) (by simp)
  by_cases hv:ez Ls[i]!.L (pos i)
  ·have e5:(et Ls[i]!.L (pos i) != 0)=true:=by
     unfold et
     rw [if_pos hv]
     split <;> rfl
   have hUs:=aE c1
   have hBs:=aE lvs
   refine gH @hin' @c1 @lvs @d1 @e5 ?_
   refine ay (sq [0,1,2] (.read 3 (sq [4,5,6] (.read 7 (sq [8,9,10] (.read 11 (sq [12,13,14,15,16] (.eff 17 [3,7,11] (.eff 18 [3] (sq [19,20,21] (.eff 22 [] .done))))))))))) ?_
   refine dV @c1 @c2 ?_
   have hlv:i < 10:=by omega
   have bridge:∀ (q:aq) (W:World),(∀ j u,[Value.pointer (some ⟨U,o+10+i * 4+1,none⟩),.int .i64 i][j]? = some u→W.cell? ⟨w1.heap.size,j,none⟩=some u)→(∀ x,W.cell? ⟨U,x,none⟩=w1.cell? ⟨U,x,none⟩)→(∀ x,W.frozen? ⟨U,x,none⟩=w1.frozen? ⟨U,x,none⟩) →
       pe prog [161,161].toArray 161 [.slice (some ⟨U,o+50,none⟩) hp.size 10,.slice (some ⟨w1.heap.size,0,none⟩) 1 1].toArray q W =
       q (.slice (some ⟨U,o+50,none⟩) (hp.size+1) 10) ((W.setCell ⟨U,o+50+hp.size * 2,none⟩ (.pointer (some ⟨U,o+10+i * 4+1,none⟩))).setCell ⟨U,o+50+hp.size * 2+1,none⟩ (.int .i64 i)):=by
    intro q W hW1 hW2 hW3
    refine ov (by_:=16) (news:=[Value.pointer (some ⟨U,o+10+i * 4+1,none⟩),.int .i64 i]) rw161 rfl ?_ (by simp [Value.oneCell']) (by omega) ?_ ?_
    ·intro j u hu
     rw [dm rfl,Nat.zero_add]
     exact hW1 j u hu
    ·intro j hj
     have hj:j < 2:=hj
     obtain ⟨v,hv⟩:=h1.ex (o+50+hp.size * 2+j) (by omega) (by omega)
     exact ⟨v,by rw [hW2]; exact hv⟩
    ·intro o'
     rw [hW3]; exact fU o'
   rw [bridge]
   rotate_left 1
   ·intro j u hu
    refine al ?_
    simpa using hu
   ·intro x; simp (disch:=first | exact dZ | fail) only [go_sem]
   ·intro x; simp (disch:=first | exact dZ | fail) only [go_sem]
   refine eI @c1 @c2 @fB ?_
   have fin:∀ (e2:du) (W:World),iH e2 [(0,Value.pointer (some ⟨U,o,none⟩)),(27,.int .i64 Ls.size),(28,.int .i64 ((i+1:Nat):Int))]→MB d W U o Bf f Ls pos∧HeapAt W Bf (f+2) U o rev (hp.push i)∧Keep (np U o Bf f Ls) w1 W→K e2 W:=by
    rintro e2 W he ⟨q1,q2,q3⟩
    exact hK e2 W (i+1) he ⟨q1,⟨hp.push i,by rw [xh,if_pos hv,← hhp]; simp,q2⟩,k1.trans q3,by omega⟩ (by omega)
   have live1:=h1.ex (o+50+hp.size * 2) (by omega) (by omega)
   have live2:=h1.ex (o+50+hp.size * 2+1) (by omega) (by omega)
   obtain ⟨x1,live1⟩:=live1
   obtain ⟨x2,live2⟩:=live2
   refine fin _ _ ?_ (Bb c g1 h1 ?_ hlv (by omega) ?_ ?_ ?_ ?_ ?_)
   ·exact bE
   ·repeat (first | exact Keep.refl _ _ | refine Keep.drew ?_ | refine Keep.alloc ?_ _ | refine Keep.set ?_ (fun _=>by first | exact .inl ⟨rfl,by omega,by omega⟩ | exact .inr ⟨rfl,rfl⟩))
   ·exact bb @c2
   ·exact bb @live1
   ·exact bb @live2
   ·intro x hx
    exact bE
   ·intro x q1 q2
    have:=h1.ex x q1 q2
    repeat (first | exact this | apply eQ | apply zN | apply Ba)
  ·have e5:(et Ls[i]!.L (pos i) != 0)=false:=by rw [jL hv]; rfl
   refine gH @hin' @c1 @lvs @d1 @e5 ?_
   refine ay (sq [0,1,2,3] (.read 4 (sq [5,6,7] (.read 8 (.eff 9 [4] (.eff 10 [] (sq [11,12] (.eff 13 [] .done)))))))) ?_
   refine eI @c1 @ce @d0 ?_
   refine ia ?_
   refine bf @ce ?_
   refine vZ ?_
   refine eI @ce @fU @c1 ?_
   rw [eR ce]
   refine hK _ _ (i+1) ?_ ⟨g1.drew,⟨hp,by rw [xh,if_neg hv,hhp]; simp,h1.drew⟩,k1.drew,by omega⟩ (by omega)
   exact bE
 ·have hin':¬ (i:Int) < Ls.size:=by omega
  obtain rfl:i=Ls.size:=by omega
  refine dV @hin' @c1 ?_
  have hmem:∀ x,x ∈ hp.toList↔x < Ls.size∧ez Ls[x]!.L (pos x):=fun x=>by rw [hhp]; exact FW
  refine vY h1 (g1.hkeys fun x hx=>(hmem x).1 hx) g1.inc c.oU fun w2 hp' a2 _ ok2 pm2 k2 => ?_
  have pm:=dp pm2 (aD _)
  refine al ?_
  refine hk w2 hp' ?_ ⟨a2,ok2,fun x=>pm.mem_iff.trans (hmem x),pm.nodup_iff.2 (by rw [hhp]; exact Bc _ _ _)⟩ (k1.trans (k2.mono fun b x _ h => .inl ⟨h.1,by have:=h.2.1; omega,h.2.2⟩))
  exact g1.keep c k2 (by rintro ⟨_,h,_⟩; omega) (by rintro ⟨h,_⟩; exact c.ne h) (by rintro ⟨_,h,_⟩; omega) (by rintro x _ h2 ⟨_,h,_⟩; omega) (by rintro i hi x ⟨h,_⟩; exact c.iU i hi h) (by rintro x y ⟨rfl,_⟩; exact c.oU _)
end
end Go.Proofs
end
section
namespace Go.E
open Go Go.Sort Go.Proofs Go.Proofs.Tryz
def Gu (U o Bf f:Nat) (Ls:Array Lvl):Nat→Nat→Prop:=fun b x=>np U o Bf f Ls b x∨b=U∧x=o+9
theorem HW.step {d w w2:World} {U o Bf f r:Nat} {Ls:Array Lvl} (c:MC d U Bf Ls) (hr:r < Ls.size) (g:HW w U o Bf f) (hk:Keep (Ev U (o+10+r * 4) Ls[r]!.I) w w2):HW w2 U o Bf f:=by
 have:=c.n10
 refine g.keep hk ?_ ?_
 ·rintro x _ _ (⟨h,_⟩ | ⟨h,_⟩)
  ·exact c.ne h
  ·exact c.iB r hr h.symm
 ·rintro x h1 h2 (⟨_,h3,h4⟩ | ⟨h,_⟩)
  ·omega
  ·exact c.iU r hr h.symm
end Go.E
namespace Go.Proofs
open Go Go.E Go.Sort Go.Proofs.Tryz
section
variable {k:aq} {d w:World} {U o Bf f:Nat} {Ls:Array Lvl} {pos:Nat→Int} {rev:Bool} {hp:Array Nat}
theorem lL (c:MC d U Bf Ls) (g:MB d w U o Bf f Ls pos) (hw:HW w U o Bf f) (hdir:∃ v,w.cell? ⟨U,o+9,none⟩=some v)
    (hk:∀ w' hp',MB d w' U o Bf f Ls pos→MH w' U o Bf f Ls pos false hp'→w'.cell? ⟨U,o+9,none⟩=some (.int .i8 (1))→Keep (Gu U o Bf f Ls) w w'→k (.tuple #[]) w') :
    aX prog 202 #[.pointer (some ⟨U,o,none⟩)] k w:=by
 obtain ⟨v9,hdir⟩:=hdir
 have c1:=g.bufs
 obtain ⟨b1,hc1⟩:=hw.c1
 have fU:=g.fU
 have fB:=g.fB
 have ne:=c.ne
 refine ai [] func202 ?_
 refine gH @c1 @hdir @hc1 @fU @fB ?_
 obtain ⟨w1,hw1⟩:∃ w1,w1=(w.setCell ⟨U,o+9,none⟩ (.int .i8 (1))).setCell ⟨Bf,f+2+1,none⟩ (.bool false):=⟨_,rfl⟩
 rw [← hw1]
 have kk:Keep (fun b x=>b=Bf∧x=f+3∨b=U∧x=o+9) w w1:=by
  rw [hw1]
  exact (((Keep.refl _ w).set (b:=U) (o:=o+9) (v := .int .i8 (1)) (fun _ => .inr ⟨rfl,rfl⟩)).set (b:=Bf) (o:=f+2+1) (v := .bool false) (fun _ => .inl ⟨rfl,rfl⟩))
 have nB:∀ x,x≠f+3→¬ (Bf=Bf∧x=f+3∨Bf=U∧x=o+9):=by
  rintro x hx (⟨_,h⟩ | ⟨h,_⟩)
  ·exact hx h
  ·exact c.ne h
 have nU:∀ x,x≠o+9→¬ (U=Bf∧x=f+3∨U=U∧x=o+9):=by
  rintro x hx (⟨h,_⟩ | ⟨_,h⟩)
  ·exact c.ne h.symm
  ·exact hx h
 have g1:MB d w1 U o Bf f Ls pos:=g.keep c kk (nU _ (by omega)) (nB _ (by omega)) (nU _ (by omega)) (fun x h1 _=>nU x (by omega)) (by
  rintro i hi x (⟨h,_⟩ | ⟨h,_⟩)
  ·exact c.iB i hi h
  ·exact c.iU i hi h) (by
  rintro x y (⟨rfl,_⟩ | ⟨rfl,_⟩)
  ·exact c.oB _
  ·exact c.oU _)
 have q3:w1.cell? ⟨Bf,f+3,none⟩=some (.bool false):=by rw [hw1]; exact bb @hc1
 have q9:w1.cell? ⟨U,o+9,none⟩=some (.int .i8 (1)):=by rw [hw1]; exact bb @hdir
 have hw2:HW w1 U o Bf f:=by
  refine ⟨kk.some hw.c0 (nB _ (by omega)),⟨_,q3⟩,?_,?_⟩
  ·obtain ⟨m,h,h'⟩:=hw.c2
   exact ⟨m,h,kk.some h' (nB _ (by omega))⟩
  ·intro x h1 h2
   obtain ⟨v,hv⟩:=hw.ex x h1 h2
   exact ⟨v,kk.some hv (nU _ (by omega))⟩
 refine ow c g1 hw2 q3 fun w2 hp' g2 h2 k2 => ?_
 refine al ?_
 refine hk w2 hp' g2 h2 (k2.some q9 ?_) ((kk.mono fun b x _ h => ?_).trans (k2.mono fun b x _ h => .inl h))
 ·rintro (⟨_,h,_⟩ | ⟨h,_⟩ | ⟨i,hi,h,_⟩)
  ·omega
  ·exact c.ne h.symm
  ·exact c.iU i hi h.symm
 ·rcases h with ⟨h1,h2⟩ | h
  ·exact .inl (.inr (.inl ⟨h1,by omega,by omega⟩))
  ·exact .inr h
theorem rE (c:MC d U Bf Ls) (g:MB d w U o Bf f Ls pos) (hw:HW w U o Bf f) (hdir:∃ v,w.cell? ⟨U,o+9,none⟩=some v)
    (hk:∀ w' hp',MB d w' U o Bf f Ls pos→MH w' U o Bf f Ls pos true hp'→w'.cell? ⟨U,o+9,none⟩=some (.int .i8 (-1))→Keep (Gu U o Bf f Ls) w w'→k (.tuple #[]) w') :
    aX prog 204 #[.pointer (some ⟨U,o,none⟩)] k w:=by
 obtain ⟨v9,hdir⟩:=hdir
 have c1:=g.bufs
 obtain ⟨b1,hc1⟩:=hw.c1
 have fU:=g.fU
 have fB:=g.fB
 have ne:=c.ne
 refine ai [] func204 ?_
 refine gH @c1 @hdir @hc1 @fU @fB ?_
 obtain ⟨w1,hw1⟩:∃ w1,w1=(w.setCell ⟨U,o+9,none⟩ (.int .i8 (-1))).setCell ⟨Bf,f+2+1,none⟩ (.bool true):=⟨_,rfl⟩
 rw [← hw1]
 have kk:Keep (fun b x=>b=Bf∧x=f+3∨b=U∧x=o+9) w w1:=by
  rw [hw1]
  exact (((Keep.refl _ w).set (b:=U) (o:=o+9) (v := .int .i8 (-1)) (fun _ => .inr ⟨rfl,rfl⟩)).set (b:=Bf) (o:=f+2+1) (v := .bool true) (fun _ => .inl ⟨rfl,rfl⟩))
 have nB:∀ x,x≠f+3→¬ (Bf=Bf∧x=f+3∨Bf=U∧x=o+9):=by
  rintro x hx (⟨_,h⟩ | ⟨h,_⟩)
  ·exact hx h
  ·exact c.ne h
 have nU:∀ x,x≠o+9→¬ (U=Bf∧x=f+3∨U=U∧x=o+9):=by
  rintro x hx (⟨h,_⟩ | ⟨_,h⟩)
  ·exact c.ne h.symm
  ·exact hx h
 have g1:MB d w1 U o Bf f Ls pos:=g.keep c kk (nU _ (by omega)) (nB _ (by omega)) (nU _ (by omega)) (fun x h1 _=>nU x (by omega)) (by
  rintro i hi x (⟨h,_⟩ | ⟨h,_⟩)
  ·exact c.iB i hi h
  ·exact c.iU i hi h) (by
  rintro x y (⟨rfl,_⟩ | ⟨rfl,_⟩)
  ·exact c.oB _
  ·exact c.oU _)
 have q3:w1.cell? ⟨Bf,f+3,none⟩=some (.bool true):=by rw [hw1]; exact bb @hc1
 have q9:w1.cell? ⟨U,o+9,none⟩=some (.int .i8 (-1)):=by rw [hw1]; exact bb @hdir
 have hw2:HW w1 U o Bf f:=by
  refine ⟨kk.some hw.c0 (nB _ (by omega)),⟨_,q3⟩,?_,?_⟩
  ·obtain ⟨m,h,h'⟩:=hw.c2
   exact ⟨m,h,kk.some h' (nB _ (by omega))⟩
  ·intro x h1 h2
   obtain ⟨v,hv⟩:=hw.ex x h1 h2
   exact ⟨v,kk.some hv (nU _ (by omega))⟩
 refine ow c g1 hw2 q3 fun w2 hp' g2 h2 k2 => ?_
 refine al ?_
 refine hk w2 hp' g2 h2 (k2.some q9 ?_) ((kk.mono fun b x _ h => ?_).trans (k2.mono fun b x _ h => .inl h))
 ·rintro (⟨_,h,_⟩ | ⟨h,_⟩ | ⟨i,hi,h,_⟩)
  ·omega
  ·exact c.ne h.symm
  ·exact c.iU i hi h.symm
 ·rcases h with ⟨h1,h2⟩ | h
  ·exact .inl (.inr (.inl ⟨h1,by omega,by omega⟩))
  ·exact .inr h
def zO (st:Nat→Int→Int) (pos:Nat→Int) (i:Nat):Nat→Int:=fun x=>if x < i then st x (pos x) else pos x
theorem sE (st:Nat→Int→Int) (pos:Nat→Int) (i:Nat):jb (zO st pos i) i (st i (pos i))=zO st pos (i+1):=by
 funext x
 unfold jb zO
 by_cases h:x=i
 ·subst h; simp
 ·rw [if_neg h]
  by_cases h2:x < i
  ·rw [if_pos h2,if_pos (by omega)]
  ·rw [if_neg h2,if_neg (by omega)]
theorem sF (st:Nat→Int→Int) (pos:Nat→Int):zO st pos 0=pos:=by
 funext x
 unfold zO
 rw [if_neg (Nat.not_lt_zero x)]
theorem sG (st:Nat→Int→Int) (pos:Nat→Int) (i:Nat):zO st pos i i=pos i:=by unfold zO; rw [if_neg (dE i)]
theorem lM (c:MC d U Bf Ls) (g:MB d w U o Bf f Ls pos) (hw:HW w U o Bf f) (hdir:∃ v,w.cell? ⟨U,o+9,none⟩=some v)
    (hk:∀ w' hp',MB d w' U o Bf f Ls (zO (fun x=>lx Ls[x]!.L) pos Ls.size)→MH w' U o Bf f Ls (zO (fun x=>lx Ls[x]!.L) pos Ls.size) false hp'→w'.cell? ⟨U,o+9,none⟩=some (.int .i8 (1))→Keep (Gu U o Bf f Ls) w w'→k (.tuple #[]) w') :
    aX prog 206 #[.pointer (some ⟨U,o,none⟩)] k w:=by
 have c1:=g.bufs
 have lvs:=g.lvls
 refine ai [] func206 ?_
 refine dV @c1 @lvs ?_
 refine bO (fun i:Nat=>[(0,.pointer (some ⟨U,o,none⟩)),(54,.int .i64 Ls.size),(55,.int .i64 i)]) (fun i w'=>MB d w' U o Bf f Ls (zO (fun x=>lx Ls[x]!.L) pos i)∧HW w' U o Bf f∧(∃ v,w'.cell? ⟨U,o+9,none⟩=some v)∧Keep (np U o Bf f Ls) w w'∧i≤Ls.size) (fun i _=>Ls.size - i) 0 (by kernel_rfl) ?_ ⟨by rw [sF]; exact g,hw,hdir,Keep.refl _ _,aQ _⟩ ?_
 ·exact bE
 rintro K e i w1 ⟨g1,h1,hd1,k1,hi⟩ hK
 have c1:=g1.bufs
 have lvs:=g1.lvls
 have n10:=c.n10
 by_cases hin:i < Ls.size
 ·have hin':(i:Int) < Ls.size:=by omega
  refine eI @hin' @c1 @lvs ?_
  have l1:=g1.lv i hin
  rw [sG] at l1
  refine mn l1 g1.inc c.oU (c.oI i hin) (Ne.symm (c.iU i hin)) (c.sp i hin) (c.sz i hin) fun w2 l2 k2 => ?_
  refine al ?_
  have g2:=g1.step c hin l2 k2
  have e2:=sE (fun x=>lx Ls[x]!.L) pos i
  rw [e2] at g2
  obtain ⟨v9,hd1⟩:=hd1
  refine hK _ _ (i+1) ?_ ⟨g2,h1.step c hin k2,⟨v9,k2.some hd1 ?_⟩,k1.trans (k2.mono fun b x _ h=>mX c hin b x h),by omega⟩ (by omega)
  ·exact bE
  ·rintro (⟨_,h,_⟩ | ⟨h,_⟩)
   ·omega
   ·exact c.iU i hin h.symm
 ·have hin':¬ (i:Int) < Ls.size:=by omega
  obtain rfl:i=Ls.size:=by omega
  refine dV @hin' @c1 ?_
  refine lL c g1 h1 hd1 fun w2 hp' g2 h2 q9 k2 => ?_
  refine al ?_
  exact hk w2 hp' g2 h2 q9 ((k1.mono fun b x _ h => .inl h).trans k2)
theorem lN (c:MC d U Bf Ls) (g:MB d w U o Bf f Ls pos) (hw:HW w U o Bf f) (hdir:∃ v,w.cell? ⟨U,o+9,none⟩=some v)
    (hk:∀ w' hp',MB d w' U o Bf f Ls (zO (fun x=>ly) pos Ls.size)→MH w' U o Bf f Ls (zO (fun x=>ly) pos Ls.size) true hp'→w'.cell? ⟨U,o+9,none⟩=some (.int .i8 (-1))→Keep (Gu U o Bf f Ls) w w'→k (.tuple #[]) w') :
    aX prog 207 #[.pointer (some ⟨U,o,none⟩)] k w:=by
 have c1:=g.bufs
 have lvs:=g.lvls
 refine ai [] func207 ?_
 refine dV @c1 @lvs ?_
 refine bO (fun i:Nat=>[(0,.pointer (some ⟨U,o,none⟩)),(54,.int .i64 Ls.size),(55,.int .i64 i)]) (fun i w'=>MB d w' U o Bf f Ls (zO (fun x=>ly) pos i)∧HW w' U o Bf f∧(∃ v,w'.cell? ⟨U,o+9,none⟩=some v)∧Keep (np U o Bf f Ls) w w'∧i≤Ls.size) (fun i _=>Ls.size - i) 0 (by kernel_rfl) ?_ ⟨by rw [sF]; exact g,hw,hdir,Keep.refl _ _,aQ _⟩ ?_
 ·exact bE
 rintro K e i w1 ⟨g1,h1,hd1,k1,hi⟩ hK
 have c1:=g1.bufs
 have lvs:=g1.lvls
 have n10:=c.n10
 by_cases hin:i < Ls.size
 ·have hin':(i:Int) < Ls.size:=by omega
  refine eI @hin' @c1 @lvs ?_
  have l1:=g1.lv i hin
  rw [sG] at l1
  refine mo l1 g1.inc c.oU (c.oI i hin) (Ne.symm (c.iU i hin)) (c.sp i hin) (c.sz i hin) fun w2 l2 k2 => ?_
  refine al ?_
  have g2:=g1.step c hin l2 k2
  have e2:=sE (fun x=>ly) pos i
  rw [e2] at g2
  obtain ⟨v9,hd1⟩:=hd1
  refine hK _ _ (i+1) ?_ ⟨g2,h1.step c hin k2,⟨v9,k2.some hd1 ?_⟩,k1.trans (k2.mono fun b x _ h=>mX c hin b x h),by omega⟩ (by omega)
  ·exact bE
  ·rintro (⟨_,h,_⟩ | ⟨h,_⟩)
   ·omega
   ·exact c.iU i hin h.symm
 ·have hin':¬ (i:Int) < Ls.size:=by omega
  obtain rfl:i=Ls.size:=by omega
  refine dV @hin' @c1 ?_
  refine rE c g1 h1 hd1 fun w2 hp' g2 h2 q9 k2 => ?_
  refine al ?_
  exact hk w2 hp' g2 h2 q9 ((k1.mono fun b x _ h => .inl h).trans k2)
end
end Go.Proofs
end
section
namespace Go.E
open Go Go.Sort Go.Proofs Go.Proofs.Tryz
structure KR where
 k:K
 sv:Value
 vv:Value
 deriving Inhabited
def KR.good (d:World) (x:KR):Prop:=x.k.tr < 18446744073709551616∧fV d x.sv x.k.suf∧fV d x.vv x.k.val
def KR.cells (x:KR):List Value:=[.int .u64 x.k.tr,x.sv,x.vv]
def flat (l:List KR):List Value:=l.flatMap KR.cells
theorem o0:flat []=[]:=rfl
theorem iO (x:KR) (l:List KR):flat (x :: l) = .int .u64 x.k.tr :: x.sv :: x.vv :: flat l:=rfl
theorem ij (l m:List KR):flat (l++m)=flat l++flat m:=by simp [flat]
theorem fq (l:List KR):(flat l).length=l.length * 3:=by
 induction l with
 | nil=>rfl
 | cons x l ih=>rw [iO]; simp [ih]; omega
theorem Be (l:List KR) (n:Nat):(flat l).take (n * 3)=flat (l.take n):=by
 induction l generalizing n with
 | nil=>simp [o0]
 | cons x l ih =>
  cases n with
  | zero=>simp [o0]
  | succ n=>rw [iO,List.take_succ_cons,iO,← ih,show (n+1) * 3=n * 3+1+1+1 by omega]; rfl
theorem dz {l:List KR} {i:Nat} {x:KR} (h:l[i]? = some x):(flat l)[i * 3]? = some (.int .u64 x.k.tr)∧(flat l)[i * 3+1]? = some x.sv∧(flat l)[i * 3+2]? = some x.vv:=by
 induction l generalizing i with
 | nil=>simp at h
 | cons y l ih =>
  rw [iO]
  cases i with
  | zero =>
   simp only [List.getElem?_cons_zero,aK] at h
   subst h
   exact ⟨rfl,rfl,rfl⟩
  | succ i =>
   have:=ih (i:=i) (by simpa using h)
   rw [show (i+1) * 3=i * 3+3 by omega]
   exact this
theorem ik (l:List KR) (i:Nat) (x:KR) (h:i < l.length):(((flat l).set (i * 3) (.int .u64 x.k.tr)).set (i * 3+1) x.sv).set (i * 3+2) x.vv=flat (l.set i x):=by
 induction l generalizing i with
 | nil=>simp at h
 | cons y l ih =>
  rw [iO]
  cases i with
  | zero=>rfl
  | succ i =>
   have:=ih i (by simpa using h)
   have e:(y :: l).set (i+1) x=y :: l.set i x:=rfl
   rw [show (i+1) * 3=i * 3+3 by omega,e,iO,← this]
   rfl
structure KRow (d w0 w:World) (Hb ho g cap:Nat) (a:Array KR):Prop where
 hd:w.cell? ⟨Hb,ho,none⟩=some (.slice (some ⟨g,0,none⟩) a.size cap)
 own:w.ownsRow 0 256 3 (.slice (some ⟨g,0,none⟩) a.size cap) a.size (flat a.toList)
 good:∀ x,x ∈ a.toList→x.good d
 keep:Keep (fun b _=>b=g) w0 w
 inc0:bz d w0
 lt:g < w0.heap.size
 hb:Hb < w0.heap.size
 ne:Hb≠g
 out:cq d g
theorem KRow.inc {d w0 w:World} {Hb ho g cap:Nat} {a:Array KR} (h:KRow d w0 w Hb ho g cap a):bz d w:=h.inc0.keep h.keep (by rintro x _ rfl; exact h.out _)
theorem KRow.at {d w0 w:World} {Hb ho g cap:Nat} {a:Array KR} (h:KRow d w0 w Hb ho g cap a) {i:Nat} (hi:i < a.size) :
    w.cell? ⟨g,i * 3,none⟩=some (.int .u64 a[i]!.k.tr)∧w.cell? ⟨g,i * 3+1,none⟩=some a[i]!.sv∧w.cell? ⟨g,i * 3+2,none⟩=some a[i]!.vv∧a[i]!.good d:=by
 have e:a.toList[i]? = some a[i]! := by rw [aG a i hi]; simp [hi]
 obtain ⟨h1,h2,h3⟩:=dz e
 exact ⟨av h.own h1,av h.own h2,av h.own h3,h.good _ (aJ e)⟩
theorem fJ {w:World} {g o b:Nat} {v:Value} (h:b≠g):(w.setCell ⟨g,o,none⟩ v).heap[b]? = w.heap[b]? := by
 simp [World.setCell,Array.getElem?_modify,Ne.symm h]
theorem KRow.swapped {d w0 w:World} {Hb ho g cap:Nat} {a:Array KR} (h:KRow d w0 w Hb ho g cap a) {i j:Nat} (hi:i < a.size) (hj:j < a.size) :
    KRow d w0 ((((((w.setCell ⟨g,i * 3,none⟩ (.int .u64 a[j]!.k.tr)).setCell ⟨g,i * 3+1,none⟩ a[j]!.sv).setCell ⟨g,i * 3+2,none⟩ a[j]!.vv).setCell ⟨g,j * 3,none⟩ (.int .u64 a[i]!.k.tr)).setCell ⟨g,j * 3+1,none⟩ a[i]!.sv).setCell ⟨g,j * 3+2,none⟩ a[i]!.vv) Hb ho g cap (swp a i j):=by
 have e1:=bp (bp (bp (bp (bp (bp h.own (i * 3) (.int .u64 a[j]!.k.tr)) (i * 3+1) a[j]!.sv) (i * 3+2) a[j]!.vv) (j * 3) (.int .u64 a[i]!.k.tr)) (j * 3+1) a[i]!.sv) (j * 3+2) a[i]!.vv
 rw [ik _ _ _ (by simpa using hi),ik _ _ _ (by simpa using hj)] at e1
 have ne:=h.ne
 have ne2:=Ne.symm ne
 have es:(swp a i j).toList=(a.toList.set i a[j]!).set j a[i]! := by simp [swp]
 have hz:(swp a i j).size=a.size:=swp_size a i j
 refine ⟨?_,?_,?_,?_,h.inc0,h.lt,h.hb,ne,h.out⟩
 ·have:=h.hd
  rw [hz]
  exact bb @this
 ·rw [hz,es]; exact e1
 ·intro x hx
  rw [es] at hx
  rcases List.mem_or_eq_of_mem_set hx with hx | rfl
  ·rcases List.mem_or_eq_of_mem_set hx with hx | rfl
   ·exact h.good x hx
   ·exact (h.at hj).2.2.2
  ·exact (h.at hi).2.2.2
 ·exact ((((((h.keep.set (fun _=>rfl)).set (fun _=>rfl)).set (fun _=>rfl)).set (fun _=>rfl)).set (fun _=>rfl)).set (fun _=>rfl))
theorem KRow.drew {d w0 w:World} {Hb ho g cap:Nat} {a:Array KR} (h:KRow d w0 w Hb ho g cap a):KRow d w0 w.drew Hb ho g cap a:=⟨h.hd,h.own.drew,h.good,h.keep.drew,h.inc0,h.lt,h.hb,h.ne,h.out⟩
theorem KRow.alloc {d w0 w:World} {Hb ho g cap:Nat} {a:Array KR} (h:KRow d w0 w Hb ho g cap a) (ob:Obj):KRow d w0 (w.alloc ob) Hb ho g cap a:=⟨(aL ob).cell h.hd,h.own.alloc ob,h.good,h.keep.alloc ob,h.inc0,h.lt,h.hb,h.ne,h.out⟩
theorem KRow.set {d w0 w:World} {Hb ho g cap b o:Nat} {v:Value} {a:Array KR} (h:KRow d w0 w Hb ho g cap a) (hb:w0.heap.size≤b):KRow d w0 (w.setCell ⟨b,o,none⟩ v) Hb ho g cap a:=by
 have h1:=h.lt
 have h2:=h.hb
 have kk:Keep (fun x _=>x=b) w (w.setCell ⟨b,o,none⟩ v):=bR rfl
 refine ⟨kk.some h.hd (by omega),aZ h.own kk (fun g' hg o' he => ?_),h.good,h.keep.set (fun hlt=>by omega),h.inc0,h1,h2,h.ne,h.out⟩
 simp only [Value.ownBlock,aK] at hg
 omega
end Go.E
namespace Go.Proofs
open Go Go.E Go.Sort Go.Proofs.Tryz
section
variable {k:aq} {d w0 w:World} {Hb ho g cap:Nat} {a:Array KR}
def AW (x y:KR):Bool:=decide (y.k.tr < x.k.tr)
theorem AX:SWO AW where
 irrefl x:=by unfold AW; simp
 trans x y z:=by unfold AW; simp; omega
 ntrans x y z:=by unfold AW; simp; omega
def rM (x y:KR):Bool:=decide (x.k.suf < y.k.suf)
theorem vh:SWO rM where
 irrefl x:=by unfold rM; simp
 trans x y z:=by unfold rM; simp; grind
 ntrans x y z:=by unfold rM; simp; grind
theorem o9 (h:KRow d w0 w Hb ho g cap a) {i j:Nat} (hi:i < a.size) (hj:j < a.size) (hk:k (.bool (AW a[i]! a[j]!)) w.drew):aX prog 279 #[.pointer (some ⟨Hb,ho,none⟩),.int .i64 i,.int .i64 j] k w:=by
 have c0:=h.hd
 obtain ⟨p1,_,_,_⟩:=h.at hi
 obtain ⟨q1,_,_,_⟩:=h.at hj
 refine ai [.tmp 6] func279 ?_
 refine al ?_
 refine ay (sq [0,1] (.read 2 (sq [3,4,5] (.read 6 (sq [7,8] (.read 9 (sq [10,11,12] (.read 13 (sq [14,15] .done))))))))) ?_
 refine eI @c0 @p1 @q1 ?_
 have e:decide ((a[j]!.k.tr:Int) < (a[i]!.k.tr:Int))=AW a[i]! a[j]! := by unfold AW; rw [decide_eq_decide]; omega
 rw [e]; exact hk
theorem pA (h:KRow d w0 w Hb ho g cap a) {i j:Nat} (hi:i < a.size) (hj:j < a.size) (hk:∀ w',KRow d w0 w' Hb ho g cap (swp a i j)→w.heap.size≤w'.heap.size→(∀ b,b≠g→w'.heap[b]? = w.heap[b]?)→k (.tuple #[]) w') :
    aX prog 280 #[.pointer (some ⟨Hb,ho,none⟩),.int .i64 i,.int .i64 j] k w:=by
 have c0:=h.hd
 obtain ⟨p1,p2,p3,p4⟩:=h.at hi
 obtain ⟨q1,q2,q3,q4⟩:=h.at hj
 obtain ⟨a1,n1,e1⟩:=bI p4.2.1
 obtain ⟨a2,n2,e2⟩:=bI p4.2.2
 obtain ⟨a3,n3,e3⟩:=bI q4.2.1
 obtain ⟨a4,n4,e4⟩:=bI q4.2.2
 have ne:=h.ne
 have ne2:=Ne.symm ne
 have fg:∀ o,w.frozen? ⟨g,o,none⟩=false:=fun o=>cS h.own rfl o
 have hsw:=h.swapped hi hj
 rw [e1,e2,e3,e4] at hsw
 rw [e1] at p2
 rw [e2] at p3
 rw [e3] at q2
 rw [e4] at q3
 refine ai [] func280 ?_
 refine ay (sq [0,1] (.read 2 (sq [3,4,5] (.read 6 (sq [7,8,9] (.read 10 (sq [11,12] (.read 13 (sq [14,15] (.read 16 (sq [17,18] (.read 19 (sq [20] (.eff 21 [] (sq [22] (.eff 23 [] .done)))))))))))))))) ?_
 have hd:∀ W:World,W.drew.heap=W.heap:=fun _=>rfl
 by_cases hij:i=j
 ·subst hij
  have x1:=e1.symm.trans e3
  have x2:=e2.symm.trans e4
  simp only [aW,true_and] at x1 x2
  obtain ⟨rfl,rfl⟩:=x1
  obtain ⟨rfl,rfl⟩:=x2
  refine gH @c0 @p1 @p2 @p3 @fg ?_
  refine hk _ hsw.drew ?_ ?_
  ·simp only [World.size_drew,World.size_setCell]; exact aD _
  ·intro b hb
   rw [hd]
   simp only [fJ hb]
 ·have d1:i * 3≠j * 3:=by omega
  refine xS @c0 @p1 @p2 @p3 @q1 @q2 @q3 @fg ?_
  refine hk _ hsw.drew ?_ ?_
  ·simp only [World.size_drew,World.size_setCell]; exact aD _
  ·intro b hb
   rw [hd]
   simp only [fJ hb]
theorem FX:Srt prog (.iface 263 (.pointer (some ⟨Hb,ho,none⟩))) AW w0.heap.size (fun w b=>KRow d w0 w Hb ho g cap b∧b.size < 1000000) where
 size h:=h.1.keep.size
 small h:=by omega
 less' h hi hj hk:=by
  rw [Tryz.iv263_Less]
  exact o9 h.1 hi hj (hk _ ⟨h.1.drew,h.2⟩ rfl)
 swap' h hi hj hk:=by
  rw [Tryz.iv263_Swap]
  refine pA h.1 hi hj fun w' h2 h3 h4=>hk w' ⟨h2,by rw [swp_size]; exact h.2⟩ h3 fun b hb _=>h4 b ?_
  have:=h.1.lt
  omega
 alloc ob h:=⟨h.1.alloc ob,h.2⟩
 set h hb:=⟨h.1.set hb,h.2⟩
 drew h:=⟨h.1.drew,h.2⟩
theorem xi (h:KRow d w0 w Hb (ho+1) g cap a) (hc:w.cell? ⟨Hb,ho,none⟩=some (.func (.func 102) #[] #[])) {i j:Nat} (hi:i < a.size) (hj:j < a.size) (hk:k (.bool (rM a[i]! a[j]!)) w.drew) :
    aX prog 271 #[.pointer (some ⟨Hb,ho,none⟩),.int .i64 i,.int .i64 j] k w:=by
 have c0:=h.hd
 obtain ⟨_,p2,_,p4⟩:=h.at hi
 obtain ⟨_,q2,_,q4⟩:=h.at hj
 have hinc:=h.inc
 refine ai [.tmp 6] func271 ?_
 refine al ?_
 refine ay (sq [0,1,2] (.read 3 (sq [4,5,6] (.read 7 (sq [8,9,10] (.read 11 (sq [12,13,14] (.read 15 (sq [16,17,18] (.read 19 (.eff 20 [] (sq [21,22] .done)))))))))))) ?_
 refine fW @hc @c0 @p2 @q2 ?_
 refine fG (p4.2.1.inc hinc) (q4.2.1.inc hinc) ?_
 refine al ?_
 have e:decide (eY a[i]!.k.suf a[j]!.k.suf < 0)=rM a[i]! a[j]! := by unfold rM; simp [kW]
 rw [e]; exact hk
theorem xj (h:KRow d w0 w Hb (ho+1) g cap a) {i j:Nat} (hi:i < a.size) (hj:j < a.size) (hk:∀ w',KRow d w0 w' Hb (ho+1) g cap (swp a i j)→w.heap.size≤w'.heap.size→(∀ b,b≠g→w'.heap[b]? = w.heap[b]?)→k (.tuple #[]) w') :
    aX prog 272 #[.pointer (some ⟨Hb,ho,none⟩),.int .i64 i,.int .i64 j] k w:=by
 have c0:=h.hd
 obtain ⟨p1,p2,p3,p4⟩:=h.at hi
 obtain ⟨q1,q2,q3,q4⟩:=h.at hj
 obtain ⟨a1,n1,e1⟩:=bI p4.2.1
 obtain ⟨a2,n2,e2⟩:=bI p4.2.2
 obtain ⟨a3,n3,e3⟩:=bI q4.2.1
 obtain ⟨a4,n4,e4⟩:=bI q4.2.2
 have ne:=h.ne
 have ne2:=Ne.symm ne
 have fg:∀ o,w.frozen? ⟨g,o,none⟩=false:=fun o=>cS h.own rfl o
 have hsw:=h.swapped hi hj
 rw [e1,e2,e3,e4] at hsw
 rw [e1] at p2
 rw [e2] at p3
 rw [e3] at q2
 rw [e4] at q3
 refine ai [] func272 ?_
 refine ay (sq [0,1,2] (.read 3 (sq [4,5,6,7] (.read 8 (sq [9,10,11,12] (.read 13 (sq [14,15] (.read 16 (sq [17,18,19] (.read 20 (sq [21,22] (.read 23 (sq [24] (.eff 25 [] (sq [26] (.eff 27 [] .done)))))))))))))))) ?_
 have hd:∀ W:World,W.drew.heap=W.heap:=fun _=>rfl
 by_cases hij:i=j
 ·subst hij
  have x1:=e1.symm.trans e3
  have x2:=e2.symm.trans e4
  simp only [aW,true_and] at x1 x2
  obtain ⟨rfl,rfl⟩:=x1
  obtain ⟨rfl,rfl⟩:=x2
  refine gH @c0 @p1 @p2 @p3 @fg ?_
  refine hk _ hsw.drew ?_ ?_
  ·simp only [World.size_drew,World.size_setCell]; exact aD _
  ·intro b hb
   rw [hd]
   simp only [fJ hb]
 ·have d1:i * 3≠j * 3:=by omega
  refine xS @c0 @p1 @p2 @p3 @q1 @q2 @q3 @fg ?_
  refine hk _ hsw.drew ?_ ?_
  ·simp only [World.size_drew,World.size_setCell]; exact aD _
  ·intro b hb
   rw [hd]
   simp only [fJ hb]
theorem Gv (hc:w0.cell? ⟨Hb,ho,none⟩=some (.func (.func 102) #[] #[])):Srt prog (.iface 252 (.pointer (some ⟨Hb,ho,none⟩))) rM w0.heap.size (fun w b=>KRow d w0 w Hb (ho+1) g cap b∧b.size < 1000000) where
 size h:=h.1.keep.size
 small h:=by omega
 less' h hi hj hk:=by
  rw [Tryz.iv252_Less]
  exact xi h.1 (h.1.keep.some hc h.1.ne) hi hj (hk _ ⟨h.1.drew,h.2⟩ rfl)
 swap' h hi hj hk:=by
  rw [Tryz.iv252_Swap]
  refine xj h.1 hi hj fun w' h2 h3 h4=>hk w' ⟨h2,by rw [swp_size]; exact h.2⟩ h3 fun b hb _=>h4 b ?_
  have:=h.1.lt
  omega
 alloc ob h:=⟨h.1.alloc ob,h.2⟩
 set h hb:=⟨h.1.set hb,h.2⟩
 drew h:=⟨h.1.drew,h.2⟩
end
end Go.Proofs
end
