/- Parts of the proof: Du, Dx, Ck, Wc, We, Of. -/
import Derived.Test.YtlmoafgebiffaaaGreatDoorV08
import Derived.Test.YtlmoafgebiffaaaGreatDoorV13
import Derived.Test.YtlmoafgebiffaaaGreatDoorV15
set_option linter.all false
set_option maxRecDepth 10000
section
namespace Go.Proofs
open Go Go.E Go.Sort
section
variable {k:aq} {d w:World} {U Bf C:Nat} {rt:TypeId} {rv:Value} {is:Option Addr} {ps:Int}
theorem EJ {x:Sp} {b o j:Nat} (h:fE 1 w b o x) (hj:j < x.ks.length):∃ g f c s n m v p q,w.cell? ⟨b,o+2,none⟩=some (.slice (some ⟨g,f,none⟩) x.ks.length c)∧x.ks.length≤c∧w.cell? ⟨g,f+j * 3+1,none⟩=some (.slice s n m)∧dR w (.slice s n m) x.ks[j]!.suf∧w.cell? ⟨g,f+j * 3+2,none⟩=some (.slice v p q)∧dR w (.slice v p q) x.ks[j]!.val:=by
 obtain ⟨_,_,⟨kv,k1,k2⟩,_⟩:=h
 obtain ⟨g,f,c,e,hc,hx⟩:=k2.at (by omega)
 obtain ⟨_,_,⟨sv,s1,s2⟩,vv,v1,v2⟩:=hx j x.ks[j]! (by rw [aI x.ks j hj]; exact aD hj)
 obtain ⟨a,m,e1⟩:=aY s2
 obtain ⟨a2,m2,e2⟩:=aY v2
 rw [e] at k1
 rw [e1] at s1 s2
 rw [e2] at v1 v2
 exact ⟨g,f,c,a,_,m,a2,_,m2,k1,hc,s1,s2,v1,v2⟩
set_option maxHeartbeats 1000000 in
theorem mC {xb xo yb yo:Nat} {x y:Sp} (u93:w.cell? ⟨U,93,none⟩=some (.bool false)) (hx:fE 1 w xb xo x) (hy:fE 1 w yb yo y) (hl:x.ks.length < 100000)
    (hk:∀ w',bp w w'→k (.bool (decide (x.ks≠[]∧x.ks.map K.sv=y.ks.map K.sv))) w'):ai Tryz.prog 165 #[.pointer (some ⟨U,0,none⟩),.func (.func 86) #[] #[],.pointer (some ⟨xb,xo,none⟩),.pointer (some ⟨yb,yo,none⟩)] k w:=by
 obtain ⟨_,_,⟨xv,x1,x2⟩,x3⟩:=hx
 obtain ⟨_,_,⟨yv,y1,y2⟩,y3⟩:=hy
 obtain ⟨xa,xc,rfl⟩:=x2.form
 obtain ⟨ya,yc,rfl⟩:=y2.form
 have Fy:((1:Int) != 1)=false:=by decide
 refine al [.tmp 8] Tryz.func165 ?_
 refine bu @u93 ?_
 refine bF (sq [0,1,2] (.read 3 (sq [4,5,6,7] (.read 8 (sq [9,10,11,12,13,14] (.read 15 (sq [16,17,18] .done))))))) ?_
 by_cases hne:x.ks.length=y.ks.length
 ·have hne':((x.ks.length:Int) != (y.ks.length:Int))=false:=by rw [hne]; simp
  by_cases h0:x.ks.length=0
  ·have h0':((x.ks.length:Int) == 0)=true:=by rw [h0]; rfl
   refine eO @x1 @y1 @hne' @h0' ?_
   have hks:x.ks=[]:=ak.1 h0
   have:=hk w.drew (Keep.refl _ w).drew
   rw [aG (by rw [hks]; simp)] at this
   exact this
  ·have h0':((x.ks.length:Int) == 0)=false:=by rw [beq_eq_false_iff_ne]; omega
   refine vJ @x1 @y1 @x3 @y3 @Fy @hne' @h0' ?_
   have hks:x.ks≠[]:=fun h=>h0 (by rw [h]; rfl)
   refine jf (fun res:Bool=>[(9,.bool res)]) (fun res w'=>bp w w'∧res=decide (x.ks.map K.sv=y.ks.map K.sv)) (by kernel_rfl) (fun K hK => ?_) ?_
   ·refine bZ (fun i:Nat=>[(1,.func (.func 86) #[] #[]),(2,.pointer (some ⟨xb,xo,none⟩)),(3,.pointer (some ⟨yb,yo,none⟩)),(9,.bool true),(52,.int .i64 x.ks.length),(53,.int .i64 i)])
      (fun i w'=>bp w w'∧(∀ j,j < i→x.ks[j]!.sv=y.ks[j]!.sv)∧i≤x.ks.length) (fun i _=>x.ks.length - i) 0 (by kernel_rfl) ?_ ⟨(Keep.refl _ w).drew,fun j hj=>by omega,aT _⟩ ?_
    ·exact bU
    rintro K2 e i w1 ⟨i1,i2,i3⟩ hK2
    by_cases hi:i < x.ks.length
    ·have hi':(i:Int) < x.ks.length:=by omega
     have hiy':(i:Int) < y.ks.length:=by omega
     have hx1:fE 1 w1 xb xo x:=fE.mono 1 _ _ _ _ _ i1.inc ⟨by assumption,by assumption,⟨_,x1,x2⟩,x3⟩
     have hy1:fE 1 w1 yb yo y:=fE.mono 1 _ _ _ _ _ i1.inc ⟨by assumption,by assumption,⟨_,y1,y2⟩,y3⟩
     obtain ⟨g,f,c,s,n,m,v,p,q,a1,a2,a3,a4,a5,a6⟩:=EJ hx1 hi
     obtain ⟨g',f',c',s',n',m',v',p',q',b1,b2,b3,b4,b5,b6⟩:=EJ hy1 (show i < y.ks.length by omega)
     refine bu @hi' ?_
     refine bF (sq [0,1,2,3] (.read 4 (sq [5,6,7] (.read 8 (sq [9,10,11] (.read 12 (sq [13,14,15] (.read 16 (.eff 17 [] (sq [18] .done)))))))))) ?_
     refine qh @a1 @b1 @a3 @b3 @hi' @hiy' ?_
     refine mN (by exact a4) (by exact b4) ?_
     have bad:x.ks[i]!.sv≠y.ks[i]!.sv→false=decide (x.ks.map Go.E.K.sv=y.ks.map Go.E.K.sv):=by
      intro hn
      symm
      rw [decide_eq_false_iff_not]
      intro he
      have:=congrArg (fun l=>l[i]?) he
      simp only [bw] at this
      rw [aD hi,aD (show i < y.ks.length by omega)] at this
      rw [aI x.ks i hi,aI y.ks i (by omega)] at hn
      exact hn (by simpa using this)
     by_cases hs:x.ks[i]!.suf=y.ks[i]!.suf
     ·rw [aV hs]
      refine bA ?_
      refine bF (sq [0,1,2] (.read 3 (sq [4,5,6] (.read 7 (sq [8,9,10] (.read 11 (sq [12,13,14] (.read 15 (.eff 16 [] (sq [17] .done)))))))))) ?_
      refine qh @a1 @b1 @a5 @b5 @hi' @hiy' ?_
      refine mN (by exact a6) (by exact b6) ?_
      by_cases hv:x.ks[i]!.val=y.ks[i]!.val
      ·rw [aV hv]
       refine bA ?_
       refine hK2 _ _ (i+1) ?_ ⟨i1.drew.drew,fun j hj => ?_,by omega⟩ (by omega)
       ·exact bU
       ·rcases eE (show j≤i by omega) with h | h
        ·exact i2 j h
        ·subst h
         unfold Go.E.K.sv
         rw [hs,hv]
      ·rw [aG hv]
       refine bA ?_
       refine hK _ _ false ?_ ⟨i1.drew.drew,bad fun h=>hv (congrArg Prod.snd h)⟩
       exact bU
     ·rw [aG hs]
      refine bA ?_
      refine hK _ _ false ?_ ⟨i1.drew,bad fun h=>hs (congrArg Prod.fst h)⟩
      exact bU
    ·have hi':¬ (i:Int) < x.ks.length:=by omega
     refine bu @hi' ?_
     refine hK _ _ true ?_ ⟨i1,?_⟩
     ·exact bU
     ·symm
      rw [decide_eq_true_eq]
      refine List.ext_getElem (by simp [hne]) fun j h1 h2 => ?_
      simp only [aR] at h1 h2
      have:=i2 j (by omega)
      rw [aI x.ks j h1,aI y.ks j h2] at this
      simpa using this
   ·rintro e res w1 ⟨i1,rfl⟩
    refine bA ?_
    have:=hk w1 i1
    rw [show decide (x.ks≠[]∧x.ks.map K.sv=y.ks.map K.sv)=decide (x.ks.map K.sv=y.ks.map K.sv) by rw [decide_eq_decide]; exact ⟨fun h=>h.2,fun h=>⟨hks,h⟩⟩] at this
    exact this
 ·have hne':((x.ks.length:Int) != (y.ks.length:Int))=true:=by rw [bne_iff_ne]; omega
  refine dQ @x1 @y1 @hne' ?_
  have:=hk w.drew (Keep.refl _ w).drew
  rw [aG (by rintro ⟨_,h⟩; have:=congrArg List.length h; simp at this; exact hne this)] at this
  exact this
end
end Go.Proofs
end
section
namespace Go.Proofs
open Go Go.E Go.Sort
section
variable {k:aq} {d w:World}
end
end Go.Proofs
end
section
namespace Go.E
open Go Go.Sort Go.Proofs
end Go.E
end
section
namespace Go.E
open Go Go.Sort Go.Proofs
section
variable {d:World} {U Bf C snap:Nat} {Ls:Array Lvl} {B:List Bytes} {lo hi:Option Bytes} {lov hiv:Value}
theorem EK {G:List Sp} {j:Nat} (hj:j < (GB G lo hi).length):∃ i,i < G.length∧(GB G lo hi)[j]! = G[i]! := by
 refine ⟨aB G lo+j,?_,xT (G:=G) hj⟩
 have:=gD (G:=G) (lo:=lo) (hi:=hi)
 have:=oY (G:=G) (hi:=hi)
 omega
theorem EL {n:Nat} {L:Nat→List Sp} {u:Nat} {x:K} (h:x ∈ cy n L B u):∃ i,i < n∧∃ sp ∈ L i,x ∈ sp.ks:=by
 unfold cy at h
 obtain ⟨i,hi,hx⟩:=cu.1 h
 rw [List.mem_range] at hi
 split at hx
 ·refine ⟨i,hi,(L i)[cp L B u i / 2]!,?_,hx⟩
  rcases aH (cp L B u i / 2) (L i).length with hl | hl
  ·rw [aI (L i) (cp L B u i / 2) hl]; exact an hl
  ·rw [getElem!_neg (L i) (cp L B u i / 2) (by omega)] at hx
   exact absurd hx (by simp [default,instInhabitedSp.default])
 ·simp at hx
theorem AX {F:List K→List K} {n:Nat} {L:Nat→List Sp} {j:Nat} (hj:j < (GL F n L B).length):∃ u,u≤B.length∧(GL F n L B)[j]! = lz F n L B u:=by
 rw [dX] at hj
 have e:(eK n L B)[j]? = some (eK n L B)[j]:=aD hj
 exact ⟨_,(gO.1 (an hj)).1,rq e⟩
structure UK where
 it:Bool
 F:List K→List K
 ord:Int
 β:Type
 dec:DecidableEq β
 π:K→β
 mt:TypeId
 mv:Value
instance (q:UK):DecidableEq q.β:=q.dec
abbrev UK.Z (q:UK) (d:World) (U Bf C snap:Nat):TX:=uX d U Bf C snap q.it q.F q.ord
abbrev UK.Y (q:UK):DX:=⟨81,6,q.ord,q.β,q.dec,q.π,q.mt,q.mv⟩
structure UC (q:UK) (d:World) (U Bf C:Nat) (Ls:Array Lvl) (snap:Nat) (B:List Bytes) (lov hiv:Value) (lo hi:Option Bytes):Prop where
 m:MS d U 2 Bf (q.Z d U Bf C snap) Ls B
 small:B.length < 999999
 bd:BY lo hi
 c0:d.cell? ⟨C,0,none⟩=some (.func (.func 85) #[] #[])
 kl:∀ i,i < Ls.size→∀ sp ∈ Ls[i]!.L,∀ x ∈ sp.ks,x.suf.length≤4294967296∧x.val.length≤4294967296
 fs:∀ ks x,x ∈ q.F ks→x ∈ ks
 fl:∀ ks,(q.F ks).length≤ks.length
 meth:∀ {w:World} {xb xo yb yo:Nat} {x y:Sp} {k:aq},w.cell? ⟨U,93,none⟩=some (.bool q.it)→fE q.ord w xb xo x→fE q.ord w yb yo y→x.ks≠[]→x.ks.length < 100000→(∀ w',bp w w'→k (.bool (decide (x.ks.map q.π=y.ks.map q.π))) w') →
  cQ Tryz.prog (.iface q.mt q.mv) "ShouldDefragment" #[.func (.func 86) #[] #[], .pointer (some ⟨xb, xo, none⟩), .pointer (some ⟨yb, yo, none⟩)] k w
abbrev uG (q:UK) (Ls:Array Lvl) (B:List Bytes):List Sp:=GL q.F Ls.size (Lf Ls) B
abbrev uV (q:UK) (Ls:Array Lvl) (B:List Bytes) (lo hi:Option Bytes):List Sp:=Vw q.π (GB (uG q Ls B) lo hi)
abbrev uM (q:UK) (d:World) (U Bf C snap:Nat) (Ls:Array Lvl):Nat→Nat→Prop:=mT U 2 Bf (q.Z d U Bf C snap) Ls
abbrev uW (q:UK) (d:World) (U Bf C snap:Nat) (Ls:Array Lvl) (B:List Bytes):World→(Nat→Prop)→Int→Prop:=Mi d U 2 Bf (q.Z d U Bf C snap) Ls B
abbrev uD (q:UK) (d:World) (U Bf C snap:Nat) (Ls:Array Lvl) (B:List Bytes) (lov hiv:Value) (lo hi:Option Bytes):World→(Nat→Prop)→Int→Prop:=Bd d U U 6 230 (.pointer (some ⟨U,2,none⟩)) lov hiv lo hi (uG q Ls B) (uW q d U Bf C snap Ls B)
variable {q:UK}
theorem UC.bc (c:UC q d U Bf C Ls snap B lov hiv lo hi):BC d U U 6 230 (.pointer (some ⟨U,2,none⟩)) lo hi (uG q Ls B) True False (fun _=>False) (uM q d U Bf C snap Ls) (uW q d U Bf C snap Ls B) q.ord where
 f:=Lx c.m c.small
 t x h1 h2:=by
  rintro (⟨_,_,h⟩ | ⟨h,_⟩ | ⟨i,hi,h⟩ | h)
  ·omega
  ·exact c.m.mc.ne h.symm
  ·exact c.m.mc.iU i hi h.symm
  ·rcases h with ⟨_,h⟩ | ⟨h,_⟩
   ·omega
   ·exact c.m.mc.ne h.symm
 s h hs:=by
  obtain ⟨u,pos,vk,vb,vs,lk,xb,sc,_⟩:=h
  exact (sc.r.sp U hs).1 rfl
 o:=c.m.mc.oU
 b:=c.bd
theorem Bm (c:UC q d U Bf C Ls snap B lov hiv lo hi) {u:Nat} (hu:u≤B.length):(lz q.F Ls.size (Lf Ls) B u).s.length≤4294967296∧(lz q.F Ls.size (Lf Ls) B u).e.length≤4294967296∧(lz q.F Ls.size (Lf Ls) B u).ks.length < 100000∧∀ x ∈ (lz q.F Ls.size (Lf Ls) B u).ks,x.suf.length≤4294967296∧x.val.length≤4294967296:=by
 have hb:∀ i:Nat,(B[i]!).length≤4294967296:=fun i=>by
  rcases aH i B.length with h | h
  ·rw [aI B i h]
   exact gG (c.m.blen _ (an h))
  ·rw [getElem!_neg B i (by omega)]; exact aT _
 refine ⟨hb _,hb _,fV (c.fl _) (c.m.len u),fun x hx => ?_⟩
 obtain ⟨i,hi,sp,hsp,hk⟩:=EL (c.fs _ _ hx)
 exact c.kl i hi sp hsp x hk
theorem UC.tl (c:UC q d U Bf C Ls snap B lov hiv lo hi) {w:World} {S:Nat→Prop} {p:Int} {b x:Nat} (h:uW q d U Bf C snap Ls B w S p) (ht:uM q d U Bf C snap Ls b x∨bM U b x):b < w.heap.size:=by
 obtain ⟨u,pos,vk,vb,vs,lk,xb,sc,_⟩:=h
 obtain ⟨HK,ti,_⟩:=c.m.ti
 have hU:=aC sc.g.bufs
 rcases ht with (⟨rfl,_⟩ | ⟨rfl,_⟩ | ⟨i,hi,rfl⟩ | ht) | ⟨rfl,_,_⟩
 ·exact hU
 ·exact aC sc.g.lvls
 ·exact aC (sc.g.lv i hi).iter.c0
 ·exact ti.tl sc.r.x ht
 ·exact hU
theorem UC.dc (c:UC q d U Bf C Ls snap B lov hiv lo hi):DC d q.Y U Bf C U 6 232 (.pointer (some ⟨U,72,none⟩)) (GB (uG q Ls B) lo hi) (True∧lo=none) False (fun _=>False) (bT U (uM q d U Bf C snap Ls)) (uD q d U Bf C snap Ls B lov hiv lo hi) where
 f:=Ly c.bc
 t x h1 h2:=by
  have h1:81≤x:=h1
  have h2:x≤81+11:=h2
  rintro ((⟨_,_,h⟩ | ⟨h,_⟩ | ⟨i,hi,h⟩ | h) | ⟨_,_,_⟩)
  ·omega
  ·exact c.m.mc.ne h.symm
  ·exact c.m.mc.iU i hi h.symm
  ·rcases h with ⟨_,h⟩ | ⟨h,_⟩
   ·omega
   ·exact c.m.mc.ne h.symm
  ·omega
 tB x h1 h2:=by
  have h1:6≤x:=h1
  have h2:x≤6+2:=h2
  rintro ((⟨h,_⟩ | ⟨_,h⟩ | ⟨i,hi,h⟩ | h) | ⟨h,_⟩)
  ·exact c.m.mc.ne h
  ·omega
  ·exact c.m.mc.iB i hi h.symm
  ·rcases h with ⟨h,_⟩ | ⟨_,h⟩
   ·exact c.m.mc.ne h
   ·omega
  ·exact c.m.mc.ne h
 s h:=by
  obtain ⟨p,is,ps,h,_⟩:=h
  obtain ⟨u,pos,vk,vb,vs,lk,xb,sc,_⟩:=h
  exact ⟨fun hs=>(sc.r.sp U hs).1 rfl,fun hs=>(sc.r.sp Bf hs).2.1 rfl⟩
 tl h ht:=by
  obtain ⟨p,is,ps,h,_⟩:=h
  exact c.tl h ht
 meth h hx hy hne hl hk:=by
  obtain ⟨p,is,ps,h,_⟩:=h
  obtain ⟨u,pos,vk,vb,vs,lk,xb,sc,_⟩:=h
  exact c.meth sc.r.x.u93 hx hy hne hl hk
 tp y h1 h2 := .inl (.inl ⟨rfl,by omega,by omega⟩)
 oU:=c.m.mc.oU
 oB:=c.m.mc.oB
 ne:=c.m.mc.ne
 cmp0:=c.c0
 len j hj:=by
  obtain ⟨i,hi,e⟩:=EK hj
  obtain ⟨u,hu,e2⟩:=AX hi
  rw [e,e2]
  exact Bm c hu
theorem UC.wi {KS:List K→List K→Prop} (hKL:∀ a b,KS a b→a.length=b.length) (hKS:∀ ks b,(q.F ks).map q.π=b.map q.π→KS (q.F ks) b) (c:UC q d U Bf C Ls snap B lov hiv lo hi):WI (.iface 235 (.pointer (some ⟨U,81,none⟩))) d (uV q Ls B lo hi) (True∧lo=none) False (fun _=>False) KS
    (KM d q.Y U Bf C U 6 232 (.pointer (some ⟨U,72,none⟩)) (GB (uG q Ls B) lo hi) (bT U (uM q d U Bf C snap Ls)) (uD q d U Bf C snap Ls B lov hiv lo hi)):=by
 refine L0 hKL c.dc (fun b x h => ?_) fun j i hj hi he => ?_
 ·rcases h with (⟨rfl,_⟩ | ⟨rfl,_⟩ | ⟨i,hi,rfl⟩ | h) | ⟨rfl,_,_⟩
  ·exact c.m.mc.oU
  ·exact c.m.mc.oB
  ·exact c.m.mc.oI i hi
  ·rcases h with ⟨rfl,_⟩ | ⟨rfl,_⟩
   ·exact c.m.mc.oU
   ·exact c.m.mc.oB
  ·exact c.m.mc.oU
 ·obtain ⟨i',hi',e⟩:=EK hj
  obtain ⟨u,hu,e2⟩:=AX hi'
  rw [e,e2] at he ⊢
  exact hKS _ _ he
def pY (ks:List K):Prop:=∀ x ∈ ks,au x.tr=21
theorem F2 (a b:List K) (h:FB pY a b):a.length=b.length:=by simpa using congrArg List.length h.1
theorem Hs (snap:Nat) (ks b:List K) (h:(Tf snap ks).map K.sv=b.map K.sv):FB pY (Tf snap ks) b:=⟨h,fun x hx=>(jx.1 (nH.1 hx).2).2.1⟩
theorem Bn {w:World} {xb xo yb yo:Nat} {x y:Sp} {k:aq} (h:w.cell? ⟨U,93,none⟩=some (.bool false)) (hx:fE 1 w xb xo x) (hy:fE 1 w yb yo y) (hne:x.ks≠[]) (hl:x.ks.length < 100000) (hk:∀ w',bp w w'→k (.bool (decide (x.ks.map K.sv=y.ks.map K.sv))) w') :
    cQ Tryz.prog (.iface 227 (.pointer (some ⟨U, 0, none⟩))) "ShouldDefragment" #[.func (.func 86) #[] #[], .pointer (some ⟨xb, xo, none⟩), .pointer (some ⟨yb, yo, none⟩)] k w := by
 rw [Tryz.iv227_ShouldDefragment]
 refine mC h hx hy hl fun w' x' => ?_
 have:=hk w' x'
 rw [show decide (x.ks≠[]∧x.ks.map K.sv=y.ks.map K.sv)=decide (x.ks.map K.sv=y.ks.map K.sv) by rw [decide_eq_decide]; exact ⟨fun h=>h.2,fun h=>⟨hne,h⟩⟩]
 exact this
theorem Bp (snap:Nat) (ks:List K):(Tf snap ks).length≤ks.length:=by
 unfold Tf
 rw [List.length_mergeSort]
 exact bN _ _
end
end Go.E
end
section
namespace Go.E
open Go Go.Sort Go.Proofs Go.Proofs.Tryz
open Classical in
theorem oq {d w w2:World} (hi:cM d w) (x:bp w w2):∃ d2,Gr d w d2 w2∧∀ b o u,w.heap.size≤b→w2.cell? ⟨b,o,none⟩=some u→d2.cell? ⟨b,o,none⟩=some u:=by
 let D:Nat→Bool:=fun b=>decide (¬ cj d b∨w.heap.size≤b)
 have hD:∀ b o u,d.cell? ⟨b,o,none⟩=some u→D b=true:=fun b o u hu=>aV (.inl fun ho=>by rw [ho o] at hu; simp at hu)
 refine ⟨only w2 D,⟨x,ny (hi.trans x.inc) D hD,nt w2 D,fun b hb ho=>nx w2 D (aG fun h=>h.elim (fun h=>h ho) fun h=>by omega)⟩,fun b o u hb hu => ?_⟩
 rw [iI,show D b=true from aV (.inr hb),if_pos rfl]
 exact hu
theorem fD.imp {α:Type} {R R2:World→Nat→Nat→α→Prop} {sz:Nat} {w:World} {v:Value} {l:List α} (h:fD R sz w v l) (hi:∀ b o x,x ∈ l→R w b o x→R2 w b o x):fD R2 sz w v l:=by
 unfold fD at h ⊢
 split at h
 ·exact h
 ·exact ⟨h.1,h.2.1,h.2.2.1,fun i x hx=>hi _ _ _ (aO hx) (h.2.2.2 i x hx)⟩
 ·exact h.elim
def KB:gR K:=fun w cs x=>∃ a b,cs=[.int .u64 x.tr,a,b]∧x.tr < 18446744073709551616∧dR w a x.suf∧dR w b x.val
theorem KB.mono:gH KB:=fun _ _ _ _ hi ⟨a,b,h1,h2,h3,h4⟩=>⟨a,b,h1,h2,h3.inc hi,h4.inc hi⟩
def FC:gR Sp:=fun w cs x=>∃ a b v,cs=[a,b,v,.int .i8 0]∧rY a=true∧dR w a x.s∧rY b=true∧dR w b x.e∧Sl KB 3 w v x.ks
theorem FC.mono:gH FC:=fun _ _ _ _ hi ⟨a,b,v,h1,h2,h3,h4,h5,h6⟩=>⟨a,b,v,h1,h2,h3.inc hi,h4,h5.inc hi,h6.inc KB.mono hi⟩
theorem KB.key {w:World} {b o:Nat} {x:K} (h:Fz KB 3 w b o x):jt w b o x:=by
 obtain ⟨cs,_,hc,a,a2,rfl,h2,h3,h4⟩:=h
 exact ⟨hc 0 _ rfl,h2,⟨a,hc 1 _ rfl,h3⟩,a2,hc 2 _ rfl,h4⟩
theorem FC.span {w:World} {b o:Nat} {x:Sp} (h:Fz FC 4 w b o x):xC w b o x:=by
 obtain ⟨cs,_,hc,a,a2,v,rfl,h2,h3,h4,h5,h6⟩:=h
 exact ⟨⟨a,hc 0 _ rfl,h2,h3⟩,⟨a2,hc 1 _ rfl,h4,h5⟩,⟨v,hc 2 _ rfl,h6.imp fun _ _ _ _ h=>KB.key h⟩,hc 3 _ rfl⟩
def Bs (x:K):Prop:=x.suf.length≤4294967296∧x.val.length≤4294967296
def xh (x:Sp):Prop:=x.s.length≤4294967296∧x.e.length≤4294967296∧x.ks.length < 1000000∧∀ k ∈ x.ks,Bs k
end Go.E
namespace Go.Proofs
open Go Go.E Go.Sort Go.Proofs.Tryz
section
variable {k:aq} {d w:World}
theorem dY {s:Bytes} {q:aq} (hinc:cM d w) (hs:s.length≤4294967296) (hk:∀ d2 w2 a n c,Gr d w d2 w2→dR d2 (.slice (some a) n c) s→q (.slice (some a) n c) w2):FY prog 9 56 (.string ⟨s.toArray⟩) q w:=by
 unfold FY
 refine zI Tryz.underlying9 Tryz.underlying56 Tryz.underlying5 (by simp only [ByteArray.size,List.size_toArray]; omega) fun n c w2 h2 hn x2 _ => ?_
 obtain ⟨d2,g2,e2⟩:=oq hinc x2
 have h3:dR w2 (.slice (some ⟨w.heap.size,0,none⟩) n c) s:=h2
 exact hk d2 w2 _ n c g2 ⟨h3.1,h3.2.1,fun i v hv=>e2 _ _ _ (aF _) (h3.2.2 i v hv)⟩
theorem uZ {s:Bytes} (hinc:cM d w) (hs:s.length≤4294967296) (hk:∀ d2 w2 v,Gr d w d2 w2→dR d2 v s→k v w2):ai prog 75 #[.string ⟨s.toArray⟩] k w:=by
 refine al [.tmp 2] func75 ?_
 cases s with
 | nil =>
  refine bA ?_
  exact hk d w _ (Gr.refl hinc) ⟨rfl,rfl⟩
 | cons a s =>
  have e:((⟨(a :: s).toArray⟩:ByteArray).toList == (⟨#[]⟩:ByteArray).toList)=false:=by rw [ByteArray.toList_mk,ByteArray.toList_mk]; rfl
  refine bu @e ?_
  refine dY hinc hs fun d2 w2 a2 n c g2 h2 => ?_
  refine bA ?_
  exact hk d2 w2 _ g2 h2
theorem tX {v:Value} {l:List K} (hv:Sl KE 3 d v l) (hl:l.length < 1000000) (hlen:∀ x ∈ l,Bs x) (hinc:cM d w) (hk:∀ d' w' v',LoopL KB 3 117 d w d' w' v' l→k v' w'):ai prog 47 #[v] k w:=by
 obtain ⟨ka,kc,rfl⟩:=hv.form
 refine al [.tmp 2] func47 ?_
 refine bA ?_
 refine bZ (fun b:Nat × Value=>[(3,b.2),(6,.slice ka l.length kc),(7,.int .i64 l.length),(8,.int .i64 b.1)])
  (fun b w'=>b.1≤l.length∧∃ d1,LoopL KB 3 117 d w d1 w' b.2 (l.take b.1)) (fun b _=>l.length - b.1) (0,.slice none 0 0) (by kernel_rfl) ?_ ⟨aT _,d,LoopL.nil hinc⟩ ?_
 ·exact bU
 rintro K2 e ⟨i,v⟩ w1 ⟨i2,d1,i3⟩ hK2
 simp only at i2 i3
 rcases aH i l.length with hi | hi
 rotate_left
 ·have hi':¬ (i:Int) < l.length:=by omega
  refine bu @hi' ?_
  obtain rfl:i=l.length:=by omega
  rw [ag] at i3
  exact hk d1 w1 v i3
 have hi':(i:Int) < l.length:=by omega
 obtain ⟨g,f,c,hv',hc,hat⟩:=(hv.inc KE.mono i3.g.i).at (by omega)
 obtain ⟨rfl,rfl⟩:=sEq hv'
 obtain ⟨x,hx⟩:=gEl hi
 obtain ⟨cs,_,hcs,hR⟩:=hat i x hx
 have hmem:=aO hx
 obtain ⟨rfl,htr⟩:=hR
 have h0:w1.cell? ⟨g,f+i * 3,none⟩=some (.int .u64 x.tr):=i3.g.j _ _ _ (hcs 0 _ rfl)
 have h1:w1.cell? ⟨g,f+i * 3+1,none⟩=some (.string ⟨x.suf.toArray⟩):=i3.g.j _ _ _ (hcs 1 _ rfl)
 have h2:w1.cell? ⟨g,f+i * 3+2,none⟩=some (.string ⟨x.val.toArray⟩):=i3.g.j _ _ _ (hcs 2 _ rfl)
 refine eO @hi' @h0 @h1 @h2 ?_
 refine bF (sq [0,1] (.read 2 (sq [3] (.read 4 (sq [6] (.read 7 (.eff 5 [2,7] (.eff 8 [2] (sq [9] (.eff 10 [] (.eff 11 [] (sq [12] .done)))))))))))) ?_
 refine bA ?_
 obtain ⟨sb,hsb⟩:∃ sb,sb=w1.heap.size:=⟨_,rfl⟩
 obtain ⟨w3,hw3⟩:∃ w3,w3=(w1.alloc (.cells #[.int .u64 x.tr,.string ⟨x.suf.toArray⟩,.string ⟨x.val.toArray⟩] 91)).drew:=⟨_,rfl⟩
 have x3:bp w1 w3:=by rw [hw3]; exact Keep.drew (aJ _)
 have p0:w3.cell? ⟨sb,0,none⟩=some (.int .u64 x.tr):=by rw [hw3,hsb]; exact bX @aA
 have p1:w3.cell? ⟨sb,1,none⟩=some (.string ⟨x.suf.toArray⟩):=by rw [hw3,hsb]; exact bX @aA
 have p2:w3.cell? ⟨sb,2,none⟩=some (.string ⟨x.val.toArray⟩):=by rw [hw3,hsb]; exact bX @aA
 rw [← hw3,← hsb]
 have i4:=i3.ext KB.mono x3
 refine uZ i4.g.j (hlen x hmem).1 fun d4 w4 v4 g4 b4 => ?_
 have i5:=i4.call KB.mono g4
 obtain ⟨a4,c4,rfl⟩:=aY b4
 have p0:=g4.x.cell p0
 have p1:=g4.x.cell p1
 have p2:=g4.x.cell p2
 refine dQ @p0 @p1 @p2 ?_
 refine uZ i5.g.j (hlen x hmem).2 fun d5 w5 v5 g5 b5 => ?_
 have i6:=i5.call KB.mono g5
 obtain ⟨a5,c5,rfl⟩:=aY b5
 have p0:=g5.x.cell p0
 have p1:=g5.x.cell p1
 have p2:=g5.x.cell p2
 obtain ⟨va,vcap,rfl,_⟩:=i6.form
 refine dQ @p0 @p1 @p2 ?_
 obtain ⟨css,o6⟩:=i6.o
 refine iL x [.int .u64 x.tr,.slice a4 x.suf.length c4,.slice a5 x.val.length c5] rw57 o6 ⟨_,_,rfl,htr,b4.inc g5.i,b5⟩ rfl (.inl rfl) rfl rfl (by simp [Value.oneCell']) (by rw [dV i2]; omega) i6.g.j fun v2 w2 o2 k2 n2 j2 _ => ?_
 refine dQ @p0 @p1 @p2 ?_
 refine hK2 _ _ (i+1,v2) ?_ ⟨hi,d5,?_⟩ (by simp only; omega)
 ·exact bU
 ·rw [bz hx]
  exact i6.more o2 k2 n2 j2
theorem gx {v:Value} {l:List K} (hv:Sl KE 3 d v l) (hl:l.length < 1000000) (hlen:∀ x ∈ l,Bs x) (hinc:cM d w) (hk:∀ d' w' v',Gr d w d' w'→Sl KB 3 d' v' l→k v' w'):ai prog 47 #[v] k w :=
 tX hv hl hlen hinc fun d1 w1 v i3=>by
  obtain ⟨d2,g2,_,_,s2⟩:=i3.done KB.mono
  exact hk d2 w1 v g2 s2
theorem sB {kv:Value} {x:Sp} (hv:Sl KE 3 d kv x.ks) (hl:xh x) (hinc:cM d w) (hk:∀ d' w' a b v',Gr d w d' w'→rY a=true→dR d' a x.s→rY b=true→dR d' b x.e→Sl KB 3 d' v' x.ks→k (.agg #[a,b,v',.int .i8 0]) w') :
    ai prog 23 #[.agg #[.string ⟨x.s.toArray⟩,.string ⟨x.e.toArray⟩,kv]] k w:=by
 obtain ⟨ka,kc,rfl⟩:=hv.form
 refine al [.cell 2 61] func23 ?_
 refine bA ?_
 refine bF (sq [0] (.read 1 (sq [3] (.read 4 (sq [6] (.read 7 (.alt (.alt (.eff 2 [4,7] (.alt (.eff 5 [1,7] (.eff 8 [1,4] (sq [9] (.eff 10 [] .done)))) (.eff 8 [1,4] (.eff 5 [1,7] (sq [9] (.eff 10 [] .done)))))) (.eff 5 [1,7] (.alt (.eff 2 [4,7] (.eff 8 [1,4] (sq [9] (.eff 10 [] .done)))) (.eff 8 [1,4] (.eff 2 [4,7] (sq [9] (.eff 10 [] .done))))))) (.eff 8 [1,4] (.alt (.eff 2 [4,7] (.eff 5 [1,7] (sq [9] (.eff 10 [] .done)))) (.eff 5 [1,7] (.eff 2 [4,7] (sq [9] (.eff 10 [] .done))))))))))))) ?_
 refine bA ?_
 obtain ⟨b,hb⟩:∃ b,b=w.heap.size:=⟨_,rfl⟩
 obtain ⟨w1,hw1⟩:∃ w1,w1=((w.alloc (.cells #[.string ⟨x.s.toArray⟩,.string ⟨x.e.toArray⟩,.slice ka x.ks.length kc] 37)).alloc (.cells #[.slice none 0 0,.slice none 0 0,.slice none 0 0,.int .i8 0] 61)).drew:=⟨_,rfl⟩
 rw [← hw1,← hb]
 have k1:bp w w1:=by rw [hw1]; exact Keep.drew ((aJ _).trans (aJ _))
 have z1:w1.heap.size=w.heap.size+2:=by rw [hw1,World.size_drew,World.size_alloc,World.size_alloc]
 have a0:w1.cell? ⟨b,0,none⟩=some (.string ⟨x.s.toArray⟩):=by rw [hw1,hb]; exact bX @aA
 have a1:w1.cell? ⟨b,1,none⟩=some (.string ⟨x.e.toArray⟩):=by rw [hw1,hb]; exact bX @aA
 have a2:w1.cell? ⟨b,2,none⟩=some (.slice ka x.ks.length kc):=by rw [hw1,hb]; exact bX @aA
 have b0:w1.cell? ⟨b+1,0,none⟩=some (.slice none 0 0):=by rw [hw1,hb]; exact bX @aA
 have b1:w1.cell? ⟨b+1,1,none⟩=some (.slice none 0 0):=by rw [hw1,hb]; exact bX @aA
 have b2:w1.cell? ⟨b+1,2,none⟩=some (.slice none 0 0):=by rw [hw1,hb]; exact bX @aA
 have b3:w1.cell? ⟨b+1,3,none⟩=some (.int .i8 0):=by rw [hw1,hb]; exact bX @aA
 have f1:∀ o,w1.frozen? ⟨b+1,o,none⟩=false:=fun o=>by rw [hw1,hb]; simp (disch:=first | exact dZ | fail) only [go_sem]
 have ob:cj d (b+1):=hinc.out (by omega)
 have t1:Gr d w1 d w1:=Gr.refl (hinc.trans k1.inc)
 refine ⟨⟨?_,?_⟩,?_⟩
 ·refine dY t1.j hl.1 fun d2 w2 sa sn sc g2 hS => ?_
  have t2:=t1.trans g2
  have c0:=t2.x.cell a0
  have c1:=t2.x.cell a1
  have c2:=t2.x.cell a2
  refine dQ @c0 @c1 @c2 ?_
  refine ⟨?_,?_⟩
  ·refine dY t2.j hl.2.1 fun d3 w3 ea en ec g3 hE => ?_
   have t3:=t2.trans g3
   have hS:=hS.inc g3.i
   have c0:=t3.x.cell a0
   have c1:=t3.x.cell a1
   have c2:=t3.x.cell a2
   refine dQ @c0 @c1 @c2 ?_
   refine gx (hv.inc KE.mono t3.i) hl.2.2.1 hl.2.2.2 t3.j fun d4 w4 v4 g4 hQ => ?_
   obtain ⟨va,vc,rfl⟩:=hQ.form
   have t4:=t3.trans g4
   have hS:=hS.inc g4.i
   have hE:=hE.inc g4.i
   have c0:=t4.x.cell a0
   have c1:=t4.x.cell a1
   have c2:=t4.x.cell a2
   have b0:=t4.x.cell b0
   have b1:=t4.x.cell b1
   have b2:=t4.x.cell b2
   have b3:=t4.x.cell b3
   have f4:∀ o,w4.frozen? ⟨b+1,o,none⟩=false:=fun o=>by rw [t4.x.frozen _ o (by omega)]; exact f1 o
   refine rS @c0 @c1 @c2 @b0 @b1 @b2 @b3 @f4 ?_
   have k4:=k1.trans t4.x
   have ho:cj d4 (b+1):=t4.o _ (by omega) ob
   refine hk d4 _ _ _ _ ⟨aj (aj (aj (aj k4 (by omega)) (by omega)) (by omega)) (by omega),t4.i,?_,fun c hc ho=>t4.o c (aL hc k1.size) ho⟩ rfl hS rfl hE hQ
   exact (((t4.j.set ho).set ho).set ho).set ho
  ·refine gx (hv.inc KE.mono t2.i) hl.2.2.1 hl.2.2.2 t2.j fun d3 w3 v4 g3 hQ => ?_
   obtain ⟨va,vc,rfl⟩:=hQ.form
   have t3:=t2.trans g3
   have hS:=hS.inc g3.i
   have c0:=t3.x.cell a0
   have c1:=t3.x.cell a1
   have c2:=t3.x.cell a2
   refine dQ @c0 @c1 @c2 ?_
   refine dY t3.j hl.2.1 fun d4 w4 ea en ec g4 hE => ?_
   have t4:=t3.trans g4
   have hS:=hS.inc g4.i
   have hQ:=hQ.inc KB.mono g4.i
   have c0:=t4.x.cell a0
   have c1:=t4.x.cell a1
   have c2:=t4.x.cell a2
   have b0:=t4.x.cell b0
   have b1:=t4.x.cell b1
   have b2:=t4.x.cell b2
   have b3:=t4.x.cell b3
   have f4:∀ o,w4.frozen? ⟨b+1,o,none⟩=false:=fun o=>by rw [t4.x.frozen _ o (by omega)]; exact f1 o
   refine rS @c0 @c1 @c2 @b0 @b1 @b2 @b3 @f4 ?_
   have k4:=k1.trans t4.x
   have ho:cj d4 (b+1):=t4.o _ (by omega) ob
   refine hk d4 _ _ _ _ ⟨aj (aj (aj (aj k4 (by omega)) (by omega)) (by omega)) (by omega),t4.i,?_,fun c hc ho=>t4.o c (aL hc k1.size) ho⟩ rfl hS rfl hE hQ
   exact (((t4.j.set ho).set ho).set ho).set ho
 ·refine dY t1.j hl.2.1 fun d2 w2 ea en ec g2 hE => ?_
  have t2:=t1.trans g2
  have c0:=t2.x.cell a0
  have c1:=t2.x.cell a1
  have c2:=t2.x.cell a2
  refine dQ @c0 @c1 @c2 ?_
  refine ⟨?_,?_⟩
  ·refine dY t2.j hl.1 fun d3 w3 sa sn sc g3 hS => ?_
   have t3:=t2.trans g3
   have hE:=hE.inc g3.i
   have c0:=t3.x.cell a0
   have c1:=t3.x.cell a1
   have c2:=t3.x.cell a2
   refine dQ @c0 @c1 @c2 ?_
   refine gx (hv.inc KE.mono t3.i) hl.2.2.1 hl.2.2.2 t3.j fun d4 w4 v4 g4 hQ => ?_
   obtain ⟨va,vc,rfl⟩:=hQ.form
   have t4:=t3.trans g4
   have hE:=hE.inc g4.i
   have hS:=hS.inc g4.i
   have c0:=t4.x.cell a0
   have c1:=t4.x.cell a1
   have c2:=t4.x.cell a2
   have b0:=t4.x.cell b0
   have b1:=t4.x.cell b1
   have b2:=t4.x.cell b2
   have b3:=t4.x.cell b3
   have f4:∀ o,w4.frozen? ⟨b+1,o,none⟩=false:=fun o=>by rw [t4.x.frozen _ o (by omega)]; exact f1 o
   refine rS @c0 @c1 @c2 @b0 @b1 @b2 @b3 @f4 ?_
   have k4:=k1.trans t4.x
   have ho:cj d4 (b+1):=t4.o _ (by omega) ob
   refine hk d4 _ _ _ _ ⟨aj (aj (aj (aj k4 (by omega)) (by omega)) (by omega)) (by omega),t4.i,?_,fun c hc ho=>t4.o c (aL hc k1.size) ho⟩ rfl hS rfl hE hQ
   exact (((t4.j.set ho).set ho).set ho).set ho
  ·refine gx (hv.inc KE.mono t2.i) hl.2.2.1 hl.2.2.2 t2.j fun d3 w3 v4 g3 hQ => ?_
   obtain ⟨va,vc,rfl⟩:=hQ.form
   have t3:=t2.trans g3
   have hE:=hE.inc g3.i
   have c0:=t3.x.cell a0
   have c1:=t3.x.cell a1
   have c2:=t3.x.cell a2
   refine dQ @c0 @c1 @c2 ?_
   refine dY t3.j hl.1 fun d4 w4 sa sn sc g4 hS => ?_
   have t4:=t3.trans g4
   have hE:=hE.inc g4.i
   have hQ:=hQ.inc KB.mono g4.i
   have c0:=t4.x.cell a0
   have c1:=t4.x.cell a1
   have c2:=t4.x.cell a2
   have b0:=t4.x.cell b0
   have b1:=t4.x.cell b1
   have b2:=t4.x.cell b2
   have b3:=t4.x.cell b3
   have f4:∀ o,w4.frozen? ⟨b+1,o,none⟩=false:=fun o=>by rw [t4.x.frozen _ o (by omega)]; exact f1 o
   refine rS @c0 @c1 @c2 @b0 @b1 @b2 @b3 @f4 ?_
   have k4:=k1.trans t4.x
   have ho:cj d4 (b+1):=t4.o _ (by omega) ob
   refine hk d4 _ _ _ _ ⟨aj (aj (aj (aj k4 (by omega)) (by omega)) (by omega)) (by omega),t4.i,?_,fun c hc ho=>t4.o c (aL hc k1.size) ho⟩ rfl hS rfl hE hQ
   exact (((t4.j.set ho).set ho).set ho).set ho
 ·refine gx (hv.inc KE.mono t1.i) hl.2.2.1 hl.2.2.2 t1.j fun d2 w2 v4 g2 hQ => ?_
  obtain ⟨va,vc,rfl⟩:=hQ.form
  have t2:=t1.trans g2
  have c0:=t2.x.cell a0
  have c1:=t2.x.cell a1
  have c2:=t2.x.cell a2
  refine dQ @c0 @c1 @c2 ?_
  refine ⟨?_,?_⟩
  ·refine dY t2.j hl.1 fun d3 w3 sa sn sc g3 hS => ?_
   have t3:=t2.trans g3
   have hQ:=hQ.inc KB.mono g3.i
   have c0:=t3.x.cell a0
   have c1:=t3.x.cell a1
   have c2:=t3.x.cell a2
   refine dQ @c0 @c1 @c2 ?_
   refine dY t3.j hl.2.1 fun d4 w4 ea en ec g4 hE => ?_
   have t4:=t3.trans g4
   have hQ:=hQ.inc KB.mono g4.i
   have hS:=hS.inc g4.i
   have c0:=t4.x.cell a0
   have c1:=t4.x.cell a1
   have c2:=t4.x.cell a2
   have b0:=t4.x.cell b0
   have b1:=t4.x.cell b1
   have b2:=t4.x.cell b2
   have b3:=t4.x.cell b3
   have f4:∀ o,w4.frozen? ⟨b+1,o,none⟩=false:=fun o=>by rw [t4.x.frozen _ o (by omega)]; exact f1 o
   refine rS @c0 @c1 @c2 @b0 @b1 @b2 @b3 @f4 ?_
   have k4:=k1.trans t4.x
   have ho:cj d4 (b+1):=t4.o _ (by omega) ob
   refine hk d4 _ _ _ _ ⟨aj (aj (aj (aj k4 (by omega)) (by omega)) (by omega)) (by omega),t4.i,?_,fun c hc ho=>t4.o c (aL hc k1.size) ho⟩ rfl hS rfl hE hQ
   exact (((t4.j.set ho).set ho).set ho).set ho
  ·refine dY t2.j hl.2.1 fun d3 w3 ea en ec g3 hE => ?_
   have t3:=t2.trans g3
   have hQ:=hQ.inc KB.mono g3.i
   have c0:=t3.x.cell a0
   have c1:=t3.x.cell a1
   have c2:=t3.x.cell a2
   refine dQ @c0 @c1 @c2 ?_
   refine dY t3.j hl.1 fun d4 w4 sa sn sc g4 hS => ?_
   have t4:=t3.trans g4
   have hQ:=hQ.inc KB.mono g4.i
   have hE:=hE.inc g4.i
   have c0:=t4.x.cell a0
   have c1:=t4.x.cell a1
   have c2:=t4.x.cell a2
   have b0:=t4.x.cell b0
   have b1:=t4.x.cell b1
   have b2:=t4.x.cell b2
   have b3:=t4.x.cell b3
   have f4:∀ o,w4.frozen? ⟨b+1,o,none⟩=false:=fun o=>by rw [t4.x.frozen _ o (by omega)]; exact f1 o
   refine rS @c0 @c1 @c2 @b0 @b1 @b2 @b3 @f4 ?_
   have k4:=k1.trans t4.x
   have ho:cj d4 (b+1):=t4.o _ (by omega) ob
   refine hk d4 _ _ _ _ ⟨aj (aj (aj (aj k4 (by omega)) (by omega)) (by omega)) (by omega),t4.i,?_,fun c hc ho=>t4.o c (aL hc k1.size) ho⟩ rfl hS rfl hE hQ
   exact (((t4.j.set ho).set ho).set ho).set ho
theorem Bt {v:Value} {l:List Sp} (hv:Sl dh 3 d v l) (hl:l.length < 1000000) (hlen:∀ x ∈ l,xh x) (hinc:cM d w) (hk:∀ d' w' v',Gr d w d' w'→Sl FC 4 d' v' l→k v' w'):ai prog 101 #[v] k w:=by
 obtain ⟨ka,kc,rfl⟩:=hv.form
 refine al [.tmp 2] func101 ?_
 refine bA ?_
 refine bZ (fun b:Nat × Value=>[(3,b.2),(6,.slice ka l.length kc),(7,.int .i64 l.length),(8,.int .i64 b.1)])
  (fun b w'=>b.1≤l.length∧∃ d1,LoopL FC 4 61 d w d1 w' b.2 (l.take b.1)) (fun b _=>l.length - b.1) (0,.slice none 0 0) (by kernel_rfl) ?_ ⟨aT _,d,LoopL.nil hinc⟩ ?_
 ·exact bU
 rintro K2 e ⟨i,v⟩ w1 ⟨i2,d1,i3⟩ hK2
 simp only at i2 i3
 rcases aH i l.length with hi | hi
 rotate_left
 ·have hi':¬ (i:Int) < l.length:=by omega
  refine bu @hi' ?_
  obtain rfl:i=l.length:=by omega
  rw [ag] at i3
  obtain ⟨d2,g2,_,_,s2⟩:=i3.done FC.mono
  exact hk d2 w1 v g2 s2
 have hi':(i:Int) < l.length:=by omega
 obtain ⟨g,f,c,hv',hc,hat⟩:=(hv.inc dh.mono i3.g.i).at (by omega)
 obtain ⟨rfl,rfl⟩:=sEq hv'
 obtain ⟨x,hx⟩:=gEl hi
 obtain ⟨cs,_,hcs,hR⟩:=hat i x hx
 have hmem:=aO hx
 obtain ⟨kv,rfl,hkv⟩:=hR
 obtain ⟨kva,kvc,rfl⟩:=hkv.form
 have h0:w1.cell? ⟨g,f+i * 3,none⟩=some (.string ⟨x.s.toArray⟩):=i3.g.j _ _ _ (hcs 0 _ rfl)
 have h1:w1.cell? ⟨g,f+i * 3+1,none⟩=some (.string ⟨x.e.toArray⟩):=i3.g.j _ _ _ (hcs 1 _ rfl)
 have h2:w1.cell? ⟨g,f+i * 3+2,none⟩=some (.slice kva x.ks.length kvc):=i3.g.j _ _ _ (hcs 2 _ rfl)
 refine eO @hi' @h0 @h1 @h2 ?_
 have x3:bp w1 (w1.alloc (.cells #[.string ⟨x.s.toArray⟩,.string ⟨x.e.toArray⟩,.slice kva x.ks.length kvc] 37)):=aJ _
 have i4:=i3.ext FC.mono x3
 refine sB hkv (hlen x hmem) i4.g.j fun d4 w4 sa ea v4 g4 s1 s2 s3 s4 s5 => ?_
 have i5:=i4.call FC.mono g4
 obtain ⟨sa',sc',rfl⟩:=aY s2
 obtain ⟨ea',ec',rfl⟩:=aY s4
 obtain ⟨va,vcap,rfl,_⟩:=i5.form
 obtain ⟨k4,c4,rfl⟩:=s5.form
 refine bA ?_
 obtain ⟨css,o5⟩:=i5.o
 refine iL x [.slice sa' x.s.length sc',.slice ea' x.e.length ec',.slice k4 x.ks.length c4,.int .i8 0] rw140 o5 ⟨_,_,_,rfl,s1,s2,s3,s4,s5⟩ rfl (.inl rfl) rfl rfl (by simp [Value.oneCell']) (by rw [dV i2]; omega) i5.g.j fun v2 w2 o2 k2 n2 j2 _ => ?_
 refine bA ?_
 refine hK2 _ _ (i+1,v2) ?_ ⟨hi,d4,?_⟩ (by simp only; omega)
 ·exact bU
 ·rw [bz hx]
  exact i5.more o2 k2 n2 j2
end
end Go.Proofs
end
section
namespace Go.E
open Go Go.Sort Go.Proofs Go.Proofs.Tryz
open Go.Lib (uvarint)
theorem Gu {k:aq} {w:World} {c:Nat} (hb:c≤140737488355328)
    (hk:∀ w2,w2.ownsRow 0 5 1 (.slice (some ⟨w.heap.size,0,none⟩) c c) c (eF (List.replicate c 0))→bp w w2→k (.slice (some ⟨w.heap.size,0,none⟩) c c) w2):JP prog 56 (.int .i64 c) (.int .i64 c) k w:=by
 obtain ⟨i,z,h1,h2,h3,h4,h5,h6,h7⟩:=iP rw56
 have hz:((prog.info? 5).bind (·.zero)).map (·.cells)=some #[.int .u8 0]:=by kernel_rfl
 rw [h2] at hz
 simp only [Option.bind_some,h3,Option.map_some,aP] at hz
 obtain ⟨w2,hr,o,g⟩:=run_make_full (P:=prog) (w:=w) 0 56 5 i z 1 h1 h2 h3 h4 .i64 .i64 c (by rw [h5]; omega) (by unfold maxLen; omega) (aT _)
 simp only [JP,dH,hr]
 refine hk w2 ?_ (jR g (by simp) (by simp))
 rw [hz,Nat.mul_one,toList_madeCells_one] at o
 rw [show eF (List.replicate c 0)=List.replicate c (.int .u8 0) by unfold eF; rw [List.map_replicate]; rfl]
 exact o
structure En3 where
 u:Bytes
 tr:Nat
 v:Bytes
def Gv:gR En3:=fun _ cs x=>cs=[str x.u,.int .u64 x.tr,str x.v]∧x.tr < 18446744073709551616
theorem Gv.mono:gH Gv:=fun _ _ _ _ _ h=>h
def Cl (col:Nat→Nat) (v:Value) (c:Nat):Prop:=∀ g,v.ownBlock=some g→col g=c
structure En (d w0 w:World) (be bl:Nat) (bv uv sv lv:Value) (us:List Bytes) (ss:List (Bytes × Bytes)) (es:List En3):Prop where
 x0:bp w0 w
 i:cM d w
 ob:cj d be
 ol:cj d bl
 onb:∀ g,bv.ownBlock=some g→cj d g
 hb:w0.heap.size≤be
 hl:w0.heap.size≤bl
 col:∃ col:Nat→Nat,col be=1∧col bl=2∧Cl col bv 3∧Cl col uv 4∧Cl col sv 5∧Cl col lv 6
 nb:∀ g,bv.ownBlock=some g→w0.heap.size≤g
 nu:∀ g,uv.ownBlock=some g→w0.heap.size≤g
 ns:∀ g,sv.ownBlock=some g→w0.heap.size≤g
 nl:∀ g,lv.ownBlock=some g→w0.heap.size≤g
 c0:w.cell? ⟨be,0,none⟩=some (.func (.func 25) #[] #[.pointer (some ⟨bl,0,none⟩)])
 c1:w.cell? ⟨be,1,none⟩=some bv
 c2:w.cell? ⟨be,2,none⟩=some uv
 c3:w.cell? ⟨be,3,none⟩=some sv
 f:∀ o,w.frozen? ⟨be,o,none⟩=false
 l0:w.cell? ⟨bl,0,none⟩=some lv
 fl:∀ o,w.frozen? ⟨bl,o,none⟩=false
 bo:bv = .slice none 0 0∨∃ g m L,bv = .slice (some ⟨g,0,none⟩) m m∧m≤4294967296∧w.ownsRow 0 5 1 bv m (eF L)
 uo:∃ css,OwnL Cn 1 56 d w uv us css
 so:∃ css,OwnL Cm 2 113 d w sv ss css
 lo:∃ css,OwnL Gv 3 40 d w lv es css
section
variable {d w0 w w2:World} {be bl:Nat} {bv uv sv lv v2:Value} {us us2:List Bytes} {ss ss2:List (Bytes × Bytes)} {es es2:List En3}
theorem En.inc (h:En d w0 w be bl bv uv sv lv us ss es):cM d w:=h.i
theorem En.ext (h:En d w0 w be bl bv uv sv lv us ss es) (x:bp w w2):En d w0 w2 be bl bv uv sv lv us ss es where
 x0:=h.x0.trans x
 i:=h.i.trans x.inc
 ob:=h.ob
 ol:=h.ol
 onb:=h.onb
 hb:=h.hb
 hl:=h.hl
 col:=h.col
 nb:=h.nb
 nu:=h.nu
 ns:=h.ns
 nl:=h.nl
 c0:=x.cell h.c0
 c1:=x.cell h.c1
 c2:=x.cell h.c2
 c3:=x.cell h.c3
 f o:=by rw [x.frozen _ o (aC h.c0)]; exact h.f o
 l0:=x.cell h.l0
 fl o:=by rw [x.frozen _ o (aC h.l0)]; exact h.fl o
 bo:=h.bo.imp id fun ⟨g,m,L,e,hm,o⟩=>⟨g,m,L,e,hm,aX o x (fun _ _ _ h=>h)⟩
 uo:=h.uo.imp fun _ o=>o.ext x
 so:=h.so.imp fun _ o=>o.ext x
 lo:=h.lo.imp fun _ o=>o.ext x
theorem OwnL.setc {α:Type} {R:gR α} {sz:Nat} {el:TypeId} {d w:World} {v u:Value} {l:List α} {css:List (List Value)} {b o:Nat} (h:OwnL R sz el d w v l css) (hn:v.ownBlock≠some b):OwnL R sz el d (w.setCell ⟨b,o,none⟩ u) v l css :=
 h.keep (M:=fun x _=>x=b) (bY rfl) fun g hg o he=>hn (by rw [hg,he])
theorem setC {w:World} {b o:Nat} {v u:Value} (h:w.cell? ⟨b,o,none⟩=some v):(w.setCell ⟨b,o,none⟩ u).cell? ⟨b,o,none⟩=some u:=by rw [cJ,h]; rfl
theorem othC {w:World} {b o b2 o2:Nat} {v u:Value} (h:w.cell? ⟨b,o,none⟩=some v) (hn:b≠b2∨o≠o2):(w.setCell ⟨b2,o2,none⟩ u).cell? ⟨b,o,none⟩=some v:=by
 rw [World.cell?_setCell_other w _ _ u (fun he=>by simp only [Addr.mk.injEq] at he; omega)]; exact h
theorem En.usets (h:En d w0 w be bl bv uv sv lv us ss es) (o:∃ css,OwnL Cm 2 113 d w2 v2 ss2 css) (k:Keep (fun b _=>sv.ownBlock=some b) w w2) (n:cZ w sv v2):En d w0 (w2.setCell ⟨be,3,none⟩ v2) be bl bv uv v2 lv us ss2 es:=by
 obtain ⟨col,hbe,hbl,h3,h4,h5,h6⟩:=h.col
 have clB:∀ g,bv.ownBlock=some g→g < w.heap.size:=fun g hg=>by
  rcases h.bo with e | ⟨g',m,L,e,_,o⟩
  ·rw [e] at hg; simp [Value.ownBlock] at hg
  ·exact (o.lt _ hg).2
 have clU:∀ g,uv.ownBlock=some g→g < w.heap.size:=fun g hg=>by obtain ⟨_,o⟩:=h.uo; exact (o.own.lt _ hg).2
 have clS:∀ g,sv.ownBlock=some g→g < w.heap.size:=fun g hg=>by obtain ⟨_,o⟩:=h.so; exact (o.own.lt _ hg).2
 have clL:∀ g,lv.ownBlock=some g→g < w.heap.size:=fun g hg=>by obtain ⟨_,o⟩:=h.lo; exact (o.own.lt _ hg).2
 have ne:be≠bl:=fun e=>by rw [e] at hbe; omega
 have lbe:=aC h.c0
 have lbl:=aC h.l0
 have hh:=h.ns
 have nbe:¬ sv.ownBlock=some be:=fun e=>by have:=h5 be e; omega
 have nbl:¬ sv.ownBlock=some bl:=fun e=>by have:=h5 bl e; omega
 have c0:=k.some h.c0 nbe
 have c1:=k.some h.c1 nbe
 have c2:=k.some h.c2 nbe
 have c3:=k.some h.c3 nbe
 have l0:=k.some h.l0 nbl
 have sz:=k.size
 have out:∀ g,sv.ownBlock=some g→cj d g:=fun g hg=>by obtain ⟨_,o⟩:=h.so; exact o.out g hg
 have n2:∀ g,v2.ownBlock=some g→w0.heap.size≤g:=fun g hg=>(n g hg).elim (fun e=>hh g e) fun e=>ah h.x0.size e
 have cl2:Cl (fun b=>if b < w.heap.size then col b else 5) v2 5:=fun g hg=>by
  simp only
  rcases n g hg with e | e
  ·have:=h5 g e
   split
   ·exact this
   ·rfl
  ·rw [if_neg (by omega)]
 have cc:∀ (v:Value) (c:Nat),Cl col v c→(∀ g,v.ownBlock=some g→g < w.heap.size)→Cl (fun b=>if b < w.heap.size then col b else 5) v c:=fun v c hc hlt g hg=>by
  simp only
  rw [if_pos (hlt g hg)]
  exact hc g hg
 have nn:∀ (v:Value) (c:Nat),Cl (fun b=>if b < w.heap.size then col b else 5) v c→(if be < w.heap.size then col be else 5)≠c→v.ownBlock≠some be:=fun v c hc hne e=>hne (hc _ e)
 have k4:(if be < w.heap.size then col be else 5)=col be:=if_pos (by omega)
 exact {
  x0:=aj (h.x0.tr k fun b o hb hm=>by have:=hh b hm; omega) (by have:=h.hb; have:=h.hl; omega)
  i:=(h.i.keep k fun b o hm=>out b hm o).set h.ob
  ob:=h.ob
  ol:=h.ol
  onb:=h.onb
  hb:=h.hb
  hl:=h.hl
  col:=⟨fun b=>if b < w.heap.size then col b else 5,by simp only; rw [if_pos lbe]; exact hbe,by simp only; rw [if_pos lbl]; exact hbl,cc _ _ h3 clB,cc _ _ h4 clU,cl2,cc _ _ h6 clL⟩
  nb:=h.nb
  nu:=h.nu
  ns:=n2
  nl:=h.nl
  c0:=othC c0 (by omega)
  c1:=othC c1 (by omega)
  c2:=othC c2 (by omega)
  c3:=setC c3
  f:=fun o=>by rw [World.frozen?_setCell,k.frozen _ o lbe]; exact h.f o
  l0:=othC l0 (by omega)
  fl:=fun o=>by rw [World.frozen?_setCell,k.frozen _ o lbl]; exact h.fl o
  bo:=h.bo.imp id fun ⟨g,m,L,e,hm,o⟩=>⟨g,m,L,e,hm,aX (aX o k fun g hg o e2=>by have:=h3 g hg; have:=h5 g e2; omega) (bY (M:=fun x _=>x=be) rfl) fun g hg o e2=>by have:=h3 g hg; rw [e2] at this; omega⟩
  uo:=h.uo.imp fun _ o=>(o.keep k fun g hg o e2=>by have:=h4 g hg; have:=h5 g e2; omega).setc fun e2=>by have:=h4 _ e2; omega
  so:=o.imp fun _ o=>o.setc (nn _ _ cl2 (by omega))
  lo:=h.lo.imp fun _ o=>(o.keep k fun g hg o e2=>by have:=h6 g hg; have:=h5 g e2; omega).setc fun e2=>by have:=h6 _ e2; omega }
theorem En.uuns (h:En d w0 w be bl bv uv sv lv us ss es) (o:∃ css,OwnL Cn 1 56 d w2 v2 us2 css) (k:Keep (fun b _=>uv.ownBlock=some b) w w2) (n:cZ w uv v2):En d w0 (w2.setCell ⟨be,2,none⟩ v2) be bl bv v2 sv lv us2 ss es:=by
 obtain ⟨col,hbe,hbl,h3,h4,h5,h6⟩:=h.col
 have clB:∀ g,bv.ownBlock=some g→g < w.heap.size:=fun g hg=>by
  rcases h.bo with e | ⟨g',m,L,e,_,o⟩
  ·rw [e] at hg; simp [Value.ownBlock] at hg
  ·exact (o.lt _ hg).2
 have clU:∀ g,uv.ownBlock=some g→g < w.heap.size:=fun g hg=>by obtain ⟨_,o⟩:=h.uo; exact (o.own.lt _ hg).2
 have clS:∀ g,sv.ownBlock=some g→g < w.heap.size:=fun g hg=>by obtain ⟨_,o⟩:=h.so; exact (o.own.lt _ hg).2
 have clL:∀ g,lv.ownBlock=some g→g < w.heap.size:=fun g hg=>by obtain ⟨_,o⟩:=h.lo; exact (o.own.lt _ hg).2
 have ne:be≠bl:=fun e=>by rw [e] at hbe; omega
 have lbe:=aC h.c0
 have lbl:=aC h.l0
 have hh:=h.nu
 have nbe:¬ uv.ownBlock=some be:=fun e=>by have:=h4 be e; omega
 have nbl:¬ uv.ownBlock=some bl:=fun e=>by have:=h4 bl e; omega
 have c0:=k.some h.c0 nbe
 have c1:=k.some h.c1 nbe
 have c2:=k.some h.c2 nbe
 have c3:=k.some h.c3 nbe
 have l0:=k.some h.l0 nbl
 have sz:=k.size
 have out:∀ g,uv.ownBlock=some g→cj d g:=fun g hg=>by obtain ⟨_,o⟩:=h.uo; exact o.out g hg
 have n2:∀ g,v2.ownBlock=some g→w0.heap.size≤g:=fun g hg=>(n g hg).elim (fun e=>hh g e) fun e=>ah h.x0.size e
 have cl2:Cl (fun b=>if b < w.heap.size then col b else 4) v2 4:=fun g hg=>by
  simp only
  rcases n g hg with e | e
  ·have:=h4 g e
   split
   ·exact this
   ·rfl
  ·rw [if_neg (by omega)]
 have cc:∀ (v:Value) (c:Nat),Cl col v c→(∀ g,v.ownBlock=some g→g < w.heap.size)→Cl (fun b=>if b < w.heap.size then col b else 4) v c:=fun v c hc hlt g hg=>by
  simp only
  rw [if_pos (hlt g hg)]
  exact hc g hg
 have nn:∀ (v:Value) (c:Nat),Cl (fun b=>if b < w.heap.size then col b else 4) v c→(if be < w.heap.size then col be else 4)≠c→v.ownBlock≠some be:=fun v c hc hne e=>hne (hc _ e)
 have k4:(if be < w.heap.size then col be else 4)=col be:=if_pos (by omega)
 exact {
  x0:=aj (h.x0.tr k fun b o hb hm=>by have:=hh b hm; omega) (by have:=h.hb; have:=h.hl; omega)
  i:=(h.i.keep k fun b o hm=>out b hm o).set h.ob
  ob:=h.ob
  ol:=h.ol
  onb:=h.onb
  hb:=h.hb
  hl:=h.hl
  col:=⟨fun b=>if b < w.heap.size then col b else 4,by simp only; rw [if_pos lbe]; exact hbe,by simp only; rw [if_pos lbl]; exact hbl,cc _ _ h3 clB,cl2,cc _ _ h5 clS,cc _ _ h6 clL⟩
  nb:=h.nb
  nu:=n2
  ns:=h.ns
  nl:=h.nl
  c0:=othC c0 (by omega)
  c1:=othC c1 (by omega)
  c2:=setC c2
  c3:=othC c3 (by omega)
  f:=fun o=>by rw [World.frozen?_setCell,k.frozen _ o lbe]; exact h.f o
  l0:=othC l0 (by omega)
  fl:=fun o=>by rw [World.frozen?_setCell,k.frozen _ o lbl]; exact h.fl o
  bo:=h.bo.imp id fun ⟨g,m,L,e,hm,o⟩=>⟨g,m,L,e,hm,aX (aX o k fun g hg o e2=>by have:=h3 g hg; have:=h4 g e2; omega) (bY (M:=fun x _=>x=be) rfl) fun g hg o e2=>by have:=h3 g hg; rw [e2] at this; omega⟩
  uo:=o.imp fun _ o=>o.setc (nn _ _ cl2 (by omega))
  so:=h.so.imp fun _ o=>(o.keep k fun g hg o e2=>by have:=h5 g hg; have:=h4 g e2; omega).setc fun e2=>by have:=h5 _ e2; omega
  lo:=h.lo.imp fun _ o=>(o.keep k fun g hg o e2=>by have:=h6 g hg; have:=h4 g e2; omega).setc fun e2=>by have:=h6 _ e2; omega }
theorem En.uent (h:En d w0 w be bl bv uv sv lv us ss es) (o:∃ css,OwnL Gv 3 40 d w2 v2 es2 css) (k:Keep (fun b _=>lv.ownBlock=some b) w w2) (n:cZ w lv v2):En d w0 (w2.setCell ⟨bl,0,none⟩ v2) be bl bv uv sv v2 us ss es2:=by
 obtain ⟨col,hbe,hbl,h3,h4,h5,h6⟩:=h.col
 have clB:∀ g,bv.ownBlock=some g→g < w.heap.size:=fun g hg=>by
  rcases h.bo with e | ⟨g',m,L,e,_,o⟩
  ·rw [e] at hg; simp [Value.ownBlock] at hg
  ·exact (o.lt _ hg).2
 have clU:∀ g,uv.ownBlock=some g→g < w.heap.size:=fun g hg=>by obtain ⟨_,o⟩:=h.uo; exact (o.own.lt _ hg).2
 have clS:∀ g,sv.ownBlock=some g→g < w.heap.size:=fun g hg=>by obtain ⟨_,o⟩:=h.so; exact (o.own.lt _ hg).2
 have clL:∀ g,lv.ownBlock=some g→g < w.heap.size:=fun g hg=>by obtain ⟨_,o⟩:=h.lo; exact (o.own.lt _ hg).2
 have ne:be≠bl:=fun e=>by rw [e] at hbe; omega
 have lbe:=aC h.c0
 have lbl:=aC h.l0
 have hh:=h.nl
 have nbe:¬ lv.ownBlock=some be:=fun e=>by have:=h6 be e; omega
 have nbl:¬ lv.ownBlock=some bl:=fun e=>by have:=h6 bl e; omega
 have c0:=k.some h.c0 nbe
 have c1:=k.some h.c1 nbe
 have c2:=k.some h.c2 nbe
 have c3:=k.some h.c3 nbe
 have l0:=k.some h.l0 nbl
 have sz:=k.size
 have out:∀ g,lv.ownBlock=some g→cj d g:=fun g hg=>by obtain ⟨_,o⟩:=h.lo; exact o.out g hg
 have n2:∀ g,v2.ownBlock=some g→w0.heap.size≤g:=fun g hg=>(n g hg).elim (fun e=>hh g e) fun e=>ah h.x0.size e
 have cl2:Cl (fun b=>if b < w.heap.size then col b else 6) v2 6:=fun g hg=>by
  simp only
  rcases n g hg with e | e
  ·have:=h6 g e
   split
   ·exact this
   ·rfl
  ·rw [if_neg (by omega)]
 have cc:∀ (v:Value) (c:Nat),Cl col v c→(∀ g,v.ownBlock=some g→g < w.heap.size)→Cl (fun b=>if b < w.heap.size then col b else 6) v c:=fun v c hc hlt g hg=>by
  simp only
  rw [if_pos (hlt g hg)]
  exact hc g hg
 have nn:∀ (v:Value) (c:Nat),Cl (fun b=>if b < w.heap.size then col b else 6) v c→(if bl < w.heap.size then col bl else 6)≠c→v.ownBlock≠some bl:=fun v c hc hne e=>hne (hc _ e)
 have k4:(if bl < w.heap.size then col bl else 6)=col bl:=if_pos (by omega)
 exact {
  x0:=aj (h.x0.tr k fun b o hb hm=>by have:=hh b hm; omega) (by have:=h.hb; have:=h.hl; omega)
  i:=(h.i.keep k fun b o hm=>out b hm o).set h.ol
  ob:=h.ob
  ol:=h.ol
  onb:=h.onb
  hb:=h.hb
  hl:=h.hl
  col:=⟨fun b=>if b < w.heap.size then col b else 6,by simp only; rw [if_pos lbe]; exact hbe,by simp only; rw [if_pos lbl]; exact hbl,cc _ _ h3 clB,cc _ _ h4 clU,cc _ _ h5 clS,cl2⟩
  nb:=h.nb
  nu:=h.nu
  ns:=h.ns
  nl:=n2
  c0:=othC c0 (by omega)
  c1:=othC c1 (by omega)
  c2:=othC c2 (by omega)
  c3:=othC c3 (by omega)
  f:=fun o=>by rw [World.frozen?_setCell,k.frozen _ o lbe]; exact h.f o
  l0:=setC l0
  fl:=fun o=>by rw [World.frozen?_setCell,k.frozen _ o lbl]; exact h.fl o
  bo:=h.bo.imp id fun ⟨g,m,L,e,hm,o⟩=>⟨g,m,L,e,hm,aX (aX o k fun g hg o e2=>by have:=h3 g hg; have:=h6 g e2; omega) (bY (M:=fun x _=>x=bl) rfl) fun g hg o e2=>by have:=h3 g hg; rw [e2] at this; omega⟩
  uo:=h.uo.imp fun _ o=>(o.keep k fun g hg o e2=>by have:=h4 g hg; have:=h6 g e2; omega).setc fun e2=>by have:=h4 _ e2; omega
  so:=h.so.imp fun _ o=>(o.keep k fun g hg o e2=>by have:=h5 g hg; have:=h6 g e2; omega).setc fun e2=>by have:=h5 _ e2; omega
  lo:=o.imp fun _ o=>o.setc (nn _ _ cl2 (by omega)) }
theorem En.ubuf (h:En d w0 w be bl bv uv sv lv us ss es) (o:∃ g m L,v2 = .slice (some ⟨g,0,none⟩) m m∧m≤4294967296∧w2.ownsRow 0 5 1 v2 m (eF L)) (k:Keep (fun b _=>bv.ownBlock=some b) w w2) (n:cZ w bv v2):En d w0 (w2.setCell ⟨be,1,none⟩ v2) be bl v2 uv sv lv us ss es:=by
 obtain ⟨col,hbe,hbl,h3,h4,h5,h6⟩:=h.col
 have clB:∀ g,bv.ownBlock=some g→g < w.heap.size:=fun g hg=>by
  rcases h.bo with e | ⟨g',m,L,e,_,o⟩
  ·rw [e] at hg; simp [Value.ownBlock] at hg
  ·exact (o.lt _ hg).2
 have clU:∀ g,uv.ownBlock=some g→g < w.heap.size:=fun g hg=>by obtain ⟨_,o⟩:=h.uo; exact (o.own.lt _ hg).2
 have clS:∀ g,sv.ownBlock=some g→g < w.heap.size:=fun g hg=>by obtain ⟨_,o⟩:=h.so; exact (o.own.lt _ hg).2
 have clL:∀ g,lv.ownBlock=some g→g < w.heap.size:=fun g hg=>by obtain ⟨_,o⟩:=h.lo; exact (o.own.lt _ hg).2
 have ne:be≠bl:=fun e=>by rw [e] at hbe; omega
 have lbe:=aC h.c0
 have lbl:=aC h.l0
 have hh:=h.nb
 have nbe:¬ bv.ownBlock=some be:=fun e=>by have:=h3 be e; omega
 have nbl:¬ bv.ownBlock=some bl:=fun e=>by have:=h3 bl e; omega
 have c0:=k.some h.c0 nbe
 have c1:=k.some h.c1 nbe
 have c2:=k.some h.c2 nbe
 have c3:=k.some h.c3 nbe
 have l0:=k.some h.l0 nbl
 have sz:=k.size
 have out:∀ g,bv.ownBlock=some g→cj d g:=h.onb
 have n2:∀ g,v2.ownBlock=some g→w0.heap.size≤g:=fun g hg=>(n g hg).elim (fun e=>hh g e) fun e=>ah h.x0.size e
 have cl2:Cl (fun b=>if b < w.heap.size then col b else 3) v2 3:=fun g hg=>by
  simp only
  rcases n g hg with e | e
  ·have:=h3 g e
   split
   ·exact this
   ·rfl
  ·rw [if_neg (by omega)]
 have cc:∀ (v:Value) (c:Nat),Cl col v c→(∀ g,v.ownBlock=some g→g < w.heap.size)→Cl (fun b=>if b < w.heap.size then col b else 3) v c:=fun v c hc hlt g hg=>by
  simp only
  rw [if_pos (hlt g hg)]
  exact hc g hg
 have nn:∀ (v:Value) (c:Nat),Cl (fun b=>if b < w.heap.size then col b else 3) v c→(if be < w.heap.size then col be else 3)≠c→v.ownBlock≠some be:=fun v c hc hne e=>hne (hc _ e)
 have k4:(if be < w.heap.size then col be else 3)=col be:=if_pos (by omega)
 exact {
  x0:=aj (h.x0.tr k fun b o hb hm=>by have:=hh b hm; omega) (by have:=h.hb; have:=h.hl; omega)
  i:=(h.i.keep k fun b o hm=>out b hm o).set h.ob
  ob:=h.ob
  ol:=h.ol
  onb:=fun g hg=>(n g hg).elim (fun e=>h.onb g e) fun e=>h.i.out e
  hb:=h.hb
  hl:=h.hl
  col:=⟨fun b=>if b < w.heap.size then col b else 3,by simp only; rw [if_pos lbe]; exact hbe,by simp only; rw [if_pos lbl]; exact hbl,cl2,cc _ _ h4 clU,cc _ _ h5 clS,cc _ _ h6 clL⟩
  nb:=n2
  nu:=h.nu
  ns:=h.ns
  nl:=h.nl
  c0:=othC c0 (by omega)
  c1:=setC c1
  c2:=othC c2 (by omega)
  c3:=othC c3 (by omega)
  f:=fun o=>by rw [World.frozen?_setCell,k.frozen _ o lbe]; exact h.f o
  l0:=othC l0 (by omega)
  fl:=fun o=>by rw [World.frozen?_setCell,k.frozen _ o lbl]; exact h.fl o
  bo:=(.inr (let ⟨g,m,L,e,hm,o⟩:=o; ⟨g,m,L,e,hm,aX o (bY (M:=fun x _=>x=be) rfl) fun g hg o e2=>nn _ _ cl2 (by omega) (by rw [hg,e2])⟩))
  uo:=h.uo.imp fun _ o=>(o.keep k fun g hg o e2=>by have:=h4 g hg; have:=h3 g e2; omega).setc fun e2=>by have:=h4 _ e2; omega
  so:=h.so.imp fun _ o=>(o.keep k fun g hg o e2=>by have:=h5 g hg; have:=h3 g e2; omega).setc fun e2=>by have:=h5 _ e2; omega
  lo:=h.lo.imp fun _ o=>(o.keep k fun g hg o e2=>by have:=h6 g hg; have:=h3 g e2; omega).setc fun e2=>by have:=h6 _ e2; omega }
theorem En.bufk {g m:Nat} {L:Bytes} (h:En d w0 w be bl (.slice (some ⟨g,0,none⟩) m m) uv sv lv us ss es) (hm:m≤4294967296) (o:w2.ownsRow 0 5 1 (.slice (some ⟨g,0,none⟩) m m) m (eF L)) (k:Keep (fun b _=>b=g) w w2):En d w0 w2 be bl (.slice (some ⟨g,0,none⟩) m m) uv sv lv us ss es:=by
 obtain ⟨col,hbe,hbl,h3,h4,h5,h6⟩:=h.col
 have hg:=h3 g rfl
 have nbe:be≠g:=fun e=>by rw [e] at hbe; omega
 have nbl:bl≠g:=fun e=>by rw [e] at hbl; omega
 have lbe:=aC h.c0
 have lbl:=aC h.l0
 have hn:=h.nb g rfl
 exact {
  x0:=h.x0.tr k fun b o hb hm=>by omega
  i:=h.i.keep k fun b o hm=>by rw [hm]; exact h.onb g rfl o
  ob:=h.ob
  ol:=h.ol
  onb:=h.onb
  hb:=h.hb
  hl:=h.hl
  col:=h.col
  nb:=h.nb
  nu:=h.nu
  ns:=h.ns
  nl:=h.nl
  c0:=k.some h.c0 nbe
  c1:=k.some h.c1 nbe
  c2:=k.some h.c2 nbe
  c3:=k.some h.c3 nbe
  f:=fun o=>by rw [k.frozen _ o lbe]; exact h.f o
  l0:=k.some h.l0 nbl
  fl:=fun o=>by rw [k.frozen _ o lbl]; exact h.fl o
  bo := .inr ⟨g,m,L,rfl,hm,o⟩
  uo:=h.uo.imp fun _ o=>o.keep k fun x hx o e2=>by have:=h4 x hx; rw [e2] at this; omega
  so:=h.so.imp fun _ o=>o.keep k fun x hx o e2=>by have:=h5 x hx; rw [e2] at this; omega
  lo:=h.lo.imp fun _ o=>o.keep k fun x hx o e2=>by have:=h6 x hx; rw [e2] at this; omega }
end
end Go.E
end
