/- Parts of the proof: Xh, Xi, Ua, Xj, Xk, Xl, Yh, Vi. -/
import Derived.Laws.StructEq
import Derived.Test.YtjcbeinpkafjiaaGreatQ19
import Derived.Test.YtjcbeinpkafjiaaGreatQ21
import Derived.Test.YtjcbeinpkafjiaaGreatQ22
set_option linter.all false
set_option maxRecDepth 10000
section
namespace Go.E
open Go Go.Sort Go.Proofs Go.Proofs.Tryz
theorem yI {d w:World} {v:Value} {l:List K} (h:Sl KE 3 d v l) (hi:cH d w):rB w v l.length (l.flatMap td):=by
 obtain ⟨css,c1,c2,c3,c4⟩:=h.lie (by decide)
 have e:css=l.map td:=by
  refine List.ext_getElem? fun i => ?_
  rw [bX]
  rcases aH i l.length with hi | hi
  ·have a:=aC hi
   have b:=aC (show i < css.length by omega)
   rw [a,b,(c3 i _ _ a b).1]
   rfl
  ·rw [List.getElem?_eq_none hi,List.getElem?_eq_none (by omega)]
   rfl
 have:=c4 w hi
 rw [e] at this
 rwa [List.flatMap_def]
theorem OwnC.slg {α:Type} {ce:α→List Value} {sz:Nat} {el:TypeId} {w d:World} {v:Value} {l:List α} {R:gY α} (h:OwnC ce sz el w v l) (hR:∀ x ∈ l,R d (ce x) x) (hd:∀ g,v.ownBlock=some g→∀ o u,w.cell? ⟨g,o,none⟩=some u→d.cell? ⟨g,o,none⟩=some u):Sl R sz d v l:=by
 rcases cy h.own with ⟨rfl,h0,_⟩ | ⟨g,cap,rfl,hc,_⟩
 ·exact ⟨rfl,ah.1 h0⟩
 ·refine ⟨fun _=>rfl,rfl,hc,fun i x hx=>⟨ce x,h.sz x,fun j u hu => ?_,hR x (aL hx)⟩⟩
  have:=h.cell hx hu
  rw [show 0+i * sz+j=i * sz+j by omega]
  exact hd g rfl _ _ this
theorem vi {l:List Sp} {s e:Bytes} {j:Nat} {x:Sp} (h:l[j]? = some x):cP (l.take (j+1)) s e=cP (l.take j) s e++if ¬ s < x.s∧¬ x.e < e then x.ks else []:=by
 rw [cj h]
 unfold cP
 rw [cA]
 simp
theorem mO {l:List Sp} {s e:Bytes} {m:Nat} (h:∀ x ∈ l,x.ks.length≤m):(cP l s e).length≤l.length * m:=by
 unfold cP
 induction l with
 | nil=>simp
 | cons x l ih =>
  have h1:=h x aR
  have h2:=ih fun y hy=>h y (aZ _ hy)
  rw [bW,aO,aX,Nat.add_mul]
  have:(if ¬ s < x.s∧¬ x.e < e then x.ks else []).length≤m:=by
   split
   ·exact h1
   ·exact aM _
  omega
theorem xL {l:List Sp} {s e:Bytes} {x:K} (h:x ∈ cP l s e):∃ y ∈ l,x ∈ y.ks:=by
 unfold cP at h
 obtain ⟨y,hy,hx⟩:=dF.1 h
 split at hx
 ·exact ⟨y,hy,hx⟩
 ·simp at hx
def DZ (l:List K):Prop:=∀ x ∈ l,x.tr < 18446744073709551616
theorem Bc {d:World} {v:Value} {l:List K} (h:Sl KE 3 d v l):DZ l:=fun x hx=>by
 obtain ⟨i,hi,rfl⟩:=aj hx
 obtain ⟨_,_,_,_,_,hat⟩:=h.at (by omega)
 obtain ⟨_,_,_,h⟩:=hat i _ (aC hi)
 exact h.2
theorem tS {d:World} {v:Value} {l:List Sp} (h:Sl jB 3 d v l):∀ y ∈ l,DZ y.ks:=fun y hy=>by
 obtain ⟨i,hi,rfl⟩:=aj hy
 obtain ⟨_,_,_,_,_,hat⟩:=h.at (by omega)
 obtain ⟨_,_,_,v,_,h⟩:=hat i _ (aC hi)
 exact Bc h
theorem OwnC.ke {w:World} {v:Value} {l:List K} (h:OwnC td 3 88 w v l) (ht:DZ l):Sl KE 3 w v l:=h.sl fun x hx=>⟨rfl,ht x hx⟩
end Go.E
namespace Go.Proofs
open Go Go.E Go.Sort Go.Proofs.Tryz
section
variable {k:ae} {d w:World}
set_option maxHeartbeats 1000000 in
theorem zj {v:Value} {l:List Sp} (hv:Sl jB 3 d v l) (hl:l.length≤1000) (hks:∀ x ∈ l,x.ks.length≤40) (hinc:cH d w) (hk:∀ d2 w2 v2,Gr d w d2 w2→Sl jB 3 d2 v2 (dP l)→k v2 w2):aU prog 58 #[v] k w:=by
 have htr:=tS hv
 obtain ⟨ka,kc,rfl⟩:=hv.form
 refine aW [.tmp 2] func58 ?_
 refine aY ?_
 refine xK (hv.inc jB.mono hinc) (by omega) fun vb w0 x0 ob nb => ?_
 obtain ⟨ba,bc,rfl,_⟩:=ob.form
 obtain ⟨b,hb⟩:∃ b,b=bN l:=⟨_,rfl⟩
 have hbl:=ib l
 rw [← hb] at ob hbl ⊢
 refine aY ?_
 refine bI (fun c:Nat × Value=>[(0,.slice ka l.length kc),(3,c.2),(4,.slice ba b.length bc),(5,.int .i64 ((c.1+1:Nat):Int))])
  (fun c w'=>∃ d1,LoopL jB 3 46 d w d1 w' c.2 ((List.range c.1).flatMap (fL l b))∧bV w0 w'∧(c.1=0∨c.1 < b.length)∧∀ g,c.2.ownBlock=some g→w0.heap.size≤g) (fun c _=>b.length - c.1) (0,.slice none 0 0) (by kernel_rfl) ?_ ⟨d,(LoopL.nil hinc).ext jB.mono x0,bV.refl _,.inl rfl,by simp [Value.ownBlock]⟩ ?_
 ·exact bA
 rintro K2 e ⟨i,vo⟩ w1 ⟨d1,i1,i2,i3,i4⟩ hK2
 simp only at i1 i3 i4
 rcases aH (i+1) b.length with hi | hi
 rotate_left
 ·have hi':¬ ((i+1:Nat):Int) < b.length:=by omega
  refine bP @hi' ?_
  have hr:dP l=(List.range i).flatMap (fL l b):=by
   unfold dP
   rw [← hb,show b.length - 1=i by omega]
  obtain ⟨d2,g2,_,_,s2⟩:=i1.done jB.mono
  exact hk d2 w1 vo g2 (by rw [hr]; exact s2)
 have hi':((i+1:Nat):Int) < b.length:=by omega
 obtain ⟨bg,bc',hbv,hbg⟩:=ob.block (show i < b.length by omega)
 have hbg:=aG hbg i2.size
 obtain ⟨rfl,rfl⟩:ba=some ⟨bg,0,none⟩∧bc=bc':=by simpa using hbv
 have ob1:=ob.ext i2
 have e1:((i+1:Nat):Int) - 1=(i:Nat):=by omega
 have bx:b[i]? = some b[i]! := by rw [aI b i (by omega)]; exact aC _
 have by_:b[i+1]? = some b[i+1]! := by rw [aI b (i+1) hi]; exact aC _
 have p0:=ob1.cell bx (j:=0) rfl
 have p1:=ob1.cell by_ (j:=0) rfl
 simp only [dV,Nat.add_zero] at p0 p1
 obtain ⟨s,hs⟩:∃ s,s=b[i]! := ⟨_,rfl⟩
 obtain ⟨t,ht⟩:∃ t,t=b[i+1]! := ⟨_,rfl⟩
 rw [← hs] at p0
 rw [← ht] at p1
 refine bP @hi' ?_
 refine ao (sq [0,1,2,3] (.read 4 (sq [5,6,7] (.read 8 (sq [9] (.eff 10 [4,8] (.eff 11 [] .done))))))) ?_
 refine dg @e1 @p0 @p1 ?_
 obtain ⟨S,hS⟩:∃ S,S=w1.heap.size:=⟨_,rfl⟩
 obtain ⟨w2,hw2⟩:∃ w2,w2=(w1.alloc (.cells #[.string ⟨s.toArray⟩,.string ⟨t.toArray⟩,.slice none 0 0] 46)).drew:=⟨_,rfl⟩
 have x2:bV w1 w2:=by rw [hw2]; exact bV.drew' (aK _)
 have z2:w2.heap.size=S+1:=by rw [hw2,World.size_drew,World.size_alloc,hS]
 have c0:w2.cell? ⟨S,0,none⟩=some (.string ⟨s.toArray⟩):=by rw [hw2,hS]; exact bU @aA
 have c1:w2.cell? ⟨S,1,none⟩=some (.string ⟨t.toArray⟩):=by rw [hw2,hS]; exact bU @aA
 have c2:w2.cell? ⟨S,2,none⟩=some (.slice none 0 0):=by rw [hw2,hS]; exact bU @aA
 have f2:∀ y,w2.frozen? ⟨S,y,none⟩=false:=fun y=>by rw [hw2,hS]; simp (disch:=first | exact dZ | fail) only [go_sem]
 rw [← hw2,← hS]
 refine gX (fun _:Unit=>[(0,.slice ka l.length kc),(3,vo),(4,.slice (some ⟨bg,0,none⟩) b.length bc),(5,.int .i64 ((i+1:Nat):Int)),(6,.pointer (some ⟨S,0,none⟩))])
  (fun _ w'=>bV w1 w'∧w'.cell? ⟨S,0,none⟩=some (.string ⟨s.toArray⟩)∧w'.cell? ⟨S,1,none⟩=some (.string ⟨t.toArray⟩)∧(∀ y,w'.frozen? ⟨S,y,none⟩=false)∧∃ v,w'.cell? ⟨S,2,none⟩=some v∧OwnC td 3 88 w' v (cP l s t)∧∀ g,v.ownBlock=some g→S < g) (by kernel_rfl) (fun K hK => ?_) ?_
 ·refine bI (fun j:Nat=>[(0,.slice ka l.length kc),(3,vo),(4,.slice (some ⟨bg,0,none⟩) b.length bc),(5,.int .i64 ((i+1:Nat):Int)),(6,.pointer (some ⟨S,0,none⟩)),(27,.slice ka l.length kc),(28,.int .i64 l.length),(29,.int .i64 j)])
    (fun j w'=>j≤l.length∧bV w1 w'∧w'.cell? ⟨S,0,none⟩=some (.string ⟨s.toArray⟩)∧w'.cell? ⟨S,1,none⟩=some (.string ⟨t.toArray⟩)∧(∀ y,w'.frozen? ⟨S,y,none⟩=false)∧∃ v,w'.cell? ⟨S,2,none⟩=some v∧OwnC td 3 88 w' v (cP (l.take j) s t)∧∀ g,v.ownBlock=some g→S < g) (fun j _=>l.length - j) 0 (by kernel_rfl) ?_ ⟨aM _,x2,c0,c1,f2,_,c2,OwnC.nil pV,by simp [Value.ownBlock]⟩ ?_
  ·exact bA
  rintro K3 e3 j w3 ⟨j1,j2,j3,j4,j5,v,j6,j7,j8⟩ hK3
  rcases aH j l.length with hj | hj
  rotate_left
  ·have hj':¬ (j:Int) < l.length:=by omega
   refine bP @hj' ?_
   obtain rfl:j=l.length:=by omega
   rw [ai] at j7
   refine hK _ _ () ?_ ⟨j2,j3,j4,j5,v,j6,j7,j8⟩
   exact bA
  have hj':(j:Int) < l.length:=by omega
  obtain ⟨g,f,c,hv',hc,hat⟩:=hv.at (by omega)
  obtain ⟨rfl,rfl⟩:=sEq hv'
  obtain ⟨x,hx⟩:=gEl hj
  have hxm:=aL hx
  obtain ⟨h0,h1,a,cc,h2,hkx⟩:=gv (hat j x hx)
  have hd3:cH d w3:=(i1.g.i.trans i1.g.j).trans j2.inc
  have h0:=hd3 _ _ _ h0
  have h1:=hd3 _ _ _ h1
  have h2:=hd3 _ _ _ h2
  have hSl:=aE j6
  obtain ⟨C,hC⟩:∃ C,C=w3.heap.size:=⟨_,rfl⟩
  have more:=vi (s:=s) (e:=t) hx
  by_cases q1:s < x.s
  ·rw [if_neg (fun h=>h.1 q1),bB] at more
   refine yk @hj' @h0 @h1 @h2 @aA @j3 @j4 @q1 @not_true_eq_false ?_
   have x4:=aK (w:=w3) (.cells #[.string ⟨x.s.toArray⟩,.string ⟨x.e.toArray⟩,.slice a x.ks.length cc] 46)
   refine hK3 _ _ (j+1) ?_ ⟨hj,j2.trans x4,x4.cell j3,x4.cell j4,fun y=>by rw [x4.frozen S y hSl]; exact j5 y,v,x4.cell j6,by rw [more]; exact j7.ext x4,j8⟩ (by omega)
   exact bA
  by_cases q2:x.e < t
  ·rw [if_neg (fun h=>h.2 q2),bB] at more
   refine CM @hj' @h0 @h1 @h2 @aA @j3 @j4 @q1 @q2 @not_true_eq_false @not_false_eq_true ?_
   have x4:=aK (w:=w3) (.cells #[.string ⟨x.s.toArray⟩,.string ⟨x.e.toArray⟩,.slice a x.ks.length cc] 46)
   refine hK3 _ _ (j+1) ?_ ⟨hj,j2.trans x4,x4.cell j3,x4.cell j4,fun y=>by rw [x4.frozen S y hSl]; exact j5 y,v,x4.cell j6,by rw [more]; exact j7.ext x4,j8⟩ (by omega)
   exact bA
  rw [if_pos ⟨q1,q2⟩] at more
  have x4:=aK (w:=w3) (.cells #[.string ⟨x.s.toArray⟩,.string ⟨x.e.toArray⟩,.slice a x.ks.length cc] 46)
  obtain ⟨va,vc,rfl,_⟩:=j7.form
  refine CM @hj' @h0 @h1 @h2 @aA @j3 @j4 @j6 @q1 @q2 @not_false_eq_true ?_
  have hcl:=mO (l:=l.take j) (s:=s) (e:=t) (m:=40) fun y hy=>hks y (List.mem_of_mem_take hy)
  rw [eD j1] at hcl
  have hxl:=hks x hxm
  have hjm:j * 40≤1000 * 40:=bE _ (by omega)
  refine Cq (m:=x.ks) rw44 (j7.ext x4) (yI hkx (hd3.trans x4.inc)) (fun y _=>pW y) (by omega) fun v5 w5 o5 k5 n5 => ?_
  have j8':∀ g,v5.ownBlock=some g→S < g:=fun g hg=>by
   rcases n5 g hg with h | h
   ·exact j8 g h
   ·rw [World.size_alloc] at h; omega
  have nS:(Value.slice va (cP (l.take j) s t).length vc).ownBlock≠some S:=fun h=>by have:=j8 S h; omega
  have c6:=k5.some (x4.cell j6) fun h=>nS h
  have f6:∀ y,w5.frozen? ⟨S,y,none⟩=false:=fun y=>by rw [k5.frozen S y (aG hSl x4.size),x4.frozen S y hSl]; exact j5 y
  obtain ⟨va5,vc5,rfl,_⟩:=o5.form
  refine dU @c6 @f6 ?_
  have k6:Keep (fun b y=>b=S∧y=2) w5 (w5.setCell ⟨S,2,none⟩ (.slice va5 (cP (l.take j) s t++x.ks).length vc5)):=bR ⟨rfl,rfl⟩
  refine hK3 _ _ (j+1) ?_ ⟨hj,?_,k6.some (k5.some (x4.cell j3) fun h=>nS h) (by omega),k6.some (k5.some (x4.cell j4) fun h=>nS h) (by omega),fun y=>by rw [World.frozen?_setCell]; exact f6 y,_,by rw [cG,c6]; rfl,?_,j8'⟩ (by omega)
  ·exact bA
  ·exact bQ ((j2.trans x4).tr k5 fun b o hb h=>by have:=j8 b h; omega) (by omega)
  ·rw [more]
   exact o5.keep k6 fun g hg o h=>by have:=j8' g hg; omega
 rintro e _ w3 ⟨j2,j3,j4,j5,v,j6,j7,j8⟩
 obtain ⟨va,vc,rfl,_⟩:=j7.form
 have hSl:=aE j6
 have hfl:(List.range (i+1)).flatMap (fL l b)=(List.range i).flatMap (fL l b)++fL l b i:=by rw [List.range_succ,cA]; simp
 have hfa:fL l b i=if cP l s t=[] then [] else [⟨s,t,dC (cP l s t)⟩]:=by rw [hs,ht]; rfl
 by_cases hce:cP l s t=[]
 ·have hz:¬ (0:Int) < (cP l s t).length:=by rw [hce]; simp
  refine dU @j6 @hz ?_
  refine hK2 _ _ (i+1,vo) ?_ ⟨d1,?_,i2.trans j2,by omega,i4⟩ (by simp only; omega)
  ·exact bA
  ·simp only
   rw [hfl,hfa,if_pos hce,bB]
   exact i1.ext jB.mono j2
 have hz:(0:Int) < (cP l s t).length:=by have:=List.length_pos_iff.2 hce; omega
 have hct:DZ (cP l s t):=fun y hy=>by obtain ⟨z,hz,hy⟩:=xL hy; exact htr z hz y hy
 have hcl:=mO (l:=l) (s:=s) (e:=t) hks
 have hlm:l.length * 40≤1000 * 40:=bE _ hl
 refine dU @j6 @hz ?_
 refine sJ (j7.ke hct) (by omega) fun v' w4 x4 o4 n4 => ?_
 have c0:=x4.cell j3
 have c1:=x4.cell j4
 have c2:=x4.cell j6
 have f4:∀ y,w4.frozen? ⟨S,y,none⟩=false:=fun y=>by rw [x4.frozen S y hSl]; exact j5 y
 obtain ⟨va',vc',rfl,_⟩:=o4.form
 obtain ⟨vo1,vo2,rfl,_⟩:=i1.form
 refine eI @c0 @c1 @c2 @f4 ?_
 obtain ⟨w5,hw5⟩:∃ w5,w5=w4.setCell ⟨S,2,none⟩ (.slice va' (dC (cP l s t)).length vc'):=⟨_,rfl⟩
 rw [← hw5]
 have k5:Keep (fun b y=>b=S∧y=2) w4 w5:=by rw [hw5]; exact bR ⟨rfl,rfl⟩
 have x5:bV w1 w5:=by rw [hw5]; exact bQ (j2.trans x4) (by omega)
 have o5:=o4.keep k5 fun g hg o h=>by have:=n4 g hg; omega
 obtain ⟨d2,g2,e2⟩:=vL i1.g.j x5
 have i5:=i1.call jB.mono g2
 obtain ⟨css,oo⟩:=i5.o
 have hsl:Sl KE 3 d2 (.slice va' (dC (cP l s t)).length vc') (dC (cP l s t)):=o5.slg (fun x hx=>⟨rfl,hct x ((dO _).mem_iff.1 hx)⟩) fun g hg o u hu=>e2 _ _ _ (by have:=n4 g hg; omega) hu
 have hfll:((List.range i).flatMap (fL l b)).length≤i:=by
  have:∀ m,((List.range m).flatMap (fL l b)).length≤m:=fun m=>by
   induction m with
   | zero=>simp
   | succ m ih =>
    rw [List.range_succ,cA,aO]
    have:(fL l b m).length≤1:=by unfold fL; split <;> simp
    simp only [bW,List.flatMap_nil,bB]
    omega
  exact this i
 refine pP (⟨s,t,dC (cP l s t)⟩:Sp) [.string ⟨s.toArray⟩,.string ⟨t.toArray⟩,.slice va' (dC (cP l s t)).length vc'] rw28 oo ⟨_,rfl,hsl⟩ rfl (.inl rfl) (by rw [hw5,World.size_setCell]) rfl (by simp [Value.oneCell']) (by omega) i5.g.j fun v2 w2' oo2 k2 n2 jj2 _ => ?_
 refine aY ?_
 refine hK2 _ _ (i+1,v2) ?_ ⟨d2,?_,(i2.trans x5).tr k2 fun b o _ h => ?_,by omega,fun g hg => ?_⟩ (by simp only; omega)
 ·exact bA
 ·simp only
  rw [hfl,hfa,if_neg hce]
  exact i5.more oo2 k2 n2 jj2
 ·have:=i4 b h; omega
 ·rcases n2 g hg with h | h
  ·exact i4 g h
  ·have:=(i2.trans x5).size; omega
end
end Go.Proofs
end
section
namespace Go.E
open Go Go.Sort Go.Proofs Go.Proofs.Tryz
def GJ (x:K):Prop:=(ag x.tr=19∨ag x.tr=20∨ag x.tr=21)∧(ag x.tr=19→x.suf=[])∧(ag x.tr≠21→x.val=[])
def GK (x k:K):Prop:=¬ x.tr < k.tr∧¬ (x.tr / 256=k.tr / 256∧x.suf=k.suf∧(ag k.tr=19↔ag x.tr=19))
theorem lH.snoc {l:List K} {x:K} (h:lH l) (h1:GJ x) (h2:∀ y ∈ l,GK y x):lH (l++[x]):=by
 refine ⟨fun y hy => ?_,List.pairwise_append.2 ⟨h.2,by simp,fun a ha b hb => ?_⟩⟩
 ·rcases aq.1 hy with hy | hy
  ·exact h.1 y hy
  ·rw [aT.1 hy]; exact h1
 ·rw [aT.1 hb]; exact h2 a ha
theorem kI {x:K} {a b:Bool} (h:19≤ag x.tr∧ag x.tr≤21) (ha:ag x.tr=19↔a=true) (hb:ag x.tr=21↔b=true):¬ (ag x.tr:Int) < 19∧¬ (21:Int) < ag x.tr∧((ag x.tr:Int) == 19)=a∧((ag x.tr:Int) != 21) = !b:=by
 refine ⟨by omega,by omega,?_,?_⟩
 ·rw [au,← ha,beq_iff_eq]; omega
 ·rw [bne,Bool.not_inj_iff,au,← hb,beq_iff_eq]; omega
theorem rN (l:List Sp):(dP l).length≤2 * l.length:=by
 have:∀ m,((List.range m).flatMap (fL l (bN l))).length≤m:=fun m=>by
  induction m with
  | zero=>simp
  | succ m ih =>
   rw [List.range_succ,cA,aO]
   have:(fL l (bN l) m).length≤1:=by unfold fL; split <;> simp
   simp only [bW,List.flatMap_nil,bB]
   omega
 have:=this ((bN l).length - 1)
 have:=ib l
 unfold dP
 omega
theorem Cs {l:List Sp} {f:Sp} (h:f ∈ dP l):∃ s t,f.ks=dC (cP l s t):=by
 unfold dP at h
 obtain ⟨i,_,h⟩:=dF.1 h
 unfold fL at h
 split at h
 ·simp at h
 ·rw [aT.1 h]; exact ⟨_,_,rfl⟩
end Go.E
namespace Go.Proofs
open Go Go.E Go.Sort Go.Proofs.Tryz
section
variable {k:ae} {d w:World}
theorem rO {v:Value} {l:List K} (hv:Sl KE 3 w v l) (hl:l.length≤2147483647) (hk:tJ (lH l) k w):aU prog 59 #[v] k w:=by
 obtain ⟨ka,kc,rfl⟩:=hv.form
 refine aW [.tmp 2] func59 ?_
 refine aY ?_
 refine bI (fun i:Nat=>[(0,.slice ka l.length kc),(2,.bool false),(8,.slice ka l.length kc),(9,.int .i64 l.length),(10,.int .i64 i)])
  (fun i w'=>i≤l.length∧bV w w'∧lH (l.take i)) (fun i _=>l.length - i) 0 (by kernel_rfl) ?_ ⟨aM _,bV.refl _,by simp [lH]⟩ ?_
 ·exact bA
 rintro K2 e i w1 ⟨i2,i3,i4⟩ hK2
 rcases aH i l.length with hi | hi
 rotate_left
 ·have hi':¬ (i:Int) < l.length:=by omega
  refine bP @hi' ?_
  obtain rfl:i=l.length:=by omega
  rw [ai] at i4
  exact hk.yes i3 i4
 have hi':(i:Int) < l.length:=by omega
 obtain ⟨g,f,c,hv',hc,hat⟩:=(hv.inc KE.mono i3.inc).at (by omega)
 obtain ⟨rfl,rfl⟩:=sEq hv'
 obtain ⟨x,hx⟩:=gEl hi
 obtain ⟨h0,h1,h2,h3⟩:=iz (hat i x hx)
 obtain ⟨S,hS⟩:∃ S,S=w1.heap.size:=⟨_,rfl⟩
 obtain ⟨w2,hw2⟩:∃ w2,w2=w1.alloc (.cells #[.int .u64 x.tr,.string ⟨x.suf.toArray⟩,.string ⟨x.val.toArray⟩] 88):=⟨_,rfl⟩
 have x2:bV w1 w2:=by rw [hw2]; exact aK _
 have c0:w2.cell? ⟨S,0,none⟩=some (.int .u64 x.tr):=by rw [hw2,hS]; exact bU @aA
 have c1:w2.cell? ⟨S,1,none⟩=some (.string ⟨x.suf.toArray⟩):=by rw [hw2,hS]; exact bU @aA
 have c2:w2.cell? ⟨S,2,none⟩=some (.string ⟨x.val.toArray⟩):=by rw [hw2,hS]; exact bU @aA
 refine eI @hi' @h0 @h1 @h2 ?_
 rw [← hS,← hw2]
 refine nX ?_
 have x3:=i3.trans x2
 by_cases hone:GJ x
 rotate_left
 ·rcases (by omega:ag x.tr < 19∨21 < ag x.tr∨ag x.tr=19∨ag x.tr=20∨ag x.tr=21) with q | q | q | q | q
  ·have q1:(ag x.tr:Int) < 19:=by omega
   refine bP @q1 ?_
   exact hk.no x3
  ·have q1:¬ (ag x.tr:Int) < 19:=by omega
   have q2:(21:Int) < ag x.tr:=by omega
   refine dU @q1 @q2 ?_
   exact hk.no x3
  ·obtain ⟨q1,q2,q3,q4⟩:=kI (x:=x) (a:=true) (b:=false) (by omega) (by simp; omega) (by simp; omega)
   by_cases s1:x.suf=[]
   ·have s2:decide (x.val≠[])=true:=aQ fun h=>hone ⟨.inl q,fun _=>s1,fun _=>h⟩
    have s1:decide (x.suf≠[])=false:=by simp [s1]
    refine yj @q1 @q2 @q3 @q4 @c1 @c2 @s1 @s2 ?_
    exact hk.no x3
   ·have s1:decide (x.suf≠[])=true:=by simp [s1]
    refine tb @q1 @q2 @q3 @q4 @c1 @c2 @s1 ?_
    exact hk.no x3
  ·have s2:decide (x.val≠[])=true:=aQ fun h=>hone ⟨.inr (.inl q),fun h2=>by omega,fun _=>h⟩
   obtain ⟨q1,q2,q3,q4⟩:=kI (x:=x) (a:=false) (b:=false) (by omega) (by simp; omega) (by simp; omega)
   refine tb @q1 @q2 @q3 @q4 @c1 @c2 @s2 ?_
   exact hk.no x3
  ·exact absurd ⟨.inr (.inr q),fun h2=>by omega,fun h2=>absurd q h2⟩ hone
 have o1:=hone.1
 obtain ⟨a,ha⟩:∃ a,a=decide (ag x.tr=19):=⟨_,rfl⟩
 obtain ⟨b,hb⟩:∃ b,b=decide (ag x.tr=21):=⟨_,rfl⟩
 obtain ⟨q1,q2,q3,q4⟩:=kI (x:=x) (a:=a) (b:=b) (by omega) (by simp [ha]) (by simp [hb])
 have s1:a=true→decide (x.suf≠[])=false:=fun h=>by simp [hone.2.1 (by simpa [ha] using h)]
 have s2:b=false→decide (x.val≠[])=false:=fun h=>by simp [hone.2.2 (by simpa [hb] using h)]
 have sl:∀ q:ae,dR prog 44 (.slice (some ⟨g,f,none⟩) l.length kc) none (some (.int .i64 (i:Int))) none (uF q w2)=q (.slice (some ⟨g,f,none⟩) i kc) w2:=fun q=>by
  rw [oO Tryz.es44 rfl rfl (by simp [bd]) (by simp [bd]; omega) (by simp [bd]) (by simp)]; simp [bd,uF]
 cases a <;> cases b
 rotate_right
 ·simp at ha hb; omega
 refine tb @q1 @q2 @q3 @q4 @c2 (s2 rfl) @sl ?_
 rotate_left
 refine gW @q1 @q2 @q3 @q4 @sl ?_
 rotate_left
 refine yk @q1 @q2 @q3 @q4 @c1 @c2 (s1 rfl) (s2 rfl) @sl ?_
 rotate_left
 all_goals
  refine bI (fun j:Nat=>[(0,.slice (some ⟨g,f,none⟩) l.length kc),(2,.bool false),(4,.pointer (some ⟨S,0,none⟩)),(5,.int .u8 (ag x.tr)),(8,.slice (some ⟨g,f,none⟩) l.length kc),(9,.int .i64 l.length),(10,.int .i64 i),(44,.slice (some ⟨g,f,none⟩) i kc),(45,.int .i64 i),(46,.int .i64 j)])
   (fun j w'=>j≤i∧bV w2 w'∧∀ y ∈ (l.take i).take j,GK y x) (fun j _=>i - j) 0 (by kernel_rfl) ?_ ⟨aM _,bV.refl _,by simp⟩ ?_
  ·exact bA
  rintro K3 e3 j w3 ⟨j1,j2,j3⟩ hK3
  rcases aH j i with hj | hj
  rotate_left
  ·have hj':¬ (j:Int) < i:=by omega
   refine bP @hj' ?_
   obtain rfl:j=i:=by omega
   rw [List.take_take,Nat.min_self] at j3
   refine hK2 _ _ (j+1) ?_ ⟨hi,x3.trans j2,by rw [cj hx]; exact i4.snoc hone j3⟩ (by omega)
   exact bA
  have hj':(j:Int) < i:=by omega
  obtain ⟨y,hy⟩:∃ y,l[j]? = some y:=⟨_,aC (by omega)⟩
  have hy2:(l.take i)[j]? = some y:=by rw [List.getElem?_take_of_lt hj,hy]
  obtain ⟨p0,p1,p2,p3⟩:=iz (hat j y hy)
  have xx:=x2.trans j2
  have p0:=xx.cell p0
  have p1:=xx.cell p1
  have p2:=xx.cell p2
  have c0:=j2.cell c0
  have c1:=j2.cell c1
  refine eI @hj' @p0 @p1 @p2 ?_
  refine ao (sq [0] (.read 1 (sq [2] (.read 3 (sq [4,5,6] (.read 7 (sq [9] (.read 10 (.eff 8 [10] (.eff 11 [] (sq [12,13,14] (.read 15 (sq [16] (.read 17 (sq [18,19,20,21,22,23] (.read 24 (.eff 25 [] (sq [26,27,28,29] .done)))))))))))))))))) ?_
  obtain ⟨w4,hw4⟩:∃ w4,w4=(w3.alloc (.cells #[.int .u64 y.tr,.string ⟨y.suf.toArray⟩,.string ⟨y.val.toArray⟩] 88)).drew:=⟨_,rfl⟩
  have x4:bV w3 w4:=by rw [hw4]; exact bV.drew' (aK _)
  obtain ⟨T,hT⟩:∃ T,T=w3.heap.size:=⟨_,rfl⟩
  have t0:w4.cell? ⟨T,0,none⟩=some (.int .u64 y.tr):=by rw [hw4,hT]; exact bU @aA
  have t1:w4.cell? ⟨T,1,none⟩=some (.string ⟨y.suf.toArray⟩):=by rw [hw4,hT]; exact bU @aA
  have c0:=x4.cell c0
  have c1:=x4.cell c1
  rw [← hw4,← hT]
  have x5:=(x3.trans j2).trans x4
  by_cases p1:(y.tr:Int) < x.tr
  ·refine dg @t0 @c0 @p1 ?_
   exact hk.no x5
  refine dg @t0 @c0 @p1 ?_
  refine tK ?_
  refine bP @c0 ?_
  refine tK ?_
  by_cases p2:y.tr / 256=x.tr / 256
  rotate_left
  ·have e2:(((y.tr / 256:Nat):Int) == (x.tr / 256:Nat))=false:=beq_false_of_ne (by omega)
   refine bP @e2 ?_
   refine hK3 _ _ (j+1) ?_ ⟨hj,j2.trans x4,eu j3 hy2 ⟨by omega,fun h=>p2 h.1⟩⟩ (by omega)
   exact bA
  have e2:(((y.tr / 256:Nat):Int) == (x.tr / 256:Nat))=true:=beq_iff_eq.2 (by omega)
  by_cases p3:y.suf=x.suf
  rotate_left
  ·simp (disch:=first | exact dZ | fail) only [go_sem,e2,t1,c1,p3]
   refine hK3 _ _ (j+1) ?_ ⟨hj,j2.trans x4,eu j3 hy2 ⟨by omega,fun h=>p3 h.2.1⟩⟩ (by omega)
   exact bA
  simp (disch:=first | exact dZ | fail) only [go_sem,e2,t0,t1,c1,p3]
  refine nX ?_
  by_cases p4:ag y.tr=19
  ·have p4':((ag y.tr:Int) == 19)=true:=beq_iff_eq.2 (by omega)
   simp (disch:=first | exact dZ | fail) only [go_sem,q3,p4',beq_self_eq_true,Bool.true_beq,Bool.false_beq,Bool.not_false,Bool.not_true]
   first
   | exact hk.no x5
   | refine hK3 _ _ (j+1) ?_ ⟨hj,j2.trans x4,eu j3 hy2 ⟨by omega,fun h=>by simp at ha; omega⟩⟩ (by omega)
     exact bA
  ·have p4':((ag y.tr:Int) == 19)=false:=beq_false_of_ne (by omega)
   simp (disch:=first | exact dZ | fail) only [go_sem,q3,p4',beq_self_eq_true,Bool.true_beq,Bool.false_beq,Bool.not_false,Bool.not_true]
   first
   | exact hk.no x5
   | refine hK3 _ _ (j+1) ?_ ⟨hj,j2.trans x4,eu j3 hy2 ⟨by omega,fun h=>by simp at ha; omega⟩⟩ (by omega)
     exact bA
theorem pR {v:Value} {l:List (List Sp)} {n:Nat} (hv:Sl kO 1 d v l) (hl:l.length≤2147483647) (hs:∀ x ∈ l,x.length≤2147483647∧∀ y ∈ x,y.ks.length≤2147483647) (hn:n≤100) (hinc:cH d w) (hk:tJ (LvOk l n) k w):aU prog 15 #[v,.int .i64 n] k w:=by
 obtain ⟨ka,kc,rfl⟩:=hv.form
 refine aW [.tmp 4] func15 ?_
 refine aY ?_
 refine qg (hv.inc kO.mono hinc) hl hs fun b w1 x1 hb => ?_
 cases b with
 | false =>
  refine aY ?_
  exact hk.no x1
 | true =>
  obtain ⟨b1,b2⟩:=hb rfl
  refine aY ?_
  have l6:l.length * n≤6 * 100:=Nat.mul_le_mul b1 hn
  have hfl:=fE (Lv:=l) (n:=n) fun L hL=>(b2 L hL).1
  refine pB hv (by omega) (fun x hx=>by have:=(b2 x hx).1; omega) (hinc.trans x1.inc) fun d2 w2 v2 g2 s2 => ?_
  refine aY ?_
  refine zj s2 (by omega) (fun x hx => ?_) g2.j fun d3 w3 v3 g3 s3 => ?_
  ·obtain ⟨L,hL,hx⟩:=dG.1 hx
   exact ((b2 L hL).2.2 x hx).2
  have x3:bV w w3:=(x1.trans g2.x).trans g3.x
  have hfk:∀ f ∈ dP l.flatten,f.ks.length≤2147483647:=fun f hf=>by
   obtain ⟨s,t,e⟩:=Cs hf
   have:=mO (l:=l.flatten) (s:=s) (e:=t) (m:=40) fun x hx=>by
    obtain ⟨L,hL,hx⟩:=dG.1 hx
    exact ((b2 L hL).2.2 x hx).2
   rw [e,(dO _).length_eq]
   have h2:l.flatten.length * 40≤600 * 40:=bE _ (by omega)
   omega
  have hfn:=rN l.flatten
  obtain ⟨va,vc,rfl⟩:=s3.form
  refine aY ?_
  refine bI (fun i:Nat=>[(4,.bool false),(13,.slice va (dP l.flatten).length vc),(14,.int .i64 (dP l.flatten).length),(15,.int .i64 i)])
   (fun i w'=>i≤(dP l.flatten).length∧bV w3 w'∧∀ x ∈ (dP l.flatten).take i,lH x.ks) (fun i _=>(dP l.flatten).length - i) 0 (by kernel_rfl) ?_ ⟨aM _,bV.refl _,by simp⟩ ?_
  ·exact bA
  rintro K2 e i w1 ⟨i2,i3,i4⟩ hK2
  rcases aH i (dP l.flatten).length with hi | hi
  rotate_left
  ·have hi':¬ (i:Int) < (dP l.flatten).length:=by omega
   obtain rfl:i=(dP l.flatten).length:=by omega
   rw [ai] at i4
   refine bP @hi' ?_
   exact hk.yes (x3.trans i3) ⟨b1,fun L hL=>(b2 L hL).1,fun L hL=>(b2 L hL).2.1,fun L hL=>(b2 L hL).2.2,i4⟩
  have hi':(i:Int) < (dP l.flatten).length:=by omega
  obtain ⟨g,f,c,hv',hc,hat⟩:=(s3.inc jB.mono (g3.j.trans i3.inc)).at (by omega)
  obtain ⟨rfl,rfl⟩:=sEq hv'
  obtain ⟨x,hx⟩:∃ x,(dP l.flatten)[i]? = some x:=⟨_,aC hi⟩
  obtain ⟨h0,h1,a,cc,h2,hkx⟩:=gv (hat i x hx)
  have x4:=aK (w:=w1) (.cells #[.string ⟨x.s.toArray⟩,.string ⟨x.e.toArray⟩,.slice a x.ks.length cc] 46)
  refine gW @hi' @h0 @h1 @h2 @aA ?_
  refine rO (hkx.inc KE.mono x4.inc) (hfk x (aL hx)) fun b w5 x5 hb => ?_
  have x6:=(i3.trans x4).trans x5
  cases b with
  | false =>
   refine aY ?_
   exact hk.no (x3.trans x6)
  | true =>
   refine aY ?_
   refine hK2 _ _ (i+1) ?_ ⟨hi,x6,eu i4 hx (hb rfl)⟩ (by omega)
   exact bA
end
end Go.Proofs
end
section
namespace Go.E
open Go Go.Sort Go.Proofs
theorem LoopL.mut {α:Type} {R:gY α} {sz:Nat} {el:TypeId} {d w d1 w1 w2:World} {v:Value} {l:List α} {M:Nat→Nat→Prop} (h:LoopL R sz el d w d1 w1 v l) (k:Keep M w1 w2) (hM:∀ b o,M b o→w.heap.size≤b∧dA d1 b∧v.ownBlock≠some b):LoopL R sz el d w d1 w2 v l:=by
 obtain ⟨css,o⟩:=h.o
 refine ⟨⟨h.g.x.tr k fun b o hb hm=>by have:=(hM b o hm).1; omega,h.g.i,fun b o u hu=>k.some (h.g.j _ _ _ hu) fun hm => ?_,h.g.o⟩,⟨css,o.keep k fun g hg o hm=>(hM g o hm).2.2 hg⟩,h.n⟩
 rw [(hM b o hm).2.1 o] at hu
 simp at hu
theorem ed {w:World} {b o:Nat} {c:Array Value} {t:TypeId} (h:w.heap.size≤b) (h2:b < w.heap.size+1):(w.alloc (.cells c t)).frozen? ⟨b,o,none⟩=false:=by
 obtain rfl:b=w.heap.size:=by omega
 exact World.frozen?_alloc_new w c t o
theorem tV (st:List SV) (k:K):(ez st k).length≤st.length+1:=by
 unfold ez
 split
 ·exact aM _
 ·rw [aO]
  have:=bz (fun x:SV=>decide (x.1≠k.suf)) st
  split
  ·rw [ak]; omega
  ·rw [List.length_nil]; omega
theorem H7 {d:World} {N:Nat} {kv:Value} {x:Sp} (h0:d.cell? ⟨N,0,none⟩=some (.string ⟨x.s.toArray⟩)) (h1:d.cell? ⟨N,1,none⟩=some (.string ⟨x.e.toArray⟩)) (h2:d.cell? ⟨N,2,none⟩=some kv) (hk:Sl KE 3 d kv x.ks):Sl jB 3 d (.slice (some ⟨N,0,none⟩) 1 1) [x]:=by
 refine ⟨fun _=>rfl,rfl,aD _,fun i y hy => ?_⟩
 rcases i with _ | i
 ·obtain rfl:x=y:=by simpa using hy
  refine ⟨[dV x.s,dV x.e,kv],rfl,fun j u hu => ?_,_,rfl,hk⟩
  match j,hu with
  | 0,hu=>obtain rfl:=bq hu; exact h0
  | 1,hu=>obtain rfl:=bq hu; exact h1
  | 2,hu=>obtain rfl:=bq hu; exact h2
 ·simp at hy
theorem oG {w:World} {g o:Nat} {x:An} (h:Cf wz 5 w g o x):w.cell? ⟨g,o,none⟩=some (.bool x.dn)∧w.cell? ⟨g,o+1,none⟩=some (.bool x.ok)∧w.cell? ⟨g,o+2,none⟩=some (.string ⟨x.sp.s.toArray⟩)∧w.cell? ⟨g,o+3,none⟩=some (.string ⟨x.sp.e.toArray⟩)∧∃ a c,w.cell? ⟨g,o+4,none⟩=some (.slice a x.sp.ks.length c)∧Sl KE 3 w (.slice a x.sp.ks.length c) x.sp.ks:=by
 obtain ⟨cs,_,hcs,v,rfl,h⟩:=h
 obtain ⟨a,c,rfl⟩:=h.form
 exact ⟨hcs 0 _ rfl,hcs 1 _ rfl,hcs 2 _ rfl,hcs 3 _ rfl,a,c,hcs 4 _ rfl,h⟩
end Go.E
end
section
namespace Go.E
open Go Go.Sort Go.Proofs Go.Proofs.Tryz
theorem zl {snap:Nat} {l:List K} {j:Nat} {x:K} (h:l[j]? = some x):iK snap (l.take (j+1))=iK snap (l.take j)++if eT snap x.tr then [x] else []:=by
 rw [cj h]
 unfold iK
 rw [List.filter_append]
 simp [List.filter_cons]
end Go.E
namespace Go.Proofs
open Go Go.E Go.Sort Go.Proofs.Tryz
section
variable {k:ae} {d w:World}
theorem vj {kv:Value} {x:Sp} {snap:Nat} (hv:Sl KE 3 w kv x.ks) (hl:x.ks.length≤100000) (hk:∀ v2 w2,bV w w2→OwnC td 3 88 w2 v2 (iK snap x.ks)→(∀ g,v2.ownBlock=some g→w.heap.size≤g)→k (.agg #[.string ⟨x.s.toArray⟩,.string ⟨x.e.toArray⟩,v2]) w2) :
    aU prog 23 #[.agg #[.string ⟨x.s.toArray⟩,.string ⟨x.e.toArray⟩,kv],.int .u64 snap] k w:=by
 have htr:=Bc hv
 obtain ⟨ka,kc,rfl⟩:=hv.form
 refine aW [.cell 4 46] func23 ?_
 refine dU @aA @ed ?_
 obtain ⟨A,hA⟩:∃ A,A=w.heap.size:=⟨_,rfl⟩
 rw [← hA]
 refine gX (fun _:Unit=>[(4,.pointer (some ⟨A+1,0,none⟩)),(5,.pointer (some ⟨A+1+1,0,none⟩))])
  (fun _ w'=>bV w w'∧(∀ y,w'.frozen? ⟨A+1,y,none⟩=false)∧w'.cell? ⟨A+1,0,none⟩=some (.string ByteArray.empty)∧w'.cell? ⟨A+1,1,none⟩=some (.string ByteArray.empty)∧w'.cell? ⟨A+1,2,none⟩=some (.slice none 0 0) ∧
   w'.cell? ⟨A+1+1,0,none⟩=some (.string ⟨x.s.toArray⟩)∧w'.cell? ⟨A+1+1,1,none⟩=some (.string ⟨x.e.toArray⟩)∧∃ v,w'.cell? ⟨A+1+1,2,none⟩=some v∧OwnC td 3 88 w' v (iK snap x.ks)∧∀ g,v.ownBlock=some g→A+1+1 < g) (by kernel_rfl) (fun K hK => ?_) ?_
 ·refine bI (fun j:Nat=>[(1,.int .u64 snap),(4,.pointer (some ⟨A+1,0,none⟩)),(5,.pointer (some ⟨A+1+1,0,none⟩)),(14,.slice ka x.ks.length kc),(15,.int .i64 x.ks.length),(16,.int .i64 j)])
    (fun j w'=>j≤x.ks.length∧bV w w'∧((∀ y,w'.frozen? ⟨A+1,y,none⟩=false)∧∀ y,w'.frozen? ⟨A+1+1,y,none⟩=false)∧w'.cell? ⟨A+1,0,none⟩=some (.string ByteArray.empty)∧w'.cell? ⟨A+1,1,none⟩=some (.string ByteArray.empty)∧w'.cell? ⟨A+1,2,none⟩=some (.slice none 0 0) ∧
    w'.cell? ⟨A+1+1,0,none⟩=some (.string ⟨x.s.toArray⟩)∧w'.cell? ⟨A+1+1,1,none⟩=some (.string ⟨x.e.toArray⟩)∧∃ v,w'.cell? ⟨A+1+1,2,none⟩=some v∧OwnC td 3 88 w' v (iK snap (x.ks.take j))∧∀ g,v.ownBlock=some g→A+1+1 < g) (fun j _=>x.ks.length - j) 0 (by kernel_rfl) ?_ ?_ ?_
  ·exact bA
  ·refine ⟨aM _,?_,⟨fun y => ?_,fun y => ?_⟩,?_,?_,?_,?_,?_,.slice none 0 0,?_,OwnC.nil pV,by simp [Value.ownBlock]⟩
   exact bQ (bQ (bQ (((aK _).trans (aK _)).trans (aK _)) (by omega)) (by omega)) (by omega)
   all_goals
    rw [hA]
    exact Ht @aA @ed
  rintro K2 e i w1 ⟨i2,i3,⟨f1,f2⟩,z0,z1,z2,c0,c1,v,c2,o1,n1⟩ hK2
  have hS:=aE c2
  rcases aH i x.ks.length with hi | hi
  rotate_left
  ·have hi':¬ (i:Int) < x.ks.length:=by omega
   refine bP @hi' ?_
   obtain rfl:i=x.ks.length:=by omega
   rw [ai] at o1
   refine hK _ _ () ?_ ⟨i3,f1,z0,z1,z2,c0,c1,v,c2,o1,n1⟩
   exact bA
  have hi':(i:Int) < x.ks.length:=by omega
  obtain ⟨g,f,c,hv',hc,hat⟩:=(hv.inc KE.mono i3.inc).at (by omega)
  obtain ⟨rfl,rfl⟩:=sEq hv'
  obtain ⟨y,hy⟩:=gEl hi
  obtain ⟨h0,h1,h2,h3⟩:=iz (hat i y hy)
  have x4:=aK (w:=w1) (.cells #[.int .u64 y.tr,.string ⟨y.suf.toArray⟩,.string ⟨y.val.toArray⟩] 88)
  have more:=zl (snap:=snap) hy
  refine gW @hi' @h0 @h1 @h2 @aA ?_
  obtain ⟨T,hT⟩:∃ T,T=w1.heap.size:=⟨_,rfl⟩
  obtain ⟨w4,hw4⟩:∃ w4,w4=w1.alloc (.cells #[.int .u64 y.tr,.string ⟨y.suf.toArray⟩,.string ⟨y.val.toArray⟩] 88):=⟨_,rfl⟩
  have t0:w4.cell? ⟨T,0,none⟩=some (.int .u64 y.tr):=by rw [hw4,hT]; exact bU @aA
  have t1:w4.cell? ⟨T,1,none⟩=some (.string ⟨y.suf.toArray⟩):=by rw [hw4,hT]; exact bU @aA
  have t2:w4.cell? ⟨T,2,none⟩=some (.string ⟨y.val.toArray⟩):=by rw [hw4,hT]; exact bU @aA
  rw [← hw4] at x4 ⊢
  rw [← hT]
  refine qa h3 ?_
  obtain ⟨va,vc,rfl,_⟩:=o1.form
  have o4:=o1.ext x4
  cases hvis:eT snap y.tr with
  | false =>
   rw [hvis,if_neg (by decide),bB] at more
   refine aY ?_
   refine hK2 _ _ (i+1) ?_ ⟨hi,i3.trans x4,⟨fun y=>by rw [x4.frozen _ y (by omega)]; exact f1 y,fun y=>by rw [x4.frozen _ y hS]; exact f2 y⟩,x4.cell z0,x4.cell z1,x4.cell z2,x4.cell c0,x4.cell c1,_,x4.cell c2,by rw [more]; exact o4,n1⟩ (by omega)
   exact bA
  | true =>
   rw [hvis,if_pos rfl] at more
   have c2':=x4.cell c2
   refine eI @c2' @t0 @t1 @t2 ?_
   have hvl:(iK snap (x.ks.take i)).length≤i:=by
    refine aP (bz _ _) ?_
    rw [bH]; omega
   refine sG y rw44 o4 rfl (.inl rfl) rfl (pW y) (by omega) fun v5 w5 o5 k5 n5 => ?_
   have h4:=x4.size
   have n5':∀ g,v5.ownBlock=some g→A+1+1 < g:=fun g hg=>by
    rcases n5 g hg with h | h
    ·exact n1 g h
    ·omega
   have nS:∀ b,b≤A+1+1→(Value.slice va (iK snap (x.ks.take i)).length vc).ownBlock≠some b:=fun b hb h=>by have:=n1 b h; omega
   have c2'':=k5.some c2' fun h=>nS _ (aD _) h
   have f2':∀ y,w5.frozen? ⟨A+1+1,y,none⟩=false:=fun y=>by rw [k5.frozen _ y (by omega),x4.frozen _ y hS]; exact f2 y
   have f1':∀ y,w5.frozen? ⟨A+1,y,none⟩=false:=fun y=>by rw [k5.frozen _ y (by omega),x4.frozen _ y (by omega)]; exact f1 y
   obtain ⟨va5,vc5,rfl,_⟩:=o5.form
   refine dU @c2'' @f2' ?_
   have k6:Keep (fun b y=>b=A+1+1∧y=2) w5 (w5.setCell ⟨A+1+1,2,none⟩ (.slice va5 (iK snap (x.ks.take i)++[y]).length vc5)):=bR ⟨rfl,rfl⟩
   have cc:∀ {b o u},b≤A+1+1→(b=A+1+1→o≠2)→w1.cell? ⟨b,o,none⟩=some u→(w5.setCell ⟨A+1+1,2,none⟩ (.slice va5 (iK snap (x.ks.take i)++[y]).length vc5)).cell? ⟨b,o,none⟩=some u:=fun hb ho h=>k6.some (k5.some (x4.cell h) fun h=>nS _ hb h) fun h=>ho h.1 h.2
   refine hK2 _ _ (i+1) ?_ ⟨hi,?_,⟨fun y=>by rw [World.frozen?_setCell]; exact f1' y,fun y=>by rw [World.frozen?_setCell]; exact f2' y⟩,cc (by omega) (by omega) z0,cc (by omega) (by omega) z1,cc (by omega) (by omega) z2,cc (by omega) (by omega) c0,cc (by omega) (by omega) c1,_,by rw [cG,c2'']; rfl,?_,n5'⟩ (by omega)
   ·exact bA
   ·exact bQ ((i3.trans x4).tr k5 fun b o hb h=>by have:=n1 b h; omega) (by omega)
   ·rw [more]
    exact o5.keep k6 fun g hg o h=>by have:=n5' g hg; omega
 rintro e _ w3 ⟨i3,f1,z0,z1,z2,c0,c1,v,c2,o1,n1⟩
 obtain ⟨va,vc,rfl,_⟩:=o1.form
 refine tb @c0 @c1 @c2 @z0 @z1 @z2 @f1 ?_
 have kk:=Keep.set (b:=A+1) (o:=2) (v := .slice va (iK snap x.ks).length vc) (Keep.set (b:=A+1) (o:=1) (v := .string ⟨x.e.toArray⟩) (Keep.set (b:=A+1) (o:=0) (v := .string ⟨x.s.toArray⟩) (Keep.refl (M:=fun b _=>b=A+1) w3) fun _=>rfl) fun _=>rfl) fun _=>rfl
 exact hk _ _ (i3.tr kk fun b o hb h=>by omega) (o1.keep kk fun g hg o h=>by have:=n1 g hg; omega) fun g hg=>by have:=n1 g hg; omega
end
end Go.Proofs
end
section
namespace Go.E
open Go Go.Sort Go.Proofs Go.Proofs.Tryz
def xM (p:SV):List Value:=[dV p.1,dV p.2]
theorem tW (p:SV):(xM p).length=2:=rfl
theorem tX (p:SV):∀ y ∈ xM p,y.oneCell'=true:=by simp [xM,Value.oneCell',dV]
theorem OwnC.empty {w:World}:OwnC xM 2 64 (w.alloc (.cells #[] 64)) (.slice (some ⟨w.heap.size,0,none⟩) 0 0) []:=⟨⟨rfl,.inr ⟨w.heap.size,0,#[],rfl,aM _,(show (w.heap.push _)[w.heap.size]? = _ from Array.getElem?_push_size),aD _,by decide,rfl,rfl⟩⟩,tW⟩
def oH:gY SV:=fun _ cs p=>cs=xM p
theorem oH.mono:ga oH:=fun _ _ _ _ _ h=>h
theorem Ct {d w:World} {v:Value} {l:List SV} (h:Sl oH 2 d v l) (hi:cH d w):rB w v l.length (l.flatMap xM):=by
 obtain ⟨css,c1,c2,c3,c4⟩:=h.lie (by decide)
 have e:css=l.map xM:=by
  refine List.ext_getElem? fun i => ?_
  rw [bX]
  rcases aH i l.length with hi | hi
  ·have a:=aC hi
   have b:=aC (show i < css.length by omega)
   rw [a,b,c3 i _ _ a b]
   rfl
  ·rw [List.getElem?_eq_none hi,List.getElem?_eq_none (by omega)]
   rfl
 have:=c4 w hi
 rw [e] at this
 rwa [List.flatMap_def]
def jA (s0:List SV) (l:List K) (m:Nat):List SV:=(l.drop m).reverse.foldl ez s0
theorem zm (s0:List SV) (l:List K):jA s0 l l.length=s0:=by simp [jA]
theorem xN {s0:List SV} {l:List K} {m:Nat} {x:K} (h:l[m]? = some x):jA s0 l m=ez (jA s0 l (m+1)) x:=by
 obtain ⟨hm,rfl⟩:=aN.1 h
 unfold jA
 rw [cY hm,List.reverse_cons,List.foldl_append]
 rfl
theorem gT (s0:List SV) (l:List K) (m:Nat):(jA s0 l m).length≤s0.length+(l.length - m):=by
 unfold jA
 have:∀ l:List K,(l.reverse.foldl ez s0).length≤s0.length+l.length:=by
  intro l
  induction l with
  | nil=>simp
  | cons x l ih =>
   rw [List.reverse_cons,List.foldl_append,aX]
   exact aP (tV _ _) (by omega)
 have:=this (l.drop m)
 rwa [List.length_drop] at this
end Go.E
namespace Go.Proofs
open Go Go.E Go.Sort Go.Proofs.Tryz
section
variable {k:ae} {d w:World}
theorem dt {sv kv:Value} {s0:List SV} {l:List K} (hsv:Sl oH 2 w sv s0) (hs0:s0.length≤100000) (hv:Sl KE 3 w kv l) (hl:l.length≤100000) (hk:∀ v2 w2,bV w w2→OwnC xM 2 64 w2 v2 (iw s0 l)→(∀ g,v2.ownBlock=some g→w.heap.size≤g)→k v2 w2):aU prog 26 #[sv,kv] k w:=by
 obtain ⟨ka,kc,rfl⟩:=hv.form
 obtain ⟨s0a,s0c,rfl⟩:=hsv.form
 refine aW [.tmp 4] func26 ?_
 refine aY ?_
 have x0:=aK (w:=w) (.cells #[] 64)
 refine Cq (m:=s0) rw50 OwnC.empty (Ct hsv x0.inc) (fun y _=>tX y) (by rw [List.length_nil]; omega) fun v1 w1 o1 k1 n1 => ?_
 rw [List.nil_append] at o1
 have x1:bV w w1:=x0.tr k1 fun b o hb h=>by simp [Value.ownBlock] at h; omega
 have n1':∀ g,v1.ownBlock=some g→w.heap.size≤g:=fun g hg=>by
  rcases n1 g hg with h | h
  ·simp [Value.ownBlock] at h; omega
  ·rw [World.size_alloc] at h; omega
 refine aY ?_
 refine gX (fun v:Value=>[(5,v)]) (fun v w'=>bV w w'∧OwnC xM 2 64 w' v (jA s0 l 0)∧∀ g,v.ownBlock=some g→w.heap.size≤g) (by kernel_rfl) (fun K hK => ?_) ?_
 ·refine bI (fun b:Nat × Value=>[(1,.slice ka l.length kc),(5,b.2),(6,.int .i64 ((b.1:Int) - 1))])
    (fun b w'=>b.1≤l.length∧bV w w'∧OwnC xM 2 64 w' b.2 (jA s0 l b.1)∧∀ g,b.2.ownBlock=some g→w.heap.size≤g) (fun b _=>b.1) (l.length,v1) (by kernel_rfl) ?_ ⟨aD _,x1,by rw [zm]; exact o1,n1'⟩ ?_
  ·exact bA
  rintro K2 e ⟨m,v⟩ w2 ⟨i1,i2,i3,i4⟩ hK2
  simp only at i1 i3 i4
  rcases m with _ | m
  ·refine aY ?_
   refine hK _ _ v ?_ ⟨i2,i3,i4⟩
   exact bA
  have e1:((m+1:Nat):Int) - 1=(m:Nat):=by omega
  obtain ⟨g,f,c,hv',hc,hat⟩:=(hv.inc KE.mono i2.inc).at (by omega)
  obtain ⟨rfl,rfl⟩:=sEq hv'
  obtain ⟨x,hx⟩:=gEl i1
  obtain ⟨h0,h1,h2,htr⟩:=iz (hat m x hx)
  have hfs:=xN (s0:=s0) hx
  have hge:((m:Nat):Int) ≥ 0:=by omega
  obtain ⟨S,hS⟩:∃ S,S=w2.heap.size:=⟨_,rfl⟩
  obtain ⟨w3,hw3⟩:∃ w3,w3=w2.alloc (.cells #[.int .u64 x.tr,.string ⟨x.suf.toArray⟩,.string ⟨x.val.toArray⟩] 88):=⟨_,rfl⟩
  have x3:bV w2 w3:=by rw [hw3]; exact aK _
  have c0:w3.cell? ⟨S,0,none⟩=some (.int .u64 x.tr):=by rw [hw3,hS]; exact bU @aA
  have c1:w3.cell? ⟨S,1,none⟩=some (.string ⟨x.suf.toArray⟩):=by rw [hw3,hS]; exact bU @aA
  have c2:w3.cell? ⟨S,2,none⟩=some (.string ⟨x.val.toArray⟩):=by rw [hw3,hS]; exact bU @aA
  refine gW @e1 @hge @h0 @h1 @h2 ?_
  rw [← hS,← hw3]
  refine nX ?_
  obtain ⟨st,hst⟩:∃ st,st=jA s0 l (m+1):=⟨_,rfl⟩
  have hsl:=gT s0 l (m+1)
  rw [← hst] at i3 hfs hsl
  by_cases q:ag x.tr=19
  ·have q3:((ag x.tr:Int) == 19)=true:=beq_iff_eq.2 (by omega)
   refine bP @q3 ?_
   refine hK2 _ _ (m,.slice none 0 0) ?_ ⟨by omega,i2.trans x3,by rw [hfs]; unfold ez; rw [if_pos q]; exact OwnC.nil tW,by simp [Value.ownBlock]⟩ (by simp only; omega)
   exact bA
  have q3:((ag x.tr:Int) == 19)=false:=beq_false_of_ne (by omega)
  have i3':=i3.ext x3
  obtain ⟨sa,sc,rfl,_⟩:=i3.form
  have hP:(List.length st:Int)=st.length:=rfl
  obtain ⟨p,hp⟩:∃ p,p=fun y:SV=>decide (y.1≠x.suf):=⟨_,rfl⟩
  refine bP @q3 ?_
  refine gX (fun v:Value=>[(1,.slice (some ⟨g,f,none⟩) l.length kc),(6,.int .i64 m),(7,.pointer (some ⟨S,0,none⟩)),(8,v)])
   (fun v w'=>bV w3 w'∧OwnC xM 2 64 w' v (st.filter p)∧∀ g,v.ownBlock=some g→w.heap.size≤g) (by kernel_rfl) (fun K3 hK3 => ?_) ?_
  ·refine bI (fun b:Nat × Value=>[(1,.slice (some ⟨g,f,none⟩) l.length kc),(6,.int .i64 m),(7,.pointer (some ⟨S,0,none⟩)),(8,b.2),(31,.slice sa st.length sc),(32,.int .i64 st.length),(33,.int .i64 b.1)])
     (fun b w'=>b.1≤st.length∧bV w3 w'∧OwnC xM 2 64 w' b.2 ((st.take b.1).filter p)∧∀ g,b.2.ownBlock=some g→w3.heap.size≤g) (fun b _=>st.length - b.1) (0,.slice none 0 0) (by kernel_rfl) ?_ ⟨aM _,bV.refl _,OwnC.nil tW,by simp [Value.ownBlock]⟩ ?_
   ·exact bA
   rintro K4 e4 ⟨j,v⟩ w4 ⟨j1,j2,j3,j4⟩ hK4
   simp only at j1 j3 j4
   rcases aH j st.length with hj | hj
   rotate_left
   ·have hj':¬ (j:Int) < st.length:=by omega
    refine bP @hj' ?_
    obtain rfl:j=st.length:=by omega
    rw [ai] at j3
    refine hK3 _ _ v ?_ ⟨j2,j3,fun g hg=>by have:=j4 g hg; have:=i2.size; have:=x3.size; omega⟩
    exact bA
   have hj':(j:Int) < st.length:=by omega
   obtain ⟨bg,bc',hbv,hbg⟩:=i3'.block hj
   obtain ⟨rfl,rfl⟩:sa=some ⟨bg,0,none⟩∧sc=bc':=by simpa using hbv
   obtain ⟨y,hy⟩:=gEl hj
   have o4:=i3'.ext j2
   have p0:=o4.cell hy (j:=0) rfl
   have p1:=o4.cell hy (j:=1) rfl
   simp only [dV,Nat.add_zero] at p0 p1
   have x5:=aK (w:=w4) (.cells #[.string ⟨y.1.toArray⟩,.string ⟨y.2.toArray⟩] 64)
   have c1':=x5.cell (j2.cell c1)
   have hfl:((st.take j).filter p).length≤j:=aP (bz _ _) (by rw [bH]; omega)
   have more:(st.take (j+1)).filter p=(st.take j).filter p++if p y then [y] else []:=by
    rw [cj hy,List.filter_append,List.filter_cons,List.filter_nil]
   obtain ⟨va,vc,rfl,_⟩:=j3.form
   by_cases hpy:y.1=x.suf
   ·have hd:p y=false:=by rw [hp]; simp [hpy]
    have hq:decide (y.1≠x.suf)=false:=by simp [hpy]
    rw [hd,if_neg (by decide),bB] at more
    refine me @hj' @p0 @p1 @aA @c1' @hq ?_
    refine hK4 _ _ (j+1,_) ?_ ⟨hj,j2.trans x5,by simp only; rw [more]; exact j3.ext x5,j4⟩ (by simp only; omega)
    exact bA
   ·have hd:p y=true:=by rw [hp]; simp [hpy]
    have hq:decide (y.1≠x.suf)=true:=by simp [hpy]
    rw [hd,if_pos rfl] at more
    refine me @hj' @p0 @p1 @aA @c1' @hq ?_
    refine sG y rw50 (j3.ext x5) rfl (.inl rfl) (World.size_alloc _ _).symm (tX y) (by omega) fun v6 w6 o6 k6 n6 => ?_
    refine aY ?_
    refine hK4 _ _ (j+1,v6) ?_ ⟨hj,(j2.trans x5).tr k6 fun b o hb h=>by have:=j4 b h; omega,by simp only; rw [more]; exact o6,fun g hg => ?_⟩ (by simp only; omega)
    ·exact bA
    ·rcases n6 g hg with h | h
     ·exact j4 g h
     ·rw [World.size_alloc] at h; have:=j2.size; omega
  rintro e4 v w4 ⟨j2,j3,j4⟩
  have c0:=j2.cell c0
  have c1:=j2.cell c1
  have c2:=j2.cell c2
  obtain ⟨va,vc,rfl,_⟩:=j3.form
  have hfl:=bz p st
  have x24:=(i2.trans x3).trans j2
  refine bP @c0 ?_
  refine nX ?_
  by_cases q2:ag x.tr=21
  ·have q4:((ag x.tr:Int) == 21)=true:=beq_iff_eq.2 (by omega)
   have hst2:ez st x=st.filter p++[(x.suf,x.val)]:=by unfold ez; rw [if_neg q,if_pos q2,hp]
   refine dg @q4 @c1 @c2 ?_
   refine sG ((x.suf,x.val):SV) rw50 j3 rfl (.inl rfl) rfl (tX _) (by omega) fun v6 w6 o6 k6 n6 => ?_
   refine aY ?_
   refine hK2 _ _ (m,v6) ?_ ⟨by omega,x24.tr k6 fun b o hb h=>by have:=j4 b h; omega,by simp only; rw [hfs,hst2]; exact o6,fun g hg => ?_⟩ (by simp only; omega)
   ·exact bA
   ·rcases n6 g hg with h | h
    ·exact j4 g h
    ·have:=x24.size; omega
  ·have q4:((ag x.tr:Int) == 21)=false:=beq_false_of_ne (by omega)
   have hst2:ez st x=st.filter p:=by unfold ez; rw [if_neg q,if_neg q2,hp,bB]
   refine bP @q4 ?_
   refine hK2 _ _ (m,_) ?_ ⟨by omega,x24,by simp only; rw [hfs,hst2]; exact j3,j4⟩ (by simp only; omega)
   exact bA
 rintro e v w2 ⟨i1,i2,i3⟩
 have hLl:=gT s0 l 0
 have hst:iw s0 l=iT gu (jA s0 l 0):=rfl
 obtain ⟨L,hL⟩:∃ L,L=jA s0 l 0:=⟨_,rfl⟩
 rw [hst,← hL] at hk
 rw [← hL] at i2 hLl
 obtain ⟨va,vc,rfl,_⟩:=i2.form
 refine aY ?_
 refine bI (fun i:Nat=>[(5,.slice va L.length vc),(61,.int .i64 L.length),(62,.int .i64 i)])
  (fun i w'=>i≤L.length∧bV w w'∧OwnC xM 2 64 w' (.slice va L.length vc) (iT gu (L.take i)++L.drop i)) (fun i _=>L.length - i) 0 (by kernel_rfl) ?_ ⟨aM _,i1,by simpa [iT] using i2⟩ ?_
 ·exact bA
 rintro K2 e i w3 ⟨j1,j2,j3⟩ hK2
 rcases aH i L.length with hi | hi
 rotate_left
 ·have hi':¬ (i:Int) < L.length:=by omega
  refine bP @hi' ?_
  obtain rfl:i=L.length:=by omega
  rw [ai,List.drop_length,bB] at j3
  exact hk _ w3 j2 j3 i3
 have hi':(i:Int) < L.length:=by omega
 obtain ⟨x,hx⟩:=gEl hi
 obtain ⟨a,ha⟩:∃ a,a=iT gu (L.take i):=⟨_,rfl⟩
 have hal:a.length=i:=by rw [ha,gS,eD j1]
 obtain ⟨R,hR⟩:∃ R,R=L.drop (i+1):=⟨_,rfl⟩
 have hRl:R.length+i+1=L.length:=by rw [hR,List.length_drop]; omega
 have hdr:L.drop i=x :: R:=by
  obtain ⟨_,rfl⟩:=aN.1 hx
  rw [cY hi,hR]
 have e0:a++x :: R=cl x a i++R:=by rw [← hal,← vf]; simp
 rw [← ha,hdr,e0] at j3
 obtain ⟨g,c,hbv,hg⟩:=i2.block (show 0 < L.length by omega)
 obtain ⟨rfl,rfl⟩:va=some ⟨g,0,none⟩∧vc=c:=by simpa using hbv
 have hgw:=i3 g rfl
 have hlen:∀ j,j≤i→(cl x a j).length=i+1:=fun j hj=>by rw [qh x (by omega)]; omega
 have hlen2:∀ j,j≤i→(cl x a j++R).length=L.length:=fun j hj=>by rw [aO,hlen j hj]; omega
 refine bP @hi' ?_
 refine bI (fun j:Nat=>[(5,.slice (some ⟨g,0,none⟩) L.length vc),(12,.int .i64 j),(61,.int .i64 L.length),(62,.int .i64 i)])
  (fun j w'=>j≤i∧bV w w'∧OwnC xM 2 64 w' (.slice (some ⟨g,0,none⟩) L.length vc) (cl x a j++R)∧ey gu x a i=ey gu x a j) (fun j _=>j) i (by kernel_rfl) ?_ ⟨aD _,j2,j3,rfl⟩ ?_
 ·exact bA
 rintro K4 e4 j w4 ⟨k1,k2,k3,k4⟩ hK4
 have fin:ey gu x a j=j→kR gu x a=cl x a j:=fun h=>by unfold kR cl; rw [hal,k4,h]
 rcases j with _ | j
 ·have hz:¬ (0:Int) < ((0:Nat):Int):=by omega
  refine aY ?_
  refine ao (sq [0,1,2,3,4,5,6] (.read 7 (sq [8,9,10,11,12] (.read 13 (sq [14,15] .done))))) ?_
  refine bP @hz ?_
  refine hK2 _ _ (i+1) ?_ ⟨hi,bV.drew' k2,by rw [kE hx,← ha,← hR,fin rfl]; exact k3.ext (bV.drew' (bV.refl w4))⟩ (by omega)
  exact bA
 have hz:(0:Int) < ((j+1:Nat):Int):=by omega
 have e3:((j+1:Nat):Int) - 1=(j:Nat):=by omega
 obtain ⟨y,hy⟩:∃ y,a[j]? = some y:=⟨_,aC (by omega)⟩
 have hx1:(cl x a (j+1)++R)[j+1]? = some x:=by rw [ax (by rw [hlen _ k1]; omega)]; exact sH x (by omega)
 have hy1:(cl x a (j+1)++R)[j]? = some y:=by rw [ax (by rw [hlen _ k1]; omega),vg x (by omega) (by omega)]; exact hy
 have k3':OwnC xM 2 64 w4 (.slice (some ⟨g,0,none⟩) (cl x a (j+1)++R).length vc) (cl x a (j+1)++R):=by rw [hlen2 _ k1]; exact k3
 have p0:=k3'.cell hx1 (j:=0) rfl
 have p1:=k3'.cell hx1 (j:=1) rfl
 have q0:=k3'.cell hy1 (j:=0) rfl
 have q1:=k3'.cell hy1 (j:=1) rfl
 simp only [dV,Nat.add_zero] at p0 p1 q0 q1
 refine aY ?_
 refine ao (sq [0,1,2,3,4,5,6] (.read 7 (sq [8,9,10,11,12] (.read 13 (sq [14,15] .done))))) ?_
 refine eI @hz @e3 @p0 @q0 ?_
 by_cases hlt:x.1 < y.1
 rotate_left
 ·refine bP @hlt ?_
  refine hK2 _ _ (i+1) ?_ ⟨hi,bV.drew' k2,by rw [kE hx,← ha,← hR,fin (by rw [fm hy,if_neg (by simpa [gu] using hlt)])]; exact k3.ext (bV.drew' (bV.refl w4))⟩ (by omega)
  exact bA
 have f4:∀ o,w4.frozen? ⟨g,o,none⟩=false:=fun o=>cq k3.own rfl o
 refine bP @hlt ?_
 refine ao (sq [0,1,2,3,4,5,6,7,8] (.read 9 (sq [10,11,12] (.read 13 (sq [14] (.eff 15 [] (sq [16] (.eff 17 [] .done)))))))) ?_
 refine me @e3 @p0 @p1 @q0 @q1 @f4 ?_
 have o6:=(k3.set2' (hlen2 _ k1) (i:=j+1) (by rw [hlen2 _ k1]; omega) y rfl).set2' (by rw [br]; exact hlen2 _ k1) (i:=j) (by rw [br,hlen2 _ k1]; omega) x rfl
 have e6:((cl x a (j+1)++R).set (j+1) y).set j x=cl x a j++R:=by
  rw [List.set_append_left _ _ (by rw [hlen _ k1]; omega),List.set_append_left _ _ (by rw [br,hlen _ k1]; omega),sI x y (by omega) hy]
 rw [e6] at o6
 refine hK4 _ _ j ?_ ⟨by omega,bV.drew' (bV.drew' (bQ (bQ (bQ (bQ k2 hgw) hgw) hgw) hgw)),o6.ext (bV.drew' (bV.drew' (bV.refl _))),?_⟩ (by omega)
 ·exact bA
 ·rw [k4,fm hy,if_pos (by simpa [gu] using hlt)]
end
end Go.Proofs
end
section
namespace Go.E
open Go Go.Sort Go.Proofs
def Hg (P : Program) (t : TypeId) (l : List (TypeId × Nat)) : Bool := (P.fieldsOf t).toList.map (fun f => (f.name != "_", f.type, f.offset)) == l.map fun x => (true, x.1, x.2)
theorem Da {P:Program} {t:TypeId} {cs:Array Value} {off:Nat} {v:Value} (w:World) (h:kU P t cs off (fun u=>u=v)):(part t cs off).run P w = .ok v w:=by
 obtain ⟨u,h1,rfl⟩:=rW (w:=w) h
 exact h1
end Go.E
namespace Go.Proofs
open Go Go.E Go.Sort
section
variable {k:ae} {d w:World}
end
end Go.Proofs
end
section
namespace Go.E
open Go Go.Sort Go.Proofs Go.Proofs.Tryz
theorem GM:Hg prog 64 [(9,0),(9,1)]=true:=by kernel_rfl
def B9 (x:SV):Array Value := #[.string ⟨x.1.toArray⟩,.string ⟨x.2.toArray⟩]
theorem HJ (x y:SV) (w:World):(Op.equalIn 10000 64 (.agg (B9 x)) (.agg (B9 y))).run prog w = .ok (decide (x=y)) w:=by
 rw [show (10000:Nat)=9999+1 from rfl,run_equalIn_agg w 9999 64 _ _ (by kernel_rfl) (by kernel_rfl)]
 have hf:=GM
 unfold Hg at hf
 rw [beq_iff_eq] at hf
 generalize (prog.fieldsOf 64).toList=fs at hf ⊢
 rcases fs with _ | ⟨a,_ | ⟨b,_ | ⟨e,r⟩⟩⟩
 ·simp at hf
 ·simp at hf
 ·simp only [List.map_cons,List.map_nil,List.cons.injEq,Prod.mk.injEq,and_true,bne_iff_ne] at hf
  obtain ⟨⟨n1,t1,o1⟩,⟨n2,t2,o2⟩⟩:=hf
  have e1:∀ (u:SV) w,(part 9 (B9 u) 0).run prog w = .ok (.string ⟨u.1.toArray⟩) w:=fun u w=>Da w rfl
  have e2:∀ (u:SV) w,(part 9 (B9 u) 1).run prog w = .ok (.string ⟨u.2.toArray⟩) w:=fun u w=>Da w rfl
  have q2:∀ (u v:ByteArray) w,(Op.equalIn 9999 9 (.string u) (.string v)).run prog w = .ok (u.toList == v.toList) w:=fun u v w=>run_equalIn_string w 9998 9 u v (by kernel_rfl)
  simp only [Op.eqFields,n1,n2,t1,t2,o1,o2,if_true,if_pos,ne_eq,not_false_eq_true,Sem.run_bind,Sem.run_ite,e1,e2,q2,Result.andThen_ok,Sem.run_pure,ByteArray.toList_mk]
  obtain ⟨xs,xv⟩:=x
  obtain ⟨ys,yv⟩:=y
  simp only [Prod.mk.injEq]
  by_cases g2:xs=ys
  ·by_cases g3:xv=yv
   ·simp [g2,g3]
   ·simp [g2,g3]
  ·simp [g2]
 ·simp at hf
theorem oJ {xo yo:Operand} {x y:SV} {q:Value→Prop} (h:q (.bool (decide (x≠y)))):cZ prog .neq 64 xo yo (.agg #[.string ⟨x.1.toArray⟩,.string ⟨x.2.toArray⟩]) (.agg #[.string ⟨y.1.toArray⟩,.string ⟨y.2.toArray⟩]) q:=by
 refine ⟨decide (x≠y),fun w => ?_,h⟩
 show (do eqGuard .neq 64 xo yo (.agg (B9 x)) (.agg (B9 y)); binOp .neq 64 (.agg (B9 x)) (.agg (B9 y)):Sem Value).run prog w=_
 have h1:=run_eqGuard_agg w .neq 64 xo yo (B9 x) (B9 y) (show prog.eqGuardType prog.depth 64=false by kernel_rfl)
 simp only [Sem.run_bind,h1,Result.andThen_ok,run_neq_struct,HJ]
 simp
end Go.E
namespace Go.Proofs
open Go Go.E Go.Sort Go.Proofs.Tryz
section
variable {k:ae} {d w:World}
theorem xO {x:SV} (hk:tJ (x.1.length≤2147483647∧x.2.length≤2147483647) k w):aU prog 77 #[.agg #[.string ⟨x.1.toArray⟩,.string ⟨x.2.toArray⟩]] k w:=by
 refine aW [.tmp 2] func77 ?_
 by_cases h1:2147483647 < (x.1.length:Int)
 ·refine dU @aA @h1 ?_
  exact hk.no (aK _)
 by_cases h2:2147483647 < (x.2.length:Int)
 ·refine dg @aA @h1 @h2 ?_
  exact hk.no (aK _)
 refine dg @aA @h1 @h2 ?_
 exact hk.yes (aK _) ⟨by omega,by omega⟩
theorem xP {v:Value} {l:List SV} (hv:Sl oH 2 w v l) (hk:tJ (l.length≤2147483647∧∀ x ∈ l,x.1.length≤2147483647∧x.2.length≤2147483647) k w):aU prog 42 #[v] k w:=by
 obtain ⟨ka,kc,rfl⟩:=hv.form
 refine aW [.tmp 2] func42 ?_
 by_cases hz:2147483647 < (l.length:Int)
 ·refine bP @hz ?_
  exact hk.no (bV.refl _)
 refine bP @hz ?_
 refine bI (fun i:Nat=>[(2,.bool false),(8,.slice ka l.length kc),(8+1,.int .i64 l.length),(8+2,.int .i64 i)])
  (fun i w'=>i≤l.length∧bV w w'∧∀ x ∈ l.take i,x.1.length≤2147483647∧x.2.length≤2147483647) (fun i _=>l.length - i) 0 (by kernel_rfl) ?_ ⟨aM _,bV.refl _,by simp⟩ ?_
 ·exact bA
 rintro K2 e i w1 ⟨i2,i3,i4⟩ hK2
 rcases aH i l.length with hi | hi
 rotate_left
 ·have hi':¬ (i:Int) < l.length:=by omega
  obtain rfl:i=l.length:=by omega
  rw [ai] at i4
  refine bP @hi' ?_
  exact hk.yes i3 ⟨by omega,i4⟩
 have hi':(i:Int) < l.length:=by omega
 obtain ⟨g,f,c,hv',hc,hat⟩:=(hv.inc oH.mono i3.inc).at (by omega)
 obtain ⟨rfl,rfl⟩:=sEq hv'
 obtain ⟨x,hx⟩:=gEl hi
 obtain ⟨cs,_,hcs,hR⟩:=hat i x hx
 obtain rfl:=hR
 have h0:w1.cell? ⟨g,f+i * 2,none⟩=some (.string ⟨x.1.toArray⟩):=hcs 0 _ rfl
 have h1:w1.cell? ⟨g,f+i * 2+1,none⟩=some (.string ⟨x.2.toArray⟩):=hcs 1 _ rfl
 refine eI @hi' @h0 @h1 @aA ?_
 refine xO fun b w2 x2 hb => ?_
 have x12:=(i3.trans (aK _)).trans x2
 cases b with
 | false =>
  refine aY ?_
  exact hk.no (x12)
 | true =>
  refine aY ?_
  refine hK2 _ _ (i+1) ?_ ⟨hi,x12,eu i4 hx (hb rfl)⟩ (by omega)
  exact bA
end
end Go.Proofs
end
section
namespace Go.E
open Go Go.Sort Go.Proofs
section
variable {Lv:List (List Sp)} {n:Nat}
theorem LvOk.cdF (h:LvOk Lv n) (u:Nat):Cd (cW Lv.length (eN Lv) (bN Lv.flatten) u):=by
 have hB:=jU h.wf
 have h0:lC Lv.length (eN Lv) (bN Lv.flatten) u=false→Cd (cW Lv.length (eN Lv) (bN Lv.flatten) u):=fun hcv=>by
  have h0:cW Lv.length (eN Lv) (bN Lv.flatten) u=[]:=by
   unfold cW
   refine List.flatMap_eq_nil_iff.2 fun i hi => ?_
   rw [if_neg fun h1 => ?_]
   rw [lT.2 ⟨i,List.mem_range.1 hi,h1⟩] at hcv
   cases hcv
  rw [h0]
  exact ⟨.nil,by simp⟩
 rcases aH (bN Lv.flatten).length u with hu | hu
 ·have hf:=nW h.wf [] u fun i hi=>by
    unfold cp
    rw [if_neg (by omega),getElem!_neg (bN Lv.flatten) (u - 1) (by omega)]
    rfl
  rw [hf]
  exact h.cd []
 cases hcv:lC Lv.length (eN Lv) (bN Lv.flatten) u with
 | true =>
  have hm:(⟨(bN Lv.flatten)[u - 1]!,(bN Lv.flatten)[u]!,dC (cW Lv.length (eN Lv) (bN Lv.flatten) u)⟩:Sp) ∈ dP Lv.flatten:=by
   rw [nQ h.wf fun L hL s hs=>(h.ks L hL s hs).1,cM]
   exact ⟨_,cX.2 ⟨hu,hcv⟩,rfl⟩
  exact (h.rk _ hm).cd.perm (dO _)
 | false=>exact h0 hcv
end
end Go.E
end
