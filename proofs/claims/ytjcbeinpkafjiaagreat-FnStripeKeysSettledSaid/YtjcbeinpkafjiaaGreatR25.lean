/- Parts of the proof: Xh, Xi, Ua, Vi, Vj, Vm, Vn, Vo, Vp, Kk. -/
import Derived.Test.YtjcbeinpkafjiaaGreatR17
import Derived.Test.YtjcbeinpkafjiaaGreatR22
import Derived.Test.YtjcbeinpkafjiaaGreatR23
import Derived.Test.YtjcbeinpkafjiaaGreatR24
set_option linter.all false
set_option maxRecDepth 10000
section
namespace Go.E
open Go Go.Sort Go.Proofs Go.Proofs.Tryz
theorem Aq {d w:World} {v:Value} {l:List K} (h:Sl KE 3 d v l) (hi:bz d w):tP w v l.length (l.flatMap wq):=by
 obtain ⟨css,c1,c2,c3,c4⟩:=h.lie (by decide)
 have e:css=l.map wq:=by
  refine List.ext_getElem? fun i => ?_
  rw [bq]
  rcases aH i l.length with hi | hi
  ·have a:=aC hi
   have b:=aC (show i < css.length by omega)
   rw [a,b,(c3 i _ _ a b).1]
   rfl
  ·rw [List.getElem?_eq_none hi,List.getElem?_eq_none (by omega)]
   rfl
 have:=c4 w hi
 rw [e] at this
 rwa [List.flatMap_def]
theorem OwnC.slg {α:Type} {ce:α→List Value} {sz:Nat} {el:TypeId} {w d:World} {v:Value} {l:List α} {R:gN α} (h:OwnC ce sz el w v l) (hR:∀ x ∈ l,R d (ce x) x) (hd:∀ g,v.ownBlock=some g→∀ o u,w.cell? ⟨g,o,none⟩=some u→d.cell? ⟨g,o,none⟩=some u):Sl R sz d v l:=by
 rcases cY h.own with ⟨rfl,h0,_⟩ | ⟨g,cap,rfl,hc,_⟩
 ·exact ⟨rfl,ao.1 h0⟩
 ·refine ⟨fun _=>rfl,rfl,hc,fun i x hx=>⟨ce x,h.sz x,fun j u hu => ?_,hR x (aJ hx)⟩⟩
  have:=h.cell hx hu
  rw [show 0+i * sz+j=i * sz+j by omega]
  exact hd g rfl _ _ this
theorem yV {l:List Sp} {s e:Bytes} {j:Nat} {x:Sp} (h:l[j]? = some x):cm (l.take (j+1)) s e=cm (l.take j) s e++if ¬ s < x.s∧¬ x.e < e then x.ks else []:=by
 rw [bn h]
 unfold cm
 rw [cV]
 simp
theorem lG {l:List Sp} {s e:Bytes} {m:Nat} (h:∀ x ∈ l,x.ks.length≤m):(cm l s e).length≤l.length * m:=by
 unfold cm
 induction l with
 | nil=>simp
 | cons x l ih =>
  have h1:=h x aR
  have h2:=ih fun y hy=>h y (aj _ hy)
  rw [bj,aM,ag,Nat.add_mul]
  have:(if ¬ s < x.s∧¬ x.e < e then x.ks else []).length≤m:=by
   split
   ·exact h1
   ·exact aQ _
  omega
theorem zw {l:List Sp} {s e:Bytes} {x:K} (h:x ∈ cm l s e):∃ y ∈ l,x ∈ y.ks:=by
 unfold cm at h
 obtain ⟨y,hy,hx⟩:=db.1 h
 split at hx
 ·exact ⟨y,hy,hx⟩
 ·simp at hx
def JG (l:List K):Prop:=∀ x ∈ l,x.tr < 18446744073709551616
theorem HO {d:World} {v:Value} {l:List K} (h:Sl KE 3 d v l):JG l:=fun x hx=>by
 obtain ⟨i,hi,rfl⟩:=aV hx
 obtain ⟨_,_,_,_,_,hat⟩:=h.at (by omega)
 obtain ⟨_,_,_,h⟩:=hat i _ (aC hi)
 exact h.2
theorem Ar {d:World} {v:Value} {l:List Sp} (h:Sl dY 3 d v l):∀ y ∈ l,JG y.ks:=fun y hy=>by
 obtain ⟨i,hi,rfl⟩:=aV hy
 obtain ⟨_,_,_,_,_,hat⟩:=h.at (by omega)
 obtain ⟨_,_,_,v,_,h⟩:=hat i _ (aC hi)
 exact HO h
theorem OwnC.ke {w:World} {v:Value} {l:List K} (h:OwnC wq 3 88 w v l) (ht:JG l):Sl KE 3 w v l:=h.sl fun x hx=>⟨rfl,ht x hx⟩
end Go.E
namespace Go.Proofs
open Go Go.E Go.Sort Go.Proofs.Tryz
section
variable {k:aq} {d w:World}
set_option maxHeartbeats 1000000 in
theorem CO {v:Value} {l:List Sp} (hv:Sl dY 3 d v l) (hl:l.length≤1000) (hks:∀ x ∈ l,x.ks.length≤40) (hinc:bz d w) (hk:∀ d2 w2 v2,Gr d w d2 w2→Sl dY 3 d2 v2 (dq l)→k v2 w2):aX prog 58 #[v] k w:=by
 have htr:=Ar hv
 obtain ⟨ka,kc,rfl⟩:=hv.form
 refine ai [.tmp 2] func58 ?_
 refine al ?_
 refine zv (hv.inc dY.mono hinc) (by omega) fun vb w0 x0 ob nb => ?_
 obtain ⟨ba,bc,rfl,_⟩:=ob.form
 obtain ⟨b,hb⟩:∃ b,b=bH l:=⟨_,rfl⟩
 have hbl:=eT l
 rw [← hb] at ob hbl ⊢
 refine al ?_
 refine bO (fun c:Nat × Value=>[(0,.slice ka l.length kc),(3,c.2),(4,.slice ba b.length bc),(5,.int .i64 ((c.1+1:Nat):Int))])
  (fun c w'=>∃ d1,LoopL dY 3 46 d w d1 w' c.2 ((List.range c.1).flatMap (gC l b))∧bY w0 w'∧(c.1=0∨c.1 < b.length)∧∀ g,c.2.ownBlock=some g→w0.heap.size≤g) (fun c _=>b.length - c.1) (0,.slice none 0 0) (by kernel_rfl) ?_ ⟨d,(LoopL.nil hinc).ext dY.mono x0,bY.refl _,.inl rfl,by simp [Value.ownBlock]⟩ ?_
 ·exact bE
 rintro K2 e ⟨i,vo⟩ w1 ⟨d1,i1,i2,i3,i4⟩ hK2
 simp only at i1 i3 i4
 rcases aH (i+1) b.length with hi | hi
 rotate_left
 ·have hi':¬ ((i+1:Nat):Int) < b.length:=by omega
  refine bf @hi' ?_
  have hr:dq l=(List.range i).flatMap (gC l b):=by
   unfold dq
   rw [← hb,show b.length - 1=i by omega]
  obtain ⟨d2,g2,_,_,s2⟩:=i1.done dY.mono
  exact hk d2 w1 vo g2 (by rw [hr]; exact s2)
 have hi':((i+1:Nat):Int) < b.length:=by omega
 obtain ⟨bg,bc',hbv,hbg⟩:=ob.block (show i < b.length by omega)
 have hbg:=aI hbg i2.size
 obtain ⟨rfl,rfl⟩:ba=some ⟨bg,0,none⟩∧bc=bc':=by simpa using hbv
 have ob1:=ob.ext i2
 have e1:((i+1:Nat):Int) - 1=(i:Nat):=by omega
 have bx:b[i]? = some b[i]! := by rw [aG b i (by omega)]; exact aC _
 have by_:b[i+1]? = some b[i+1]! := by rw [aG b (i+1) hi]; exact aC _
 have p0:=ob1.cell bx (j:=0) rfl
 have p1:=ob1.cell by_ (j:=0) rfl
 simp only [str,Nat.add_zero] at p0 p1
 obtain ⟨s,hs⟩:∃ s,s=b[i]! := ⟨_,rfl⟩
 obtain ⟨t,ht⟩:∃ t,t=b[i+1]! := ⟨_,rfl⟩
 rw [← hs] at p0
 rw [← ht] at p1
 refine bf @hi' ?_
 refine ay (sq [0,1,2,3] (.read 4 (sq [5,6,7] (.read 8 (sq [9] (.eff 10 [4,8] (.eff 11 [] .done))))))) ?_
 refine eI @e1 @p0 @p1 ?_
 obtain ⟨S,hS⟩:∃ S,S=w1.heap.size:=⟨_,rfl⟩
 obtain ⟨w2,hw2⟩:∃ w2,w2=(w1.alloc (.cells #[.string ⟨s.toArray⟩,.string ⟨t.toArray⟩,.slice none 0 0] 46)).drew:=⟨_,rfl⟩
 have x2:bY w1 w2:=by rw [hw2]; exact bY.drew' (aL _)
 have z2:w2.heap.size=S+1:=by rw [hw2,World.size_drew,World.size_alloc,hS]
 have c0:w2.cell? ⟨S,0,none⟩=some (.string ⟨s.toArray⟩):=by rw [hw2,hS]; exact bb @aA
 have c1:w2.cell? ⟨S,1,none⟩=some (.string ⟨t.toArray⟩):=by rw [hw2,hS]; exact bb @aA
 have c2:w2.cell? ⟨S,2,none⟩=some (.slice none 0 0):=by rw [hw2,hS]; exact bb @aA
 have f2:∀ y,w2.frozen? ⟨S,y,none⟩=false:=fun y=>by rw [hw2,hS]; simp (disch:=first | exact dZ | fail) only [go_sem]
 rw [← hw2,← hS]
 refine gm (fun _:Unit=>[(0,.slice ka l.length kc),(3,vo),(4,.slice (some ⟨bg,0,none⟩) b.length bc),(5,.int .i64 ((i+1:Nat):Int)),(6,.pointer (some ⟨S,0,none⟩))])
  (fun _ w'=>bY w1 w'∧w'.cell? ⟨S,0,none⟩=some (.string ⟨s.toArray⟩)∧w'.cell? ⟨S,1,none⟩=some (.string ⟨t.toArray⟩)∧(∀ y,w'.frozen? ⟨S,y,none⟩=false)∧∃ v,w'.cell? ⟨S,2,none⟩=some v∧OwnC wq 3 88 w' v (cm l s t)∧∀ g,v.ownBlock=some g→S < g) (by kernel_rfl) (fun K hK => ?_) ?_
 ·refine bO (fun j:Nat=>[(0,.slice ka l.length kc),(3,vo),(4,.slice (some ⟨bg,0,none⟩) b.length bc),(5,.int .i64 ((i+1:Nat):Int)),(6,.pointer (some ⟨S,0,none⟩)),(27,.slice ka l.length kc),(28,.int .i64 l.length),(29,.int .i64 j)])
    (fun j w'=>j≤l.length∧bY w1 w'∧w'.cell? ⟨S,0,none⟩=some (.string ⟨s.toArray⟩)∧w'.cell? ⟨S,1,none⟩=some (.string ⟨t.toArray⟩)∧(∀ y,w'.frozen? ⟨S,y,none⟩=false)∧∃ v,w'.cell? ⟨S,2,none⟩=some v∧OwnC wq 3 88 w' v (cm (l.take j) s t)∧∀ g,v.ownBlock=some g→S < g) (fun j _=>l.length - j) 0 (by kernel_rfl) ?_ ⟨aQ _,x2,c0,c1,f2,_,c2,OwnC.nil pS,by simp [Value.ownBlock]⟩ ?_
  ·exact bE
  rintro K3 e3 j w3 ⟨j1,j2,j3,j4,j5,v,j6,j7,j8⟩ hK3
  rcases aH j l.length with hj | hj
  rotate_left
  ·have hj':¬ (j:Int) < l.length:=by omega
   refine bf @hj' ?_
   obtain rfl:j=l.length:=by omega
   rw [aT] at j7
   refine hK _ _ () ?_ ⟨j2,j3,j4,j5,v,j6,j7,j8⟩
   exact bE
  have hj':(j:Int) < l.length:=by omega
  obtain ⟨g,f,c,hv',hc,hat⟩:=hv.at (by omega)
  obtain ⟨rfl,rfl⟩:=sEq hv'
  obtain ⟨x,hx⟩:=gEl hj
  have hxm:=aJ hx
  obtain ⟨h0,h1,a,cc,h2,hkx⟩:=dI (hat j x hx)
  have hd3:bz d w3:=(i1.g.i.trans i1.g.j).trans j2.inc
  have h0:=hd3 _ _ _ h0
  have h1:=hd3 _ _ _ h1
  have h2:=hd3 _ _ _ h2
  have hSl:=aE j6
  obtain ⟨C,hC⟩:∃ C,C=w3.heap.size:=⟨_,rfl⟩
  have more:=yV (s:=s) (e:=t) hx
  by_cases q1:s < x.s
  ·rw [if_neg (fun h=>h.1 q1),au] at more
   refine xT @hj' @h0 @h1 @h2 @aA @j3 @j4 @q1 @not_true_eq_false ?_
   have x4:=aL (w:=w3) (.cells #[.string ⟨x.s.toArray⟩,.string ⟨x.e.toArray⟩,.slice a x.ks.length cc] 46)
   refine hK3 _ _ (j+1) ?_ ⟨hj,j2.trans x4,x4.cell j3,x4.cell j4,fun y=>by rw [x4.frozen S y hSl]; exact j5 y,v,x4.cell j6,by rw [more]; exact j7.ext x4,j8⟩ (by omega)
   exact bE
  by_cases q2:x.e < t
  ·rw [if_neg (fun h=>h.2 q2),au] at more
   refine FM @hj' @h0 @h1 @h2 @aA @j3 @j4 @q1 @q2 @not_true_eq_false @not_false_eq_true ?_
   have x4:=aL (w:=w3) (.cells #[.string ⟨x.s.toArray⟩,.string ⟨x.e.toArray⟩,.slice a x.ks.length cc] 46)
   refine hK3 _ _ (j+1) ?_ ⟨hj,j2.trans x4,x4.cell j3,x4.cell j4,fun y=>by rw [x4.frozen S y hSl]; exact j5 y,v,x4.cell j6,by rw [more]; exact j7.ext x4,j8⟩ (by omega)
   exact bE
  rw [if_pos ⟨q1,q2⟩] at more
  have x4:=aL (w:=w3) (.cells #[.string ⟨x.s.toArray⟩,.string ⟨x.e.toArray⟩,.slice a x.ks.length cc] 46)
  obtain ⟨va,vc,rfl,_⟩:=j7.form
  refine FM @hj' @h0 @h1 @h2 @aA @j3 @j4 @j6 @q1 @q2 @not_false_eq_true ?_
  have hcl:=lG (l:=l.take j) (s:=s) (e:=t) (m:=40) fun y hy=>hks y (List.mem_of_mem_take hy)
  rw [dB j1] at hcl
  have hxl:=hks x hxm
  have hjm:j * 40≤1000 * 40:=bK _ (by omega)
  refine Fs (m:=x.ks) rw44 (j7.ext x4) (Aq hkx (hd3.trans x4.inc)) (fun y _=>pT y) (by omega) fun v5 w5 o5 k5 n5 => ?_
  have j8':∀ g,v5.ownBlock=some g→S < g:=fun g hg=>by
   rcases n5 g hg with h | h
   ·exact j8 g h
   ·rw [World.size_alloc] at h; omega
  have nS:(Value.slice va (cm (l.take j) s t).length vc).ownBlock≠some S:=fun h=>by have:=j8 S h; omega
  have c6:=k5.some (x4.cell j6) fun h=>nS h
  have f6:∀ y,w5.frozen? ⟨S,y,none⟩=false:=fun y=>by rw [k5.frozen S y (aI hSl x4.size),x4.frozen S y hSl]; exact j5 y
  obtain ⟨va5,vc5,rfl,_⟩:=o5.form
  refine dV @c6 @f6 ?_
  have k6:Keep (fun b y=>b=S∧y=2) w5 (w5.setCell ⟨S,2,none⟩ (.slice va5 (cm (l.take j) s t++x.ks).length vc5)):=bR ⟨rfl,rfl⟩
  refine hK3 _ _ (j+1) ?_ ⟨hj,?_,k6.some (k5.some (x4.cell j3) fun h=>nS h) (by omega),k6.some (k5.some (x4.cell j4) fun h=>nS h) (by omega),fun y=>by rw [World.frozen?_setCell]; exact f6 y,_,by rw [cC,c6]; rfl,?_,j8'⟩ (by omega)
  ·exact bE
  ·exact bX ((j2.trans x4).tr k5 fun b o hb h=>by have:=j8 b h; omega) (by omega)
  ·rw [more]
   exact o5.keep k6 fun g hg o h=>by have:=j8' g hg; omega
 rintro e _ w3 ⟨j2,j3,j4,j5,v,j6,j7,j8⟩
 obtain ⟨va,vc,rfl,_⟩:=j7.form
 have hSl:=aE j6
 have hfl:(List.range (i+1)).flatMap (gC l b)=(List.range i).flatMap (gC l b)++gC l b i:=by rw [List.range_succ,cV]; simp
 have hfa:gC l b i=if cm l s t=[] then [] else [⟨s,t,cH (cm l s t)⟩]:=by rw [hs,ht]; rfl
 by_cases hce:cm l s t=[]
 ·have hz:¬ (0:Int) < (cm l s t).length:=by rw [hce]; simp
  refine dV @j6 @hz ?_
  refine hK2 _ _ (i+1,vo) ?_ ⟨d1,?_,i2.trans j2,by omega,i4⟩ (by simp only; omega)
  ·exact bE
  ·simp only
   rw [hfl,hfa,if_pos hce,au]
   exact i1.ext dY.mono j2
 have hz:(0:Int) < (cm l s t).length:=by have:=List.length_pos_iff.2 hce; omega
 have hct:JG (cm l s t):=fun y hy=>by obtain ⟨z,hz,hy⟩:=zw hy; exact htr z hz y hy
 have hcl:=lG (l:=l) (s:=s) (e:=t) hks
 have hlm:l.length * 40≤1000 * 40:=bK _ hl
 refine dV @j6 @hz ?_
 refine qL (j7.ke hct) (by omega) fun v' w4 x4 o4 n4 => ?_
 have c0:=x4.cell j3
 have c1:=x4.cell j4
 have c2:=x4.cell j6
 have f4:∀ y,w4.frozen? ⟨S,y,none⟩=false:=fun y=>by rw [x4.frozen S y hSl]; exact j5 y
 obtain ⟨va',vc',rfl,_⟩:=o4.form
 obtain ⟨vo1,vo2,rfl,_⟩:=i1.form
 refine fW @c0 @c1 @c2 @f4 ?_
 obtain ⟨w5,hw5⟩:∃ w5,w5=w4.setCell ⟨S,2,none⟩ (.slice va' (cH (cm l s t)).length vc'):=⟨_,rfl⟩
 rw [← hw5]
 have k5:Keep (fun b y=>b=S∧y=2) w4 w5:=by rw [hw5]; exact bR ⟨rfl,rfl⟩
 have x5:bY w1 w5:=by rw [hw5]; exact bX (j2.trans x4) (by omega)
 have o5:=o4.keep k5 fun g hg o h=>by have:=n4 g hg; omega
 obtain ⟨d2,g2,e2⟩:=nN i1.g.j x5
 have i5:=i1.call dY.mono g2
 obtain ⟨css,oo⟩:=i5.o
 have hsl:Sl KE 3 d2 (.slice va' (cH (cm l s t)).length vc') (cH (cm l s t)):=o5.slg (fun x hx=>⟨rfl,hct x ((cT _).mem_iff.1 hx)⟩) fun g hg o u hu=>e2 _ _ _ (by have:=n4 g hg; omega) hu
 have hfll:((List.range i).flatMap (gC l b)).length≤i:=by
  have:∀ m,((List.range m).flatMap (gC l b)).length≤m:=fun m=>by
   induction m with
   | zero=>simp
   | succ m ih =>
    rw [List.range_succ,cV,aM]
    have:(gC l b m).length≤1:=by unfold gC; split <;> simp
    simp only [bj,List.flatMap_nil,au]
    omega
  exact this i
 refine jI (⟨s,t,cH (cm l s t)⟩:Sp) [.string ⟨s.toArray⟩,.string ⟨t.toArray⟩,.slice va' (cH (cm l s t)).length vc'] rw28 oo ⟨_,rfl,hsl⟩ rfl (.inl rfl) (by rw [hw5,World.size_setCell]) rfl (by simp [Value.oneCell']) (by omega) i5.g.j fun v2 w2' oo2 k2 n2 jj2 _ => ?_
 refine al ?_
 refine hK2 _ _ (i+1,v2) ?_ ⟨d2,?_,(i2.trans x5).tr k2 fun b o _ h => ?_,by omega,fun g hg => ?_⟩ (by simp only; omega)
 ·exact bE
 ·simp only
  rw [hfl,hfa,if_neg hce]
  exact i5.more oo2 k2 n2 jj2
 ·have:=i4 b h; omega
 ·rcases n2 g hg with h | h
  ·exact i4 g h
  ·have:=(i2.trans x5).size; omega
end
end Go.Proofs
end
section
namespace Go.E
open Go Go.Sort Go.Proofs Go.Proofs.Tryz
def JH (x:K):Prop:=(an x.tr=19∨an x.tr=20∨an x.tr=21)∧(an x.tr=19→x.suf=[])∧(an x.tr≠21→x.val=[])
def JI (x k:K):Prop:=¬ x.tr < k.tr∧¬ (x.tr / 256=k.tr / 256∧x.suf=k.suf∧(an k.tr=19↔an x.tr=19))
theorem mI.snoc {l:List K} {x:K} (h:mI l) (h1:JH x) (h2:∀ y ∈ l,JI y x):mI (l++[x]):=by
 refine ⟨fun y hy => ?_,List.pairwise_append.2 ⟨h.2,by simp,fun a ha b hb => ?_⟩⟩
 ·rcases ax.1 hy with hy | hy
  ·exact h.1 y hy
  ·rw [ae.1 hy]; exact h1
 ·rw [ae.1 hb]; exact h2 a ha
theorem kI {x:K} {a b:Bool} (h:19≤an x.tr∧an x.tr≤21) (ha:an x.tr=19↔a=true) (hb:an x.tr=21↔b=true):¬ (an x.tr:Int) < 19∧¬ (21:Int) < an x.tr∧((an x.tr:Int) == 19)=a∧((an x.tr:Int) != 21) = !b:=by
 refine ⟨by omega,by omega,?_,?_⟩
 ·rw [bJ,← ha,beq_iff_eq]; omega
 ·rw [bne,Bool.not_inj_iff,bJ,← hb,beq_iff_eq]; omega
theorem te (l:List Sp):(dq l).length≤2 * l.length:=by
 have:∀ m,((List.range m).flatMap (gC l (bH l))).length≤m:=fun m=>by
  induction m with
  | zero=>simp
  | succ m ih =>
   rw [List.range_succ,cV,aM]
   have:(gC l (bH l) m).length≤1:=by unfold gC; split <;> simp
   simp only [bj,List.flatMap_nil,au]
   omega
 have:=this ((bH l).length - 1)
 have:=eT l
 unfold dq
 omega
theorem As {l:List Sp} {f:Sp} (h:f ∈ dq l):∃ s t,f.ks=cH (cm l s t):=by
 unfold dq at h
 obtain ⟨i,_,h⟩:=db.1 h
 unfold gC at h
 split at h
 ·simp at h
 ·rw [ae.1 h]; exact ⟨_,_,rfl⟩
end Go.E
namespace Go.Proofs
open Go Go.E Go.Sort Go.Proofs.Tryz
section
variable {k:aq} {d w:World}
theorem tg {v:Value} {l:List K} (hv:Sl KE 3 w v l) (hl:l.length≤2147483647) (hk:wK (mI l) k w):aX prog 59 #[v] k w:=by
 obtain ⟨ka,kc,rfl⟩:=hv.form
 refine ai [.tmp 2] func59 ?_
 refine al ?_
 refine bO (fun i:Nat=>[(0,.slice ka l.length kc),(2,.bool false),(8,.slice ka l.length kc),(9,.int .i64 l.length),(10,.int .i64 i)])
  (fun i w'=>i≤l.length∧bY w w'∧mI (l.take i)) (fun i _=>l.length - i) 0 (by kernel_rfl) ?_ ⟨aQ _,bY.refl _,by simp [mI]⟩ ?_
 ·exact bE
 rintro K2 e i w1 ⟨i2,i3,i4⟩ hK2
 rcases aH i l.length with hi | hi
 rotate_left
 ·have hi':¬ (i:Int) < l.length:=by omega
  refine bf @hi' ?_
  obtain rfl:i=l.length:=by omega
  rw [aT] at i4
  exact hk.yes i3 i4
 have hi':(i:Int) < l.length:=by omega
 obtain ⟨g,f,c,hv',hc,hat⟩:=(hv.inc KE.mono i3.inc).at (by omega)
 obtain ⟨rfl,rfl⟩:=sEq hv'
 obtain ⟨x,hx⟩:=gEl hi
 obtain ⟨h0,h1,h2,h3⟩:=eW (hat i x hx)
 obtain ⟨S,hS⟩:∃ S,S=w1.heap.size:=⟨_,rfl⟩
 obtain ⟨w2,hw2⟩:∃ w2,w2=w1.alloc (.cells #[.int .u64 x.tr,.string ⟨x.suf.toArray⟩,.string ⟨x.val.toArray⟩] 88):=⟨_,rfl⟩
 have x2:bY w1 w2:=by rw [hw2]; exact aL _
 have c0:w2.cell? ⟨S,0,none⟩=some (.int .u64 x.tr):=by rw [hw2,hS]; exact bb @aA
 have c1:w2.cell? ⟨S,1,none⟩=some (.string ⟨x.suf.toArray⟩):=by rw [hw2,hS]; exact bb @aA
 have c2:w2.cell? ⟨S,2,none⟩=some (.string ⟨x.val.toArray⟩):=by rw [hw2,hS]; exact bb @aA
 refine fW @hi' @h0 @h1 @h2 ?_
 rw [← hS,← hw2]
 refine mK ?_
 have x3:=i3.trans x2
 by_cases hone:JH x
 rotate_left
 ·rcases (by omega:an x.tr < 19∨21 < an x.tr∨an x.tr=19∨an x.tr=20∨an x.tr=21) with q | q | q | q | q
  ·have q1:(an x.tr:Int) < 19:=by omega
   refine bf @q1 ?_
   exact hk.no x3
  ·have q1:¬ (an x.tr:Int) < 19:=by omega
   have q2:(21:Int) < an x.tr:=by omega
   refine dV @q1 @q2 ?_
   exact hk.no x3
  ·obtain ⟨q1,q2,q3,q4⟩:=kI (x:=x) (a:=true) (b:=false) (by omega) (by simp; omega) (by simp; omega)
   by_cases s1:x.suf=[]
   ·have s2:decide (x.val≠[])=true:=aO fun h=>hone ⟨.inl q,fun _=>s1,fun _=>h⟩
    have s1:decide (x.suf≠[])=false:=by simp [s1]
    refine xS @q1 @q2 @q3 @q4 @c1 @c2 @s1 @s2 ?_
    exact hk.no x3
   ·have s1:decide (x.suf≠[])=true:=by simp [s1]
    refine vR @q1 @q2 @q3 @q4 @c1 @c2 @s1 ?_
    exact hk.no x3
  ·have s2:decide (x.val≠[])=true:=aO fun h=>hone ⟨.inr (.inl q),fun h2=>by omega,fun _=>h⟩
   obtain ⟨q1,q2,q3,q4⟩:=kI (x:=x) (a:=false) (b:=false) (by omega) (by simp; omega) (by simp; omega)
   refine vR @q1 @q2 @q3 @q4 @c1 @c2 @s2 ?_
   exact hk.no x3
  ·exact absurd ⟨.inr (.inr q),fun h2=>by omega,fun h2=>absurd q h2⟩ hone
 have o1:=hone.1
 obtain ⟨a,ha⟩:∃ a,a=decide (an x.tr=19):=⟨_,rfl⟩
 obtain ⟨b,hb⟩:∃ b,b=decide (an x.tr=21):=⟨_,rfl⟩
 obtain ⟨q1,q2,q3,q4⟩:=kI (x:=x) (a:=a) (b:=b) (by omega) (by simp [ha]) (by simp [hb])
 have s1:a=true→decide (x.suf≠[])=false:=fun h=>by simp [hone.2.1 (by simpa [ha] using h)]
 have s2:b=false→decide (x.val≠[])=false:=fun h=>by simp [hone.2.2 (by simpa [hb] using h)]
 have sl:∀ q:aq,dW prog 44 (.slice (some ⟨g,f,none⟩) l.length kc) none (some (.int .i64 (i:Int))) none (yi q w2)=q (.slice (some ⟨g,f,none⟩) i kc) w2:=fun q=>by
  rw [qS Tryz.es44 rfl rfl (by simp [bd]) (by simp [bd]; omega) (by simp [bd]) (by simp)]; simp [bd,yi]
 cases a <;> cases b
 rotate_right
 ·simp at ha hb; omega
 refine vR @q1 @q2 @q3 @q4 @c2 (s2 rfl) @sl ?_
 rotate_left
 refine gH @q1 @q2 @q3 @q4 @sl ?_
 rotate_left
 refine xT @q1 @q2 @q3 @q4 @c1 @c2 (s1 rfl) (s2 rfl) @sl ?_
 rotate_left
 all_goals
  refine bO (fun j:Nat=>[(0,.slice (some ⟨g,f,none⟩) l.length kc),(2,.bool false),(4,.pointer (some ⟨S,0,none⟩)),(5,.int .u8 (an x.tr)),(8,.slice (some ⟨g,f,none⟩) l.length kc),(9,.int .i64 l.length),(10,.int .i64 i),(44,.slice (some ⟨g,f,none⟩) i kc),(45,.int .i64 i),(46,.int .i64 j)])
   (fun j w'=>j≤i∧bY w2 w'∧∀ y ∈ (l.take i).take j,JI y x) (fun j _=>i - j) 0 (by kernel_rfl) ?_ ⟨aQ _,bY.refl _,by simp⟩ ?_
  ·exact bE
  rintro K3 e3 j w3 ⟨j1,j2,j3⟩ hK3
  rcases aH j i with hj | hj
  rotate_left
  ·have hj':¬ (j:Int) < i:=by omega
   refine bf @hj' ?_
   obtain rfl:j=i:=by omega
   rw [List.take_take,Nat.min_self] at j3
   refine hK2 _ _ (j+1) ?_ ⟨hi,x3.trans j2,by rw [bn hx]; exact i4.snoc hone j3⟩ (by omega)
   exact bE
  have hj':(j:Int) < i:=by omega
  obtain ⟨y,hy⟩:∃ y,l[j]? = some y:=⟨_,aC (by omega)⟩
  have hy2:(l.take i)[j]? = some y:=by rw [List.getElem?_take_of_lt hj,hy]
  obtain ⟨p0,p1,p2,p3⟩:=eW (hat j y hy)
  have xx:=x2.trans j2
  have p0:=xx.cell p0
  have p1:=xx.cell p1
  have p2:=xx.cell p2
  have c0:=j2.cell c0
  have c1:=j2.cell c1
  refine fW @hj' @p0 @p1 @p2 ?_
  refine ay (sq [0] (.read 1 (sq [2] (.read 3 (sq [4,5,6] (.read 7 (sq [9] (.read 10 (.eff 8 [10] (.eff 11 [] (sq [12,13,14] (.read 15 (sq [16] (.read 17 (sq [18,19,20,21,22,23] (.read 24 (.eff 25 [] (sq [26,27,28,29] .done)))))))))))))))))) ?_
  obtain ⟨w4,hw4⟩:∃ w4,w4=(w3.alloc (.cells #[.int .u64 y.tr,.string ⟨y.suf.toArray⟩,.string ⟨y.val.toArray⟩] 88)).drew:=⟨_,rfl⟩
  have x4:bY w3 w4:=by rw [hw4]; exact bY.drew' (aL _)
  obtain ⟨T,hT⟩:∃ T,T=w3.heap.size:=⟨_,rfl⟩
  have t0:w4.cell? ⟨T,0,none⟩=some (.int .u64 y.tr):=by rw [hw4,hT]; exact bb @aA
  have t1:w4.cell? ⟨T,1,none⟩=some (.string ⟨y.suf.toArray⟩):=by rw [hw4,hT]; exact bb @aA
  have c0:=x4.cell c0
  have c1:=x4.cell c1
  rw [← hw4,← hT]
  have x5:=(x3.trans j2).trans x4
  by_cases p1:(y.tr:Int) < x.tr
  ·refine eI @t0 @c0 @p1 ?_
   exact hk.no x5
  refine eI @t0 @c0 @p1 ?_
  refine rT ?_
  refine bf @c0 ?_
  refine rT ?_
  by_cases p2:y.tr / 256=x.tr / 256
  rotate_left
  ·have e2:(((y.tr / 256:Nat):Int) == (x.tr / 256:Nat))=false:=beq_false_of_ne (by omega)
   refine bf @e2 ?_
   refine hK3 _ _ (j+1) ?_ ⟨hj,j2.trans x4,ey j3 hy2 ⟨by omega,fun h=>p2 h.1⟩⟩ (by omega)
   exact bE
  have e2:(((y.tr / 256:Nat):Int) == (x.tr / 256:Nat))=true:=beq_iff_eq.2 (by omega)
  by_cases p3:y.suf=x.suf
  rotate_left
  ·simp (disch:=first | exact dZ | fail) only [go_sem,e2,t1,c1,p3]
   refine hK3 _ _ (j+1) ?_ ⟨hj,j2.trans x4,ey j3 hy2 ⟨by omega,fun h=>p3 h.2.1⟩⟩ (by omega)
   exact bE
  simp (disch:=first | exact dZ | fail) only [go_sem,e2,t0,t1,c1,p3]
  refine mK ?_
  by_cases p4:an y.tr=19
  ·have p4':((an y.tr:Int) == 19)=true:=beq_iff_eq.2 (by omega)
   simp (disch:=first | exact dZ | fail) only [go_sem,q3,p4',beq_self_eq_true,Bool.true_beq,Bool.false_beq,Bool.not_false,Bool.not_true]
   first
   | exact hk.no x5
   | refine hK3 _ _ (j+1) ?_ ⟨hj,j2.trans x4,ey j3 hy2 ⟨by omega,fun h=>by simp at ha; omega⟩⟩ (by omega)
     exact bE
  ·have p4':((an y.tr:Int) == 19)=false:=beq_false_of_ne (by omega)
   simp (disch:=first | exact dZ | fail) only [go_sem,q3,p4',beq_self_eq_true,Bool.true_beq,Bool.false_beq,Bool.not_false,Bool.not_true]
   first
   | exact hk.no x5
   | refine hK3 _ _ (j+1) ?_ ⟨hj,j2.trans x4,ey j3 hy2 ⟨by omega,fun h=>by simp at ha; omega⟩⟩ (by omega)
     exact bE
theorem rH {v:Value} {l:List (List Sp)} {n:Nat} (hv:Sl jx 1 d v l) (hl:l.length≤2147483647) (hs:∀ x ∈ l,x.length≤2147483647∧∀ y ∈ x,y.ks.length≤2147483647) (hn:n≤100) (hinc:bz d w) (hk:wK (LvOk l n) k w):aX prog 15 #[v,.int .i64 n] k w:=by
 obtain ⟨ka,kc,rfl⟩:=hv.form
 refine ai [.tmp 4] func15 ?_
 refine al ?_
 refine sg (hv.inc jx.mono hinc) hl hs fun b w1 x1 hb => ?_
 cases b with
 | false =>
  refine al ?_
  exact hk.no x1
 | true =>
  obtain ⟨b1,b2⟩:=hb rfl
  refine al ?_
  have l6:l.length * n≤6 * 100:=Nat.mul_le_mul b1 hn
  have hfl:=eU (Lv:=l) (n:=n) fun L hL=>(b2 L hL).1
  refine qq hv (by omega) (fun x hx=>by have:=(b2 x hx).1; omega) (hinc.trans x1.inc) fun d2 w2 v2 g2 s2 => ?_
  refine al ?_
  refine CO s2 (by omega) (fun x hx => ?_) g2.j fun d3 w3 v3 g3 s3 => ?_
  ·obtain ⟨L,hL,hx⟩:=cQ.1 hx
   exact ((b2 L hL).2.2 x hx).2
  have x3:bY w w3:=(x1.trans g2.x).trans g3.x
  have hfk:∀ f ∈ dq l.flatten,f.ks.length≤2147483647:=fun f hf=>by
   obtain ⟨s,t,e⟩:=As hf
   have:=lG (l:=l.flatten) (s:=s) (e:=t) (m:=40) fun x hx=>by
    obtain ⟨L,hL,hx⟩:=cQ.1 hx
    exact ((b2 L hL).2.2 x hx).2
   rw [e,(cT _).length_eq]
   have h2:l.flatten.length * 40≤600 * 40:=bK _ (by omega)
   omega
  have hfn:=te l.flatten
  obtain ⟨va,vc,rfl⟩:=s3.form
  refine al ?_
  refine bO (fun i:Nat=>[(4,.bool false),(13,.slice va (dq l.flatten).length vc),(14,.int .i64 (dq l.flatten).length),(15,.int .i64 i)])
   (fun i w'=>i≤(dq l.flatten).length∧bY w3 w'∧∀ x ∈ (dq l.flatten).take i,mI x.ks) (fun i _=>(dq l.flatten).length - i) 0 (by kernel_rfl) ?_ ⟨aQ _,bY.refl _,by simp⟩ ?_
  ·exact bE
  rintro K2 e i w1 ⟨i2,i3,i4⟩ hK2
  rcases aH i (dq l.flatten).length with hi | hi
  rotate_left
  ·have hi':¬ (i:Int) < (dq l.flatten).length:=by omega
   obtain rfl:i=(dq l.flatten).length:=by omega
   rw [aT] at i4
   refine bf @hi' ?_
   exact hk.yes (x3.trans i3) ⟨b1,fun L hL=>(b2 L hL).1,fun L hL=>(b2 L hL).2.1,fun L hL=>(b2 L hL).2.2,i4⟩
  have hi':(i:Int) < (dq l.flatten).length:=by omega
  obtain ⟨g,f,c,hv',hc,hat⟩:=(s3.inc dY.mono (g3.j.trans i3.inc)).at (by omega)
  obtain ⟨rfl,rfl⟩:=sEq hv'
  obtain ⟨x,hx⟩:∃ x,(dq l.flatten)[i]? = some x:=⟨_,aC hi⟩
  obtain ⟨h0,h1,a,cc,h2,hkx⟩:=dI (hat i x hx)
  have x4:=aL (w:=w1) (.cells #[.string ⟨x.s.toArray⟩,.string ⟨x.e.toArray⟩,.slice a x.ks.length cc] 46)
  refine gH @hi' @h0 @h1 @h2 @aA ?_
  refine tg (hkx.inc KE.mono x4.inc) (hfk x (aJ hx)) fun b w5 x5 hb => ?_
  have x6:=(i3.trans x4).trans x5
  cases b with
  | false =>
   refine al ?_
   exact hk.no (x3.trans x6)
  | true =>
   refine al ?_
   refine hK2 _ _ (i+1) ?_ ⟨hi,x6,ey i4 hx (hb rfl)⟩ (by omega)
   exact bE
end
end Go.Proofs
end
section
namespace Go.E
open Go Go.Sort Go.Proofs
theorem LoopL.mut {α:Type} {R:gN α} {sz:Nat} {el:TypeId} {d w d1 w1 w2:World} {v:Value} {l:List α} {M:Nat→Nat→Prop} (h:LoopL R sz el d w d1 w1 v l) (k:Keep M w1 w2) (hM:∀ b o,M b o→w.heap.size≤b∧cq d1 b∧v.ownBlock≠some b):LoopL R sz el d w d1 w2 v l:=by
 obtain ⟨css,o⟩:=h.o
 refine ⟨⟨h.g.x.tr k fun b o hb hm=>by have:=(hM b o hm).1; omega,h.g.i,fun b o u hu=>k.some (h.g.j _ _ _ hu) fun hm => ?_,h.g.o⟩,⟨css,o.keep k fun g hg o hm=>(hM g o hm).2.2 hg⟩,h.n⟩
 rw [(hM b o hm).2.1 o] at hu
 simp at hu
theorem cy {w:World} {b o:Nat} {c:Array Value} {t:TypeId} (h:w.heap.size≤b) (h2:b < w.heap.size+1):(w.alloc (.cells c t)).frozen? ⟨b,o,none⟩=false:=by
 obtain rfl:b=w.heap.size:=by omega
 exact World.frozen?_alloc_new w c t o
theorem pU (st:List SV) (k:K):(iC st k).length≤st.length+1:=by
 unfold iC
 split
 ·exact aQ _
 ·rw [aM]
  have:=az (fun x:SV=>decide (x.1≠k.suf)) st
  split
  ·rw [aY]; omega
  ·rw [List.length_nil]; omega
theorem jv (l:List K):(gD [] l).length≤l.length:=by
 unfold gD
 rw [lB]
 have:∀ l:List K,(l.reverse.foldl iC []).length≤l.length:=by
  intro l
  induction l with
  | nil=>simp
  | cons x l ih =>
   rw [List.reverse_cons,List.foldl_append,ag]
   exact aU (pU _ _) (by omega)
 exact this l
theorem wT (out:List Sp) (x:Sp):(ee out x).length≤out.length+1:=by
 unfold ee
 split
 ·rename_i y h
  split
  ·rw [aM,List.length_dropLast,aY]; omega
  ·simp
 ·simp
theorem wU (l out:List Sp):(l.foldl ee out).length≤out.length+l.length:=by
 induction l generalizing out with
 | nil=>simp
 | cons x l ih =>
  rw [List.foldl_cons,ag]
  have h1:=ih (ee out x)
  have h2:=wT out x
  omega
theorem LG {d:World} {N:Nat} {kv:Value} {x:Sp} (h0:d.cell? ⟨N,0,none⟩=some (.string ⟨x.s.toArray⟩)) (h1:d.cell? ⟨N,1,none⟩=some (.string ⟨x.e.toArray⟩)) (h2:d.cell? ⟨N,2,none⟩=some kv) (hk:Sl KE 3 d kv x.ks):Sl dY 3 d (.slice (some ⟨N,0,none⟩) 1 1) [x]:=by
 refine ⟨fun _=>rfl,rfl,aD _,fun i y hy => ?_⟩
 rcases i with _ | i
 ·obtain rfl:x=y:=by simpa using hy
  refine ⟨[str x.s,str x.e,kv],rfl,fun j u hu => ?_,_,rfl,hk⟩
  match j,hu with
  | 0,hu=>obtain rfl:=bQ hu; exact h0
  | 1,hu=>obtain rfl:=bQ hu; exact h1
  | 2,hu=>obtain rfl:=bQ hu; exact h2
 ·simp at hy
theorem qM {w:World} {g o:Nat} {x:An} (h:Fb zZ 5 w g o x):w.cell? ⟨g,o,none⟩=some (.bool x.dn)∧w.cell? ⟨g,o+1,none⟩=some (.bool x.ok)∧w.cell? ⟨g,o+2,none⟩=some (.string ⟨x.sp.s.toArray⟩)∧w.cell? ⟨g,o+3,none⟩=some (.string ⟨x.sp.e.toArray⟩)∧∃ a c,w.cell? ⟨g,o+4,none⟩=some (.slice a x.sp.ks.length c)∧Sl KE 3 w (.slice a x.sp.ks.length c) x.sp.ks:=by
 obtain ⟨cs,_,hcs,v,rfl,h⟩:=h
 obtain ⟨a,c,rfl⟩:=h.form
 exact ⟨hcs 0 _ rfl,hcs 1 _ rfl,hcs 2 _ rfl,hcs 3 _ rfl,a,c,hcs 4 _ rfl,h⟩
theorem zx (V:List Sp) (p:Int) (got:Bool) (last:Nat) (steps:List (Nat × Bytes)):(qE V p got last steps).length=steps.length:=by
 induction steps generalizing p got last with
 | nil=>rfl
 | cons x r ih =>
  obtain ⟨op,key⟩:=x
  show (if ug op got last then _ else _:List (Option Int)).length=_
  split <;> rw [ag,ih,ag]
end Go.E
end
section
namespace Go.E
open Go Go.Sort Go.Proofs
section
variable {Lv:List (List Sp)} {n:Nat}
theorem LvOk.cdF (h:LvOk Lv n) (u:Nat):Cd (cM Lv.length (de Lv) (bH Lv.flatten) u):=by
 have hB:=iS h.wf
 have h0:py Lv.length (de Lv) (bH Lv.flatten) u=false→Cd (cM Lv.length (de Lv) (bH Lv.flatten) u):=fun hcv=>by
  have h0:cM Lv.length (de Lv) (bH Lv.flatten) u=[]:=by
   unfold cM
   refine List.flatMap_eq_nil_iff.2 fun i hi => ?_
   rw [if_neg fun h1 => ?_]
   rw [ma.2 ⟨i,List.mem_range.1 hi,h1⟩] at hcv
   cases hcv
  rw [h0]
  exact ⟨.nil,by simp⟩
 rcases aH (bH Lv.flatten).length u with hu | hu
 ·have hf:=mG h.wf [] u fun i hi=>by
    unfold cp
    rw [if_neg (by omega),getElem!_neg (bH Lv.flatten) (u - 1) (by omega)]
    rfl
  rw [hf]
  exact h.cd []
 cases hcv:py Lv.length (de Lv) (bH Lv.flatten) u with
 | true =>
  have hm:(⟨(bH Lv.flatten)[u - 1]!,(bH Lv.flatten)[u]!,cH (cM Lv.length (de Lv) (bH Lv.flatten) u)⟩:Sp) ∈ dq Lv.flatten:=by
   rw [pM h.wf fun L hL s hs=>(h.ks L hL s hs).1,bV]
   exact ⟨_,eJ.2 ⟨hu,hcv⟩,rfl⟩
  exact (h.rk _ hm).cd.perm (cT _)
 | false=>exact h0 hcv
theorem Ed {l:List Sp} {snap m:Nat} {lo hi:Option Bytes} (h:∀ x ∈ l,x.ks.length≤m):∀ x ∈ um l snap lo hi,x.ks.length≤l.length * m:=by
 have hm:∀ x ∈ ((jk l snap).filter (E4 lo hi)).map iJ,x.ks.length≤l.length * m:=fun x hx=>by
  obtain ⟨y,hy,rfl⟩:=bV.1 hx
  have hy:=(aN.1 hy).1
  unfold jk at hy
  obtain ⟨f,hf,rfl⟩:=bV.1 hy
  obtain ⟨s,t,e⟩:=As hf
  have h1:=lG (l:=l) (s:=s) (e:=t) h
  have h2:=jv (tc snap f.ks)
  have h3:(tc snap f.ks).length≤f.ks.length:=az _ _
  rw [e,(cT _).length_eq] at h3
  show ((gD [] (tc snap f.ks)).map eF).length≤_
  rw [ah,e]
  rw [e] at h2
  omega
 unfold um
 generalize ((jk l snap).filter (E4 lo hi)).map iJ=q at hm
 have aux:∀ (q out:List Sp),(∀ x ∈ q,x.ks.length≤l.length * m)→(∀ x ∈ out,x.ks.length≤l.length * m)→∀ x ∈ q.foldl ee out,x.ks.length≤l.length * m:=by
  intro q
  induction q with
  | nil=>exact fun out _ h=>h
  | cons y q ih =>
   intro out h1 h2
   rw [List.foldl_cons]
   refine ih _ (fun x hx=>h1 x (aj _ hx)) fun x hx => ?_
   have hy:=h1 y aR
   unfold ee at hx
   split at hx
   ·rename_i z hz
    have hzm:=h2 z (List.mem_of_getLast? hz)
    split at hx
    ·rcases ax.1 hx with hx | hx
     ·exact h2 x (List.dropLast_subset _ hx)
     ·rw [ae.1 hx]; exact hzm
    ·rcases ax.1 hx with hx | hx
     ·exact h2 x hx
     ·rw [ae.1 hx]; exact hy
   ·rw [ae.1 hx]; exact hy
 exact aux q [] hm (by simp)
end
end Go.E
end
section
namespace Go.E
open Go Go.Sort Go.Proofs
theorem Au (G:List Sp):GB G none none=G:=by
 show (G.take G.length).drop 0=G
 rw [aT,List.drop_zero]
theorem pV (x:Sp):(cR x).ks=x.ks.map fun y=>eF y.sv:=by unfold cR; rw [cl]; rfl
theorem CQ (V:List Sp):(V.map cR).filter (fun s=>decide (s.ks≠[]))=(eu V).map cR:=by
 unfold eu
 rw [List.filter_map]
 congr 1
 refine List.filter_congr fun s _ => ?_
 rw [Function.comp_apply,pV,decide_eq_decide,ne_eq,ne_eq,List.map_eq_nil_iff]
def HP (m:Nat):List (Nat × Bytes):=(0,[]) :: List.replicate m (2,[])
def LH (m:Nat):List (Nat × Bytes):=(1,[]) :: List.replicate m (3,[])
theorem CR {V:List Sp} {KS:List K→Prop} {m:Nat} {l:List An} (hm:V.length≤m+1) (h:Pw (mz V (E1 KS)) (qE V (-2) false 0 (HP m)) l):(mH l).map cR=V.map cR:=by
 rw [(EU h).1]
 unfold HP
 rw [CH V m hm]
 exact wH V
theorem zy {V l:List Sp} {m:Nat} (h:l.map cR=V.map cR) (hm:∀ x ∈ V,x.ks.length≤m):∀ x ∈ l,x.ks.length≤m:=fun x hx=>by
 have h1:cR x ∈ V.map cR:=by rw [← h]; exact List.mem_map_of_mem hx
 obtain ⟨y,hy,e⟩:=bV.1 h1
 have:=congrArg (fun s:Sp=>s.ks.length) e
 simp only [pV,ah] at this
 rw [← this]
 exact hm y hy
section
variable {Lv:List (List Sp)} {n snap:Nat} {x:Bytes}
end
section
variable {Lv:List (List Sp)} {n snap:Nat}
theorem Ee (lo:LvOk Lv n) (hn:n≤900) (hsn:snap < 18446744073709551616) (f2:∀ x ∈ Lv,x.length≤2147483647∧∀ y ∈ x,rG y) {l h:Option Bytes} (hb:xw l h):RIn Lv snap l h :=
 ⟨by have:=lo.n6; omega,hsn,lo.wf,fun L h=>⟨by have:=lo.sz L h; omega,fun s hs=>by
  obtain ⟨q1,q2,q3,q4⟩:=(f2 L h).2 s hs
  refine ⟨by omega,by omega,by have:=(lo.ks L h s hs).2; omega,(lo.ks L h s hs).1,fun x hx => ?_⟩
  obtain ⟨q5,q6⟩:=q4 x hx
  exact ⟨by omega,by omega⟩⟩,lo.cdF,hb⟩
theorem qN:xw none none:=fun l h hl=>by cases hl
theorem CS (Lv:List (List Sp)) (snap:Nat):(rV Lv snap none none).length≤2 * Lv.flatten.length+1:=by
 rw [rV,Au]
 exact yQ Lv snap
theorem JJ {m:Nat} (r:RIn Lv snap none none) (hm:∀ L ∈ Lv,∀ s ∈ L,s.ks.length≤m):∀ x ∈ rV Lv snap none none,x.ks.length≤Lv.flatten.length * m:=fun x hx=>by
 have hv:um Lv.flatten snap none none=(rV Lv snap none none).map cR:=Al r.wf (fun L h s hs=>((r.len L h).2 s hs).2.2.2.1) r.cd none none
 have:=Ed (l:=Lv.flatten) (snap:=snap) (m:=m) (lo:=none) (hi:=none) (fun y hy=>by
  obtain ⟨L,hL,hy⟩:=cQ.1 hy
  exact hm L hL y hy) (cR x) (by rw [hv]; exact List.mem_map_of_mem hx)
 rw [pV,ah] at this
 exact this
theorem JK (m:Nat):Fl none none (HP m)∧True:=by
 refine ⟨fun x hx => ?_,trivial⟩
 have h:x=(0,[])∨x=(2,[]):=by
  rcases ak.1 hx with h | h
  ·exact .inl h
  ·exact .inr (List.eq_of_mem_replicate h)
 rcases h with rfl | rfl
 ·exact ⟨fun _=>rfl,fun h=>by simp at h,fun h=>by simp at h,by decide⟩
 ·exact ⟨fun _=>rfl,fun h=>by simp at h,fun h=>by simp at h,by decide⟩
theorem uy (m:Nat):(HP m).length=m+1∧(LH m).length=m+1:=by simp [HP,LH]
end
end Go.E
end
section
namespace Go.E
open Go Go.Sort Go.Proofs
def KU (l:List K):Prop:=l.Pairwise fun x y=>y.tr≤x.tr
theorem yW (a:Sp) (l:List Sp) (x:Bytes):iD (a :: l) x=(if fA x a then a.ks else [])++iD l x:=by unfold iD; rw [bj]
theorem sj {l:List Sp} {x:Bytes} (h:∀ s ∈ l,fA x s=false):iD l x=[]:=by
 unfold iD
 exact List.flatMap_eq_nil_iff.2 fun s hs=>by rw [h s hs]; rfl
end Go.E
end
section
namespace Go.E
open Go Go.Sort Go.Proofs
section
variable {l P out:List Sp} {q:Bytes} {s:Sp}
end
end Go.E
end
section
namespace Go.E
open Go Go.Sort Go.Proofs
theorem CT {α:Type} [DecidableEq α]:∀ {A B:List α},A.Pairwise (· ≠ ·)→(∀ a ∈ A,a ∈ B)→A.length≤B.length:=by
 intro A
 induction A with
 | nil=>intro B _ _; exact aQ _
 | cons a A ih =>
  intro B h hB
  have ha:=hB a aR
  have h1:=ih (B:=B.erase a) h.of_cons fun x hx=>(List.mem_erase_of_ne (bF h hx).symm).2 (hB x (aj _ hx))
  have h2:=List.length_erase_of_mem ha
  have h3:=List.length_pos_of_mem ha
  rw [ag]
  omega
theorem z8 {l out:List Sp} (h:Ch out) (hs:∀ f ∈ out,∃ y ∈ l,f.s=y.s∨f.s=y.e):out.length≤2 * l.length:=by
 refine aU ?_ (eT l)
 rw [← ah (f:=Sp.s)]
 refine CT ?_ fun x hx => ?_
 ·rw [List.pairwise_map]
  refine (List.Pairwise.and_mem.1 h.2).imp ?_
  rintro a b ⟨ha,_,hab⟩ he
  have:=h.1 a ha
  rw [he] at this
  exact hab this
 ·obtain ⟨f,hf,rfl⟩:=bV.1 hx
  exact ((iR l).2 _).2 (hs f hf)
structure FrOut (l F:List Sp):Prop where
 ch:Ch F
 ne:∀ f ∈ F,f.ks≠[]∧KU f.ks
 pt:∀ x,(iD F x).Perm (iD l x)
 str:∀ f ∈ F,(∃ y ∈ l,f.s=y.s∨f.s=y.e)∧∃ y ∈ l,f.e=y.s∨f.e=y.e
 key:∀ f ∈ F,∀ k ∈ f.ks,∃ y ∈ l,k ∈ y.ks
theorem Fu {F:List Sp} {f:Sp} (h:Ch F) (hf:f ∈ F):f.ks.Sublist (iD F f.s):=by
 unfold iD
 induction F with
 | nil=>cases hf
 | cons a F ih =>
  rw [bj]
  rcases ak.1 hf with rfl | hf
  ·rw [if_pos (jZ.2 ⟨bU _,h.1 f aR⟩)]
   exact List.sublist_append_left _ _
  ·exact (ih ⟨fun t ht=>h.1 t (aj _ ht),h.2.of_cons⟩ hf).trans (List.sublist_append_right _ _)
theorem HQ {F:List Sp} {f:Sp} (h:Ch F) (hf:f ∈ F):f.ks.length≤(iD F f.s).length:=(Fu h hf).length_le
theorem CU {a b:List K} (p:a.Perm b):cH a=cH b:=by
 have h1:(cH a).Perm (cH b):=(cT a).trans (p.trans (cT b).symm)
 have s1:=jJ qJ a
 have s2:=jJ qJ b
 refine List.Perm.eq_of_pairwise (fun x y _ _ q1 q2 => ?_) s1 s2 h1
 have q1:=gj.1 q1
 have q2:=gj.1 q2
 obtain ⟨xt,xs,xv⟩:=x
 obtain ⟨yt,ys,yv⟩:=y
 simp only at q1 q2
 rcases q1 with q1 | ⟨t1,q1⟩
 ·rcases q2 with q2 | ⟨t2,_⟩ <;> omega
 rcases q2 with q2 | ⟨_,q2⟩
 ·omega
 rcases q1 with q1 | ⟨e1,q1⟩
 ·rcases q2 with q2 | ⟨e2,_⟩
  ·exact absurd q2 (gT q1)
  ·rw [e2] at q1; exact absurd q1 (bU _)
 rcases q2 with q2 | ⟨_,q2⟩
 ·rw [e1] at q2; exact absurd q2 (bU _)
 have e3:xv=yv:=eE q2 q1
 subst t1 e1 e3
 rfl
theorem JL {snap:Nat} {a b:List K} (h:Cd a) (p:a.Perm b):(Tf snap a).map K.sv=(Tf snap b).map K.sv:=by
 rw [← pN h,← pN (h.perm p),CU p]
end Go.E
end
section
namespace Go.E
open Go Go.Sort Go.Proofs
theorem Av {t:Nat} (h:t < 18446744073709551616):fu 18446744073709551615 t=true:=by
 unfold fu
 rw [Bool.or_eq_true]
 left
 rw [decide_eq_true_eq]
 omega
theorem HR {snap:Nat} {a b:List K} (ha:Cd a) (hb:Cd b) (hs:∀ x ∈ a,x ∈ b) (h1:∀ x ∈ b,zP snap b x=true→x ∈ a) (h2:∀ x ∈ a,zP snap a x=true→zP snap b x=true):Tf snap a=Tf snap b:=by
 refine ki (mZ ha) (mZ hb) fun x => ?_
 rw [jt,jt]
 constructor
 ·rintro ⟨p,q⟩
  exact ⟨hs x p,h2 x p q⟩
 ·rintro ⟨p,q⟩
  refine ⟨h1 x p q,?_⟩
  rw [gA] at q ⊢
  exact ⟨q.1,q.2.1,fun y hy=>q.2.2 y (hs y hy)⟩
structure CoK (a b:List K):Prop where
 ne:b≠[]
 sub:∀ x ∈ b,x ∈ a
 len:b.length≤a.length+1
 cd:Cd b
 tf:(Tf 72057594037927935 b).map K.sv=(Tf 72057594037927935 a).map K.sv
inductive CoL:List Sp→List Sp→Prop
 | nil:CoL [] []
 | snoc {F G:List Sp} {f:Sp} {ks:List K} (h:CoL F G) (hk:CoK f.ks ks):CoL (F++[f]) (G++[⟨f.s,f.e,ks⟩])
theorem CoL.len {F G:List Sp} (h:CoL F G):G.length=F.length:=by
 induction h with
 | nil=>rfl
 | snoc h hk ih=>rw [aM,aM,ih]; rfl
theorem CoL.mem {F G:List Sp} (h:CoL F G):∀ g ∈ G,∃ f ∈ F,g.s=f.s∧g.e=f.e∧CoK f.ks g.ks:=by
 induction h with
 | nil=>simp
 | @snoc F G f ks h hk ih =>
  intro g hg
  rcases ax.1 hg with hg | hg
  ·obtain ⟨f,hf,q⟩:=ih g hg
   exact ⟨f,List.mem_append_left _ hf,q⟩
  ·obtain rfl:=ae.1 hg
   exact ⟨f,by simp,rfl,rfl,hk⟩
theorem CoL.ch {F G:List Sp} (h:CoL F G) (hc:Ch F):Ch G:=by
 refine ⟨fun g hg => ?_,?_⟩
 ·obtain ⟨f,hf,e1,e2,_⟩:=h.mem g hg
  rw [e1,e2]; exact hc.1 f hf
 ·have hp:=hc.2
  clear hc
  induction h with
  | nil=>exact .nil
  | @snoc F G f ks h hk ih =>
   obtain ⟨p1,_,p3⟩:=List.pairwise_append.1 hp
   refine List.pairwise_append.2 ⟨ih p1,by simp,fun a ha b hb => ?_⟩
   obtain rfl:=ae.1 hb
   obtain ⟨f',hf',_,e2,_⟩:=h.mem a ha
   rw [e2]
   exact p3 f' hf' f (by simp)
theorem CoL.pt {F G:List Sp} (h:CoL F G) (hc:Ch F) (x:Bytes):iD F x=[]∧iD G x=[]∨CoK (iD F x) (iD G x):=by
 induction h with
 | nil=>exact .inl ⟨rfl,rfl⟩
 | @snoc F G f ks h hk ih =>
  have hc1:Ch F:=⟨fun s hs=>hc.1 s (List.mem_append_left _ hs),(List.pairwise_append.1 hc.2).1⟩
  have h1:∀ k,iD [⟨f.s,f.e,k⟩] x=if fA x f then k else []:=fun k=>by
   rw [yW]
   show (if fA x ⟨f.s,f.e,k⟩ then k else [])++[]=_
   rw [au]
   rfl
  have h1f:iD [f] x=if fA x f then f.ks else []:=h1 f.ks
  rw [lD,lD,h1f,h1 ks]
  by_cases hx:fA x f=true
  ·rw [if_pos hx,if_pos hx]
   have hnF:∀ s,s.s < s.e→¬ f.s < s.e→fA x s=false:=fun s _ hs=>Bool.eq_false_iff.2 fun h=>(jZ.1 hx).1 (cJ (jZ.1 h).2 hs)
   have e1:iD F x=[]:=sj fun s hs=>hnF s (hc1.1 s hs) ((List.pairwise_append.1 hc.2).2.2 s hs f (by simp))
   have e2:iD G x=[]:=sj fun s hs=>by
    obtain ⟨f',hf',q1,q2,_⟩:=h.mem s hs
    exact hnF s (by rw [q1,q2]; exact hc1.1 f' hf') (by rw [q2]; exact (List.pairwise_append.1 hc.2).2.2 f' hf' f (by simp))
   rw [e1,e2]
   exact .inr hk
  ·rw [if_neg hx,if_neg hx,au,au]
   exact ih hc1
end Go.E
end
section
namespace Go.E
open Go Go.Sort Go.Proofs
section
variable {β:Type} [DecidableEq β] {π:K→β} {φ:List K→List K}
def iE (φ:List K→List K) (x:Sp):Sp:=⟨x.s,x.e,φ x.ks⟩
def E7 (π:K→β) (G:List Sp) (m:Nat):List Sp:=(List.range ((List.range m).filter (gJ π G)).length).map fun p =>
 ⟨G[((List.range m).filter (gJ π G))[p]!]!.s,G[(if p+1 < ((List.range m).filter (gJ π G)).length then ((List.range m).filter (gJ π G))[p+1]! else m) - 1]!.e,G[((List.range m).filter (gJ π G))[p]!]!.ks⟩
theorem z9 (h0:∀ l,φ l≠[]↔l≠[]) (hφ:∀ a b,φ a=φ b↔a.map π=b.map π) (G:List Sp) {m:Nat} (hm:m≤G.length):((G.take m).map (iE φ)).foldl ee []=(E7 π G m).map (iE φ)∧(0 < m→∃ j,((List.range m).filter (gJ π G)).getLast? = some j∧j < m∧G[j]!.ks.map π=G[m - 1]!.ks.map π):=by
 induction m with
 | zero=>exact ⟨rfl,fun h=>absurd h (dE 0)⟩
 | succ m ih =>
  obtain ⟨ih1,ih2⟩:=ih (by omega)
  have hG:G.take (m+1)=G.take m++[G[m]!]:=by rw [List.take_add_one,aC (by omega:m < G.length),aG G m (by omega)]; rfl
  rw [hG,bC,List.foldl_append,ih1,List.map_singleton,List.foldl_cons,List.foldl_nil]
  obtain ⟨S,hS⟩:∃ S,S=(List.range m).filter (gJ π G):=⟨_,rfl⟩
  have hS1:(List.range (m+1)).filter (gJ π G)=if gJ π G m then S++[m] else S:=by
   rw [List.range_succ,List.filter_append,← hS]
   cases h:gJ π G m with
   | true=>rw [List.filter_cons_of_pos h]; rfl
   | false=>rw [List.filter_cons_of_neg (by rw [h]; simp)]; simp
  have hVm:E7 π G m=(List.range S.length).map fun p=>⟨G[S[p]!]!.s,G[(if p+1 < S.length then S[p+1]! else m) - 1]!.e,G[S[p]!]!.ks⟩:=by unfold E7; rw [← hS]
  rcases bB m with rfl | hm0
  ·have h0:gJ π G 0=true:=aO (.inl rfl)
   rw [h0] at hS1
   have hS0:S=[]:=by rw [hS]; rfl
   rw [if_pos rfl,hS0,List.nil_append] at hS1
   refine ⟨?_,fun _=>⟨0,by rw [hS1]; rfl,by omega,rfl⟩⟩
   rw [hVm,hS0]
   show ee [] (iE φ G[0]!)=_
   unfold E7
   rw [hS1]
   rfl
  ·obtain ⟨j,hj,hjm,hje⟩:=ih2 hm0
   rw [← hS] at hj
   obtain ⟨S',rfl⟩:∃ S',S=S'++[j]:=List.getLast?_eq_some_iff.1 hj
   have hlast:E7 π G m=((List.range S'.length).map fun p=>(⟨G[(S'++[j])[p]!]!.s,G[(S'++[j])[p+1]! - 1]!.e,G[(S'++[j])[p]!]!.ks⟩:Sp))++[⟨G[j]!.s,G[m - 1]!.e,G[j]!.ks⟩]:=by
    rw [hVm,aM,aY,List.range_succ,bC]
    congr 1
    ·refine List.map_congr_left fun p hp => ?_
     rw [List.mem_range] at hp
     rw [if_pos (by omega)]
    ·simp only [List.map_cons,List.map_nil]
     rw [if_neg (by omega)]
     have:(S'++[j])[S'.length]! = j:=by rw [aG (S'++[j]) S'.length (by simp)]; simp
     rw [this]
   have hjoin:gJ π G m=decide (¬ (G[m - 1]!.e=G[m]!.s∧G[m]!.ks≠[]∧G[m - 1]!.ks.map π=G[m]!.ks.map π)):=by
    unfold gJ
    refine decide_eq_decide.2 ?_
    have hh:fL π G (m - 1)↔m - 1+1 < G.length∧G[m - 1]!.e=G[m - 1+1]!.s∧G[m - 1]!.ks≠[]∧G[m - 1]!.ks.map π=G[m - 1+1]!.ks.map π:=Iff.rfl
    rw [hh,show m - 1+1=m by omega]
    constructor
    ·rintro (h | h)
     ·omega
     ·rintro ⟨h1,h2,h3⟩
      exact h ⟨by omega,h1,fun h4=>h2 (by rw [h4] at h3; simpa using h3.symm),h3⟩
    ·intro h
     refine .inr fun ⟨_,h1,h2,h3⟩=>h ⟨h1,fun h4=>h2 (by rw [h4] at h3; simpa using h3),h3⟩
   rw [hlast,bC,List.map_singleton]
   unfold ee
   rw [List.getLast?_append,List.getLast?_singleton]
   simp only [Option.or_some,Option.some_or]
   have hb1:((iE φ G[m]!).ks≠[])↔G[m]!.ks≠[]:=h0 _
   have hb2:((iE φ (⟨G[j]!.s,G[m - 1]!.e,G[j]!.ks⟩:Sp)).ks=(iE φ G[m]!).ks)↔G[m - 1]!.ks.map π=G[m]!.ks.map π:=by
    rw [← hje]
    exact hφ _ _
   by_cases hc:G[m - 1]!.e=G[m]!.s∧G[m]!.ks≠[]∧G[m - 1]!.ks.map π=G[m]!.ks.map π
   ·rw [if_pos (by refine ⟨hc.1,hb1.2 hc.2.1,hb2.2 hc.2.2⟩)]
    have hst:gJ π G m=false:=by rw [hjoin]; exact aF fun h=>h hc
    rw [hst,if_neg (by simp)] at hS1
    refine ⟨?_,fun _=>⟨j,by rw [hS1]; exact hj,by omega,by rw [show m+1 - 1=m by omega,hje,hc.2.2]⟩⟩
    rw [List.dropLast_concat]
    unfold E7
    rw [hS1,aM,aY,List.range_succ,bC,bC]
    congr 1
    ·rw [cl,cl]
     refine List.map_congr_left fun p hp => ?_
     rw [List.mem_range] at hp
     simp only [Function.comp]
     rw [if_pos (by omega)]
    ·simp only [List.map_cons,List.map_nil]
     rw [if_neg (by omega)]
     have:(S'++[j])[S'.length]! = j:=by rw [aG (S'++[j]) S'.length (by simp)]; simp
     rw [this,show m+1 - 1=m by omega]
     rfl
   ·rw [if_neg (by rintro ⟨h1,h2,h3⟩; exact hc ⟨h1,hb1.1 h2,hb2.1 h3⟩)]
    have hst:gJ π G m=true:=by rw [hjoin]; exact aO hc
    rw [hst,if_pos rfl] at hS1
    refine ⟨?_,fun _=>⟨m,by rw [hS1]; simp,by omega,by rw [show m+1 - 1=m by omega]⟩⟩
    rw [show (List.map (iE φ) (List.map (fun p=>(⟨G[(S'++[j])[p]!]!.s,G[(S'++[j])[p+1]! - 1]!.e,G[(S'++[j])[p]!]!.ks⟩:Sp)) (List.range S'.length))++[iE φ ⟨G[j]!.s,G[m - 1]!.e,G[j]!.ks⟩])=(E7 π G m).map (iE φ) by rw [hlast,bC]; rfl]
    have hV1:E7 π G (m+1)=(List.range (S'++[j]++[m]).length).map fun p=>(⟨G[(S'++[j]++[m])[p]!]!.s,G[(if p+1 < (S'++[j]++[m]).length then (S'++[j]++[m])[p+1]! else m+1) - 1]!.e,G[(S'++[j]++[m])[p]!]!.ks⟩:Sp):=by unfold E7; rw [hS1]
    have hl1:(S'++[j]++[m]).length=(S'++[j]).length+1:=by simp
    rw [hV1,hVm,hl1,List.range_succ,bC,bC]
    congr 1
    ·rw [cl,cl]
     refine List.map_congr_left fun p hp => ?_
     rw [List.mem_range] at hp
     simp only [Function.comp]
     have e1:(S'++[j]++[m])[p]! = (S'++[j])[p]! := by rw [aG (S'++[j]++[m]) p (by simp only [aM,aY] at hp ⊢; omega),aG (S'++[j]) p hp,List.getElem_append_left hp]
     rw [e1,if_pos (show p+1 < (S'++[j]).length+1 by omega)]
     by_cases hp1:p+1 < (S'++[j]).length
     ·have e2:(S'++[j]++[m])[p+1]! = (S'++[j])[p+1]! := by rw [aG (S'++[j]++[m]) (p+1) (by simp only [aM,aY] at hp1 ⊢; omega),aG (S'++[j]) (p+1) hp1,List.getElem_append_left hp1]
      rw [if_pos hp1,e2]
     ·have hpe:p+1=(S'++[j]).length:=by omega
      have e2:(S'++[j]++[m])[p+1]! = m:=by rw [hpe,aG (S'++[j]++[m]) _ (by simp only [aM,aY]; omega)]; simp
      rw [if_neg hp1,e2]
    ·simp only [List.map_cons,List.map_nil]
     rw [if_neg (by omega)]
     have:(S'++[j]++[m])[(S'++[j]).length]! = m:=by rw [aG (S'++[j]++[m]) _ (by simp only [aM,aY]; omega)]; simp
     rw [this,show m+1 - 1=m by omega]
theorem Ef (h0:∀ l,φ l≠[]↔l≠[]) (hφ:∀ a b,φ a=φ b↔a.map π=b.map π) (G:List Sp):(G.map (iE φ)).foldl ee []=(Vw π G).map (iE φ):=by
 have:=(z9 h0 hφ G (aD G.length)).1
 rwa [aT,show E7 π G G.length=Vw π G from rfl] at this
end
theorem Fv (G:List Sp):G.foldl ee []=Vw id G:=by
 have:=Ef (π:=id) (φ:=id) (fun _=>Iff.rfl) (fun a b=>by rw [List.map_id,List.map_id]; rfl) G
 have e:∀ l:List Sp,l.map (iE id)=l:=fun l=>List.map_id'' (fun _=>rfl) l
 rwa [e,e] at this
def v55 (ks:List K):Prop:=∀ x ∈ ks,x.tr / 256 < 36028797018963968
theorem v55.sub {a b:List K} (h:v55 a) (hs:∀ x ∈ b,x ∈ a):v55 b:=fun x hx=>h x (hs x hx)
theorem v55.flt {a:List K} (h:v55 a) (p:K→Bool):v55 (a.filter p):=h.sub fun _ hx=>(aN.1 hx).1
theorem mL {s:Nat} {x:K} (h:x.tr / 256 < 36028797018963968):fu s x.tr=ef s x:=by
 unfold fu ef
 rw [GK h]
 simp
theorem pW {l:List K} {y:K} (h:y ∈ nJ l):y ∈ l:=wA (vz.1 h)
def Ju (y x:K):Prop:=(an y.tr=19→y.tr < x.tr)∧(an y.tr≠19→y.suf=x.suf→y.tr≤x.tr)
theorem pX {A:List K} {x:K} (h:v55 A) (h9:an x.tr≠19):x ∈ nJ A↔x ∈ A∧∀ y ∈ A,Ju y x:=by
 have hv:∀ y ∈ A,fu 18446744073709551615 y.tr=true:=fun y hy=>Av (by have:=h y hy; omega)
 rw [show x ∈ nJ A↔x ∈ zf 18446744073709551615 A from vz]
 unfold zf
 rw [ax,qF,kH]
 constructor
 ·rintro (⟨h1,h2,h3,h4⟩ | h1)
  ·exact ⟨h1,fun y hy=>h4 y hy (hv y hy)⟩
  ·exfalso
   unfold tX at h1
   have h2:=List.mem_of_mem_take h1
   rw [List.mem_mergeSort] at h2
   have h3:=(aN.1 h2).2
   unfold rF at h3
   simp only [bN,decide_eq_true_eq] at h3
   exact h9 h3.2
 ·rintro ⟨h1,h2⟩
  exact .inl ⟨h1,hv x h1,h9,fun y hy _=>h2 y hy⟩
theorem Li {A:List K} {y:K} (h:v55 A) (hy:y ∈ A) (h9:an y.tr=19):∃ z ∈ nJ A,an z.tr=19:=by
 have hm:y ∈ (A.filter (rF 18446744073709551615)).mergeSort ze:=by
  rw [List.mem_mergeSort]
  refine aN.2 ⟨hy,?_⟩
  unfold rF
  rw [Av (by have:=h y hy; omega)]
  simp [h9]
 obtain ⟨z,l,e⟩:∃ z l,(A.filter (rF 18446744073709551615)).mergeSort ze=z :: l:=by
  cases hc:(A.filter (rF 18446744073709551615)).mergeSort ze with
  | nil=>rw [hc] at hm; simp at hm
  | cons z l=>exact ⟨z,l,rfl⟩
 have hz:z ∈ (A.filter (rF 18446744073709551615)).mergeSort ze:=by rw [e]; exact aR
 rw [List.mem_mergeSort] at hz
 have hz2:=(aN.1 hz).2
 unfold rF at hz2
 simp only [bN,decide_eq_true_eq] at hz2
 refine ⟨z,vz.2 ?_,hz2.2⟩
 unfold zf tX
 rw [e]
 exact List.mem_append_right _ (by simp)
theorem Eg {A:List K} {y:K} (hy:y ∈ A) (h9:an y.tr≠19):∃ z ∈ A,an z.tr≠19∧z.suf=y.suf∧∀ u ∈ A,an u.tr≠19→u.suf=y.suf→u.tr≤z.tr:=by
 have key:∀ l:List K,(∃ z ∈ l,an z.tr≠19∧z.suf=y.suf)→∃ z ∈ l,an z.tr≠19∧z.suf=y.suf∧∀ u ∈ l,an u.tr≠19→u.suf=y.suf→u.tr≤z.tr:=by
  intro l
  induction l with
  | nil=>rintro ⟨z,hz,_⟩; simp at hz
  | cons a l ih =>
   intro hex
   by_cases hl:∃ z ∈ l,an z.tr≠19∧z.suf=y.suf
   ·obtain ⟨z,hz,h1,h2,h3⟩:=ih hl
    by_cases ha:(an a.tr≠19∧a.suf=y.suf)∧z.tr < a.tr
    ·refine ⟨a,aR,ha.1.1,ha.1.2,fun u hu hu1 hu2 => ?_⟩
     rcases ak.1 hu with rfl | hu
     ·exact aD _
     ·have:=h3 u hu hu1 hu2; omega
    ·refine ⟨z,aj _ hz,h1,h2,fun u hu hu1 hu2 => ?_⟩
     rcases ak.1 hu with rfl | hu
     ·exact Nat.le_of_not_lt fun h=>ha ⟨⟨hu1,hu2⟩,h⟩
     ·exact h3 u hu hu1 hu2
   ·obtain ⟨z,hz,h1,h2⟩:=hex
    rcases ak.1 hz with rfl | hz
    ·refine ⟨z,aR,h1,h2,fun u hu hu1 hu2 => ?_⟩
     rcases ak.1 hu with rfl | hu
     ·exact aD _
     ·exact absurd ⟨u,hu,hu1,hu2⟩ hl
    ·exact absurd ⟨z,hz,h1,h2⟩ hl
 exact key A ⟨y,hy,h9,rfl⟩
theorem Lj {A:List K} {y:K} (h:v55 A) (hy:y ∈ A) (h9:an y.tr≠19) (hno:∀ z ∈ A,an z.tr≠19):∃ z ∈ nJ A,an z.tr≠19∧z.suf=y.suf:=by
 obtain ⟨z,hz,h1,h2,h3⟩:=Eg hy h9
 refine ⟨z,(pX h h1).2 ⟨hz,fun u hu=>⟨fun h=>absurd h (hno u hu),fun hu1 hu2=>h3 u hu hu1 (by rw [hu2,h2])⟩⟩,h1,h2⟩
theorem GO {x:K} (h:an x.tr=21):rS x=true:=by unfold rS; rw [h]; rfl
theorem Aw {x y:K} {s:Nat} (hy:ef s y=true) (hx:ef s x=false):y.tr < x.tr:=by
 unfold ef at hx hy
 rw [decide_eq_true_eq] at hy
 rw [decide_eq_false_iff_not] at hx
 rcases aH y.tr x.tr with h | h
 ·exact h
 ·have:=Nat.div_le_div_right (c:=256) h; omega
theorem JM {rs:List Nat} {ks:List K} {s:Nat} {x:K} (hr:rs.Pairwise fun a b=>b < a) (h5:v55 ks) (hs:s ∈ rs∨∀ y ∈ ks,ef s y=true) (hx:x ∈ ks) (h21:an x.tr=21) (hv:ef s x=true) (hw:∀ y ∈ ks,ef s y=true→Ju y x):x ∈ eH rs ks:=by
 have h19:an x.tr≠19:=by omega
 induction rs generalizing ks with
 | nil =>
  have hs:∀ y ∈ ks,ef s y=true:=by
   rcases hs with h | h
   ·simp at h
   ·exact h
  unfold eH
  exact aN.2 ⟨(pX h5 h19).2 ⟨hx,fun y hy=>hw y hy (hs y hy)⟩,GO h21⟩
 | cons t rs ih =>
  unfold eH
  rw [ax]
  cases ht:ef t x with
  | true =>
   right
   refine ih hr.of_cons (h5.flt _) ?_ (aN.2 ⟨hx,ht⟩) fun y hy hy2=>hw y (aN.1 hy).1 hy2
   rcases hs with hs | hs
   ·rcases ak.1 hs with rfl | hs
    ·exact .inr fun y hy=>(aN.1 hy).2
    ·exact .inl hs
   ·exact .inr fun y hy=>hs y (aN.1 hy).1
  | false =>
   left
   have hs:∀ y ∈ ks,ef s y=true:=by
    rcases hs with hs | hs
    ·exfalso
     unfold ef at ht hv
     rw [decide_eq_true_eq] at hv
     rw [decide_eq_false_iff_not] at ht
     rcases ak.1 hs with rfl | hs
     ·omega
     ·have:=bF hr hs; omega
    ·exact hs
   have hc:x ∈ nJ (ks.filter fun x => !ef t x):=(pX (h5.flt _) h19).2 ⟨aN.2 ⟨hx,by rw [ht]; rfl⟩,fun y hy=>hw y (aN.1 hy).1 (hs y (aN.1 hy).1)⟩
   split
   ·exact aN.2 ⟨hc,GO h21⟩
   ·exact hc
theorem FZ {rs:List Nat} {ks:List K} {s:Nat} {x:K} (hr:rs.Pairwise fun a b=>b < a) (h5:v55 ks) (hs:s ∈ rs∨∀ y ∈ ks,ef s y=true) (hx:x ∈ eH rs ks) (h21:an x.tr=21) (hv:ef s x=true) (hw:∀ y ∈ eH rs ks,ef s y=true→Ju y x):∀ y ∈ ks,ef s y=true→Ju y x:=by
 have h19:an x.tr≠19:=by omega
 induction rs generalizing ks with
 | nil =>
  unfold eH at hx
  intro y hy _
  exact ((pX h5 h19).1 (aN.1 hx).1).2 y hy
 | cons t rs ih =>
  have hA:∀ z,z ∈ (if (ks.filter (ef t)).isEmpty then (nJ (ks.filter fun x => !ef t x)).filter rS else nJ (ks.filter fun x => !ef t x))→z ∈ nJ (ks.filter fun x => !ef t x):=fun z hz=>by
   split at hz
   ·exact (aN.1 hz).1
   ·exact hz
  unfold eH at hx hw
  rw [ax] at hx
  have hlow:∀ z ∈ nJ (ks.filter fun x => !ef t x),ef t z=false:=fun z hz=>by
   have:=(aN.1 (pW hz)).2
   simpa using this
  have hcase:(∀ y ∈ ks,ef s y=true→ef t y=true)∧(s ∈ rs∨∀ y ∈ ks.filter (ef t),ef s y=true)∨∀ y ∈ ks,ef s y=true:=by
   rcases hs with hs | hs
   ·left
    rcases ak.1 hs with rfl | hs
    ·exact ⟨fun y _ h=>h,.inr fun y hy=>(aN.1 hy).2⟩
    ·refine ⟨fun y _ h => ?_,.inl hs⟩
     have:=bF hr hs
     unfold ef at h ⊢
     rw [decide_eq_true_eq] at h ⊢
     omega
   ·exact .inr hs
  rcases hcase with ⟨h1,h2⟩ | hall
  ·intro y hy hy2
   have hxk:x ∈ ks:=by
    rcases hx with hx | hx
    ·exact (aN.1 (pW (hA _ hx))).1
    ·exact (aN.1 (fT hx)).1
   have htx:=h1 x hxk hv
   have hxB:x ∈ eH rs (ks.filter (ef t)):=by
    rcases hx with hx | hx
    ·have:=hlow x (hA _ hx); rw [htx] at this; simp at this
    ·exact hx
   exact ih hr.of_cons (h5.flt _) h2 hxB (fun y hy hy2=>hw y (List.mem_append_right _ hy) hy2) y (aN.2 ⟨hy,h1 y hy hy2⟩) hy2
  ·intro y hy hy2
   cases hty:ef t y with
   | true =>
    rcases hx with hx | hx
    ·have:=Aw hty (hlow x (hA _ hx))
     exact ⟨fun _=>this,fun _ _=>dh this⟩
    ·exact ih hr.of_cons (h5.flt _) (.inr fun y hy=>hall y (aN.1 hy).1) hx (fun y hy hy2=>hw y (List.mem_append_right _ hy) hy2) y (aN.2 ⟨hy,hty⟩) hy2
   | false =>
    have hyA:y ∈ ks.filter fun x => !ef t x:=aN.2 ⟨hy,by rw [hty]; rfl⟩
    rcases hx with hx | hx
    ·exact ((pX (h5.flt _) h19).1 (hA _ hx)).2 y hyA
    ·
     have hxB:=fT hx
     have htx:=(aN.1 hxB).2
     have hne:(ks.filter (ef t)).isEmpty=false:=by
      cases hc:(ks.filter (ef t)).isEmpty with
      | false=>rfl
      | true=>rw [List.isEmpty_iff] at hc; rw [hc] at hxB; simp at hxB
     rw [hne] at hw
     simp only [Bool.false_eq_true,if_false] at hw
     have hnd:∀ z ∈ ks.filter (fun x => !ef t x),an z.tr≠19:=fun z hz h9=>by
      obtain ⟨u,hu,hu9⟩:=Li (h5.flt _) hz h9
      have:=(hw u (List.mem_append_left _ hu) (hall u (aN.1 (pW hu)).1)).1 hu9
      have:=Aw htx (hlow u hu)
      omega
     refine ⟨fun h9=>absurd h9 (hnd y hyA),fun h9 hsuf => ?_⟩
     exfalso
     obtain ⟨u,hu,hu1,hu2⟩:=Lj (h5.flt _) hyA h9 hnd
     have:=(hw u (List.mem_append_left _ hu) (hall u (aN.1 (pW hu)).1)).2 hu1 (by rw [hu2,hsuf])
     have:=Aw htx (hlow u hu)
     omega
theorem AA {A:List K} (h:Cd A):Cd (nJ A):=by
 have hp:(nJ A).Perm (zf 18446744073709551615 A):=ku _
 refine Cd.perm ?_ hp.symm
 refine ⟨?_,fun x hx=>h.kind x (wA hx)⟩
 unfold zf
 rw [List.pairwise_append]
 refine ⟨(uh h).imp fun {a b} hab e=>absurd hab (by rw [e]; exact bU _),?_,fun u hu z hz _ e => ?_⟩
 ·unfold tX
  cases ((A.filter (rF 18446744073709551615)).mergeSort ze) with
  | nil=>simp
  | cons z l=>simp
 ·have h1:=(kH.1 (qF.1 hu).2).2.1
  unfold tX at hz
  have h2:=List.mem_of_mem_take hz
  rw [List.mem_mergeSort] at h2
  have h3:=(aN.1 h2).2
  unfold rF at h3
  simp only [bN,decide_eq_true_eq] at h3
  rw [e] at h1
  exact h1 h3.2
theorem pY {rs:List Nat} {ks:List K} (h:Cd ks):Cd (eH rs ks):=by
 induction rs generalizing ks with
 | nil=>unfold eH; exact (AA h).flt _
 | cons t rs ih =>
  unfold eH
  have hA:Cd (if (ks.filter (ef t)).isEmpty then (nJ (ks.filter fun x => !ef t x)).filter rS else nJ (ks.filter fun x => !ef t x)):=by
   split
   ·exact (AA (h.flt _)).flt _
   ·exact AA (h.flt _)
  have hB:=ih (h.flt (ef t))
  refine ⟨?_,fun x hx=>h.kind x (fT (ss:=t :: rs) (by unfold eH; exact hx))⟩
  rw [List.pairwise_append]
  refine ⟨hA.dist,hB.dist,fun a ha b hb _ e => ?_⟩
  have h1:ef t a=false:=by
   have:a ∈ nJ (ks.filter fun x => !ef t x):=by
    split at ha
    ·exact (aN.1 ha).1
    ·exact ha
   have:=(aN.1 (pW this)).2
   simpa using this
  have h2:ef t b=true:=(aN.1 (fT hb)).2
  have:=Aw h2 h1
  omega
theorem Ax {rs:List Nat} {ks:List K} {s:Nat} (hr:rs.Pairwise fun a b=>b < a) (hc:Cd ks) (h5:v55 ks) (hs:s ∈ rs∨∀ y ∈ ks,ef s y=true):Tf s (eH rs ks)=Tf s ks:=by
 have h5':v55 (eH rs ks):=h5.sub fun _ h=>fT h
 refine HR (pY hc) hc (fun x h=>fT h) (fun x hx hw => ?_) fun x hx hw => ?_
 ·obtain ⟨w1,w2,w3⟩:=gA.1 hw
  rw [mL (h5 x hx)] at w1
  exact JM hr h5 hs hx w2 w1 fun y hy hy2=>w3 y hy (by rw [mL (h5 y hy)]; exact hy2)
 ·obtain ⟨w1,w2,w3⟩:=gA.1 hw
  have hxk:=fT hx
  rw [mL (h5 x hxk)] at w1
  refine gA.2 ⟨by rw [mL (h5 x hxk)]; exact w1,w2,fun y hy hy2 => ?_⟩
  rw [mL (h5 y hy)] at hy2
  exact FZ hr h5 hs hx w2 w1 (fun y hy hy2=>w3 y hy (by rw [mL (h5' y hy)]; exact hy2)) y hy hy2
end Go.E
end
