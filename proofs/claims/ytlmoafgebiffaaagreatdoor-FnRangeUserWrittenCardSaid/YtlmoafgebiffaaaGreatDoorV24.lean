/- Parts of the proof: Xr, Xs, Xv, Xy, Fa, Fb, Fc, Fd. -/
import Derived.Test.YtlmoafgebiffaaaGreatDoorV20
import Derived.Test.YtlmoafgebiffaaaGreatDoorV21
import Derived.Test.YtlmoafgebiffaaaGreatDoorV23
set_option linter.all false
set_option maxRecDepth 10000
section
namespace Go.Proofs
open Go Go.E Go.Sort Go.Proofs.Tryz
section
variable {k:aq} {d w:World}
theorem td {va vb:Value} {a b:List K} (ha:Sl KE 3 w va a) (hb:Sl KE 3 w vb b) (hl:b.length≤2147483647) (hk:∀ w2,bp w w2→k (.bool (decide (a=b))) w2):ai prog 62 #[va,vb] k w:=by
 obtain ⟨aa,ac,rfl⟩:=ha.form
 obtain ⟨ba,bc,rfl⟩:=hb.form
 refine al [.tmp 4] func62 ?_
 by_cases hlen:a.length=b.length
 rotate_left
 ·have h1:((a.length:Int) != b.length)=true:=by simp; omega
  refine bu @h1 ?_
  have:=hk w (bp.refl _)
  rwa [aG (fun h=>hlen (by rw [h]))] at this
 have h1:((a.length:Int) != b.length)=false:=by simp; omega
 refine bu @h1 ?_
 refine bZ (fun i:Nat=>[(1,.slice ba b.length bc),(12,.slice aa a.length ac),(13,.int .i64 a.length),(14,.int .i64 i)])
  (fun i w'=>i≤a.length∧bp w w'∧a.take i=b.take i) (fun i _=>a.length - i) 0 (by kernel_rfl) ?_ ⟨aT _,bp.refl _,rfl⟩ ?_
 ·exact bU
 rintro K2 e i w1 ⟨i2,i3,i4⟩ hK2
 rcases aH i a.length with hi | hi
 rotate_left
 ·have hi':¬ (i:Int) < a.length:=by omega
  refine bu @hi' ?_
  obtain rfl:i=a.length:=by omega
  rw [ag,hlen,ag] at i4
  have:=hk w1 i3
  rwa [aV i4] at this
 have hi':(i:Int) < a.length:=by omega
 obtain ⟨g,f,c,hv',hc,hat⟩:=(ha.inc KE.mono i3.inc).at (by omega)
 obtain ⟨rfl,rfl⟩:=sEq hv'
 obtain ⟨g2,f2,c2,hv2,hc2,hat2⟩:=(hb.inc KE.mono i3.inc).at (by omega)
 obtain ⟨rfl,rfl⟩:ba=some ⟨g2,f2,none⟩∧bc=c2:=by simpa using hv2
 obtain ⟨x,hx⟩:=gEl hi
 obtain ⟨y,hy⟩:∃ y,b[i]? = some y:=⟨_,aD (by omega)⟩
 obtain ⟨h0,h1,h2,h3⟩:=ik (hat i x hx)
 obtain ⟨p0,p1,p2,p3⟩:=ik (hat2 i y hy)
 have x4:=aJ (w:=w1) (.cells #[.int .u64 x.tr,.string ⟨x.suf.toArray⟩,.string ⟨x.val.toArray⟩] 53)
 have p0:=x4.cell p0
 have p1:=x4.cell p1
 have p2:=x4.cell p2
 have hib:(i:Int) < b.length:=by omega
 refine eO @hi' @h0 @h1 @h2 ?_
 refine bF (.read 0 (sq [1,2,3] (.read 4 (sq [5] .done)))) ?_
 refine hJ @hib @p0 @p1 @p2 @aA ?_
 refine Es ?_
 by_cases hxy:x=y
 ·rw [aG (fun h=>h hxy)]
  refine bA ?_
  refine hK2 _ _ (i+1) ?_ ⟨hi,bp.drew' (i3.trans x4),by rw [bz hx,bz hy,i4,hxy]⟩ (by omega)
  exact bU
 ·rw [aV hxy]
  refine bA ?_
  have:=hk _ (bp.drew' (i3.trans x4))
  rwa [aG (fun h=>hxy (by rw [h,hy] at hx; exact (bk hx).symm))] at this
theorem wH {va vb:Value} {a b:Sp} (ha:Sl KE 3 w va a.ks) (hb:Sl KE 3 w vb b.ks) (hl:b.ks.length≤2147483647) (hk:∀ w2,bp w w2→k (.bool (decide (a=b))) w2) :
    ai prog 35 #[.agg #[.string ⟨a.s.toArray⟩,.string ⟨a.e.toArray⟩,va],.agg #[.string ⟨b.s.toArray⟩,.string ⟨b.e.toArray⟩,vb]] k w:=by
 obtain ⟨aa,ac,rfl⟩:=ha.form
 obtain ⟨ba,bc,rfl⟩:=hb.form
 have xA:=(aJ (w:=w) (.cells #[.string ⟨a.s.toArray⟩,.string ⟨a.e.toArray⟩,.slice aa a.ks.length ac] 30)).trans (aJ (.cells #[.string ⟨b.s.toArray⟩,.string ⟨b.e.toArray⟩,.slice ba b.ks.length bc] 30))
 have no:¬ (a.s=b.s∧a.e=b.e)→decide (a=b)=false:=fun h=>aG fun h2=>h (by rw [h2]; exact ⟨rfl,rfl⟩)
 refine al [.tmp 4] func35 ?_
 by_cases h1:a.s=b.s
 rotate_left
 ·have g1:=aG h1
  refine dO @aA @g1 ?_
  have:=hk _ xA
  rwa [no fun h=>h1 h.1] at this
 have g1:=aV h1
 by_cases h2:a.e=b.e
 rotate_left
 ·have g2:=aG h2
  refine dQ @aA @g1 @g2 ?_
  have:=hk _ xA
  rwa [no fun h=>h2 h.2] at this
 have g2:=aV h2
 refine dQ @aA @g1 @g2 ?_
 refine td (ha.inc KE.mono xA.inc) (hb.inc KE.mono xA.inc) hl fun w2 x2 => ?_
 have:=hk _ (xA.trans x2)
 have e:decide (a=b)=decide (a.ks=b.ks):=by
  obtain ⟨s1,e1,k1⟩:=a
  obtain ⟨s2,e2,k2⟩:=b
  simp only at h1 h2
  subst h1 h2
  simp [bG]
 rw [e] at this
 refine bA ?_
 exact this
theorem te {va vb:Value} {a b:List Sp} (ha:Sl dh 3 w va a) (hb:Sl dh 3 w vb b) (hl:b.length≤2147483647) (hks:∀ x ∈ b,x.ks.length≤2147483647) (hk:∀ w2,bp w w2→k (.bool (decide (a=b))) w2):ai prog 13 #[va,vb] k w:=by
 obtain ⟨aa,ac,rfl⟩:=ha.form
 obtain ⟨ba,bc,rfl⟩:=hb.form
 refine al [.tmp 4] func13 ?_
 by_cases hlen:a.length=b.length
 rotate_left
 ·have h1:((a.length:Int) != b.length)=true:=by simp; omega
  refine bu @h1 ?_
  have:=hk w (bp.refl _)
  rwa [aG (fun h=>hlen (by rw [h]))] at this
 have h1:((a.length:Int) != b.length)=false:=by simp; omega
 refine bu @h1 ?_
 refine bZ (fun i:Nat=>[(1,.slice ba b.length bc),(12,.slice aa a.length ac),(13,.int .i64 a.length),(14,.int .i64 i)])
  (fun i w'=>i≤a.length∧bp w w'∧a.take i=b.take i) (fun i _=>a.length - i) 0 (by kernel_rfl) ?_ ⟨aT _,bp.refl _,rfl⟩ ?_
 ·exact bU
 rintro K2 e i w1 ⟨i2,i3,i4⟩ hK2
 rcases aH i a.length with hi | hi
 rotate_left
 ·have hi':¬ (i:Int) < a.length:=by omega
  refine bu @hi' ?_
  obtain rfl:i=a.length:=by omega
  rw [ag,hlen,ag] at i4
  have:=hk w1 i3
  rwa [aV i4] at this
 have hi':(i:Int) < a.length:=by omega
 obtain ⟨g,f,c,hv',hc,hat⟩:=(ha.inc dh.mono i3.inc).at (by omega)
 obtain ⟨rfl,rfl⟩:=sEq hv'
 obtain ⟨g2,f2,c2,hv2,hc2,hat2⟩:=(hb.inc dh.mono i3.inc).at (by omega)
 obtain ⟨rfl,rfl⟩:ba=some ⟨g2,f2,none⟩∧bc=c2:=by simpa using hv2
 obtain ⟨x,hx⟩:=gEl hi
 obtain ⟨y,hy⟩:∃ y,b[i]? = some y:=⟨_,aD (by omega)⟩
 obtain ⟨h0,h1,xa,xc,h2,hxk⟩:=fN (hat i x hx)
 obtain ⟨p0,p1,ya,yc,p2,hyk⟩:=fN (hat2 i y hy)
 obtain ⟨S,hS⟩:∃ S,S=w1.heap.size:=⟨_,rfl⟩
 obtain ⟨w4,hw4⟩:∃ w4,w4=(w1.alloc (.cells #[.string ⟨x.s.toArray⟩,.string ⟨x.e.toArray⟩,.slice xa x.ks.length xc] 30)).drew:=⟨_,rfl⟩
 have x4:bp w1 w4:=by rw [hw4]; exact bp.drew' (aJ _)
 have c0:w4.cell? ⟨S,0,none⟩=some (.string ⟨x.s.toArray⟩):=by rw [hw4,hS]; exact bX @aA
 have c1:w4.cell? ⟨S,1,none⟩=some (.string ⟨x.e.toArray⟩):=by rw [hw4,hS]; exact bX @aA
 have c2:w4.cell? ⟨S,2,none⟩=some (.slice xa x.ks.length xc):=by rw [hw4,hS]; exact bX @aA
 have p0:=x4.cell p0
 have p1:=x4.cell p1
 have p2:=x4.cell p2
 have hib:(i:Int) < b.length:=by omega
 refine eO @hi' @h0 @h1 @h2 ?_
 refine bF (.read 0 (sq [1,2,3] (.read 4 (.eff 5 [] (sq [6] .done))))) ?_
 rw [← hS,← hw4]
 refine vJ @hib @p0 @p1 @p2 @c0 @c1 @c2 ?_
 refine wH (a:=x) (b:=y) (hxk.inc KE.mono x4.inc) (hyk.inc KE.mono x4.inc) (hks y (aO hy)) fun w5 x5 => ?_
 by_cases hxy:x=y
 ·rw [aV hxy]
  refine qh (x5.cell p0) (x5.cell p1) (x5.cell p2) (x5.cell c0) (x5.cell c1) (x5.cell c2) ?_
  refine hK2 _ _ (i+1) ?_ ⟨hi,i3.trans (x4.trans x5),by rw [bz hx,bz hy,i4,hxy]⟩ (by omega)
  exact bU
 ·rw [aG hxy]
  refine qh (x5.cell p0) (x5.cell p1) (x5.cell p2) (x5.cell c0) (x5.cell c1) (x5.cell c2) ?_
  have:=hk _ (i3.trans (x4.trans x5))
  rwa [aG (fun h=>hxy (by rw [h,hy] at hx; exact (bk hx).symm))] at this
end
end Go.Proofs
end
section
namespace Go.E
open Go Go.Sort Go.Proofs Go.Proofs.Tryz
theorem uq (x:Sp):cW x=⟨x.s,x.e,x.ks.map fun y=>iD y.sv⟩:=by
 unfold cW
 rw [cv]
 rfl
end Go.E
namespace Go.Proofs
open Go Go.E Go.Sort Go.Proofs.Tryz
section
variable {k:aq} {d w:World}
theorem tf {v:Value} {l:List Sp} (hv:Sl dh 3 d v l) (hl:l.length≤100000) (hks:∀ x ∈ l,x.ks.length≤1000000) (hinc:cM d w) (hk:∀ d' w' v',Gr d w d' w'→Sl dh 3 d' v' (l.map cW)→k v' w'):ai prog 63 #[v] k w:=by
 obtain ⟨ka,kc,rfl⟩:=hv.form
 refine al [.tmp 2] func63 ?_
 refine bA ?_
 refine bZ (fun b:Nat × Value=>[(3,b.2),(9,.slice ka l.length kc),(10,.int .i64 l.length),(11,.int .i64 b.1)])
  (fun b w'=>b.1≤l.length∧∃ d1,LoopL dh 3 30 d w d1 w' b.2 ((l.take b.1).map cW)) (fun b _=>l.length - b.1) (0,.slice none 0 0) (by kernel_rfl) ?_ ⟨aT _,d,LoopL.nil hinc⟩ ?_
 ·exact bU
 rintro K2 e ⟨i,vo⟩ w1 ⟨i2,d1,i3⟩ hK2
 simp only at i2 i3
 rcases aH i l.length with hi | hi
 rotate_left
 ·have hi':¬ (i:Int) < l.length:=by omega
  refine bu @hi' ?_
  obtain rfl:i=l.length:=by omega
  rw [ag] at i3
  obtain ⟨d4,g4,_,_,s4⟩:=i3.done dh.mono
  exact hk d4 w1 vo g4 s4
 have hi':(i:Int) < l.length:=by omega
 obtain ⟨g,f,c,hv',hc,hat⟩:=(hv.inc dh.mono (i3.g.i.trans i3.g.j)).at (by omega)
 obtain ⟨rfl,rfl⟩:=sEq hv'
 obtain ⟨x,hx⟩:=gEl hi
 have hxm:=aO hx
 have hxl:=hks x hxm
 obtain ⟨h0,h1,a,cc,h2,hkx⟩:=fN (hat i x hx)
 obtain ⟨B,hB⟩:∃ B,B=w1.heap.size:=⟨_,rfl⟩
 obtain ⟨w4,hw4⟩:∃ w4,w4=((((w1.alloc (.cells #[.string ⟨x.s.toArray⟩,.string ⟨x.e.toArray⟩,.slice a x.ks.length cc] 37)).alloc (.cells #[.string ByteArray.empty,.string ByteArray.empty,.slice none 0 0] 30)).setCell ⟨w1.heap.size+1,0,none⟩ (.string ⟨x.s.toArray⟩)).setCell ⟨w1.heap.size+1,1,none⟩ (.string ⟨x.e.toArray⟩)).setCell ⟨w1.heap.size+1,2,none⟩ (.slice none 0 0):=⟨_,rfl⟩
 have x4:bp w1 w4:=by rw [hw4]; exact aj (aj (aj ((aJ _).trans (aJ _)) (by omega)) (by omega)) (by omega)
 have z4:w4.heap.size=B+2:=by rw [hw4,hB]; simp only [World.size_setCell,World.size_alloc]
 have c0:w4.cell? ⟨B+1,0,none⟩=some (.string ⟨x.s.toArray⟩):=by rw [hw4,hB]; exact bX @aA
 have c1:w4.cell? ⟨B+1,1,none⟩=some (.string ⟨x.e.toArray⟩):=by rw [hw4,hB]; exact bX @aA
 have c2:w4.cell? ⟨B+1,2,none⟩=some (.slice none 0 0):=by rw [hw4,hB]; exact bX @aA
 have f4:∀ y,w4.frozen? ⟨B+1,y,none⟩=false:=fun y=>by rw [hw4,hB]; exact bX @br
 refine qh @hi' @h0 @h1 @h2 @aA @br ?_
 rw [← hw4,← hB]
 refine jf (fun _:Unit=>[(3,vo),(6,.pointer (some ⟨B+1,0,none⟩)),(9,.slice (some ⟨g,f,none⟩) l.length kc),(10,.int .i64 l.length),(11,.int .i64 i)])
  (fun _ w'=>bp w1 w'∧w'.cell? ⟨B+1,0,none⟩=some (.string ⟨x.s.toArray⟩)∧w'.cell? ⟨B+1,1,none⟩=some (.string ⟨x.e.toArray⟩)∧∃ v,w'.cell? ⟨B+1,2,none⟩=some v∧OwnC Ah 3 53 w' v (x.ks.map fun y=>iD y.sv)∧∀ g,v.ownBlock=some g→w1.heap.size≤g) (by kernel_rfl) (fun K hK => ?_) ?_
 ·refine bZ (fun j:Nat=>[(3,vo),(6,.pointer (some ⟨B+1,0,none⟩)),(9,.slice (some ⟨g,f,none⟩) l.length kc),(10,.int .i64 l.length),(11,.int .i64 i),(21,.slice a x.ks.length cc),(22,.int .i64 x.ks.length),(23,.int .i64 j)])
    (fun j w'=>j≤x.ks.length∧bp w1 w'∧w'.cell? ⟨B+1,0,none⟩=some (.string ⟨x.s.toArray⟩)∧w'.cell? ⟨B+1,1,none⟩=some (.string ⟨x.e.toArray⟩)∧(∀ y,w'.frozen? ⟨B+1,y,none⟩=false) ∧
     ∃ v,w'.cell? ⟨B+1,2,none⟩=some v∧OwnC Ah 3 53 w' v ((x.ks.take j).map fun y=>iD y.sv)∧∀ g,v.ownBlock=some g→B+1 < g) (fun j _=>x.ks.length - j) 0 (by kernel_rfl) ?_
     ⟨aT _,x4,c0,c1,f4,_,c2,OwnC.nil vz,by simp [Value.ownBlock]⟩ ?_
  ·exact bU
  rintro K3 e3 j w6 ⟨j1,j2,j4,j5,j6,v,j8,j9,j10⟩ hK3
  have hS6:=aC j8
  rcases aH j x.ks.length with hj | hj
  rotate_left
  ·have hj':¬ (j:Int) < x.ks.length:=by omega
   refine bu @hj' ?_
   obtain rfl:j=x.ks.length:=by omega
   rw [ag] at j9
   refine hK _ _ () ?_ ⟨j2,j4,j5,v,j8,j9,fun g hg=>by have:=j10 g hg; omega⟩
   exact bU
  have hj':(j:Int) < x.ks.length:=by omega
  obtain ⟨g2,f2,cc2,hv2,hc2,hat2⟩:=(hkx.inc KE.mono j2.inc).at (by omega)
  obtain ⟨rfl,rfl⟩:a=some ⟨g2,f2,none⟩∧cc=cc2:=by simpa using hv2
  obtain ⟨y,hy⟩:=gEl hj
  obtain ⟨p0,p1,p2,p3⟩:=ik (hat2 j y hy)
  obtain ⟨w7,hw7⟩:∃ w7,w7=w6.alloc (.cells #[.int .u64 y.tr,.string ⟨y.suf.toArray⟩,.string ⟨y.val.toArray⟩] 91):=⟨_,rfl⟩
  have x7:bp w6 w7:=by rw [hw7]; exact aJ _
  have j8':=x7.cell j8
  obtain ⟨va,vc,rfl,_⟩:=j9.form
  refine qh @hj' @p0 @p1 @p2 @j8 @aA ?_
  rw [← hw7]
  refine Ag (iD y.sv) rw28 (j9.ext x7) rfl (.inl rfl) (by rw [hw7,World.size_alloc]) (wA _) (by rw [aR,dV j1]; omega) fun v8 w8 o8 k8 n8 => ?_
  have j10':∀ g,v8.ownBlock=some g→B+1 < g:=fun g hg=>by
   rcases n8 g hg with h | h
   ·exact j10 g h
   ·have:=x7.size; omega
  have nS:(Value.slice va ((x.ks.take j).map fun y=>iD y.sv).length vc).ownBlock≠some (B+1):=fun h=>by have:=j10 _ h; omega
  have q2:=k8.some j8' nS
  have f8:∀ y,w8.frozen? ⟨B+1,y,none⟩=false:=fun y=>by rw [k8.frozen _ y (by have:=x7.size; omega),x7.frozen _ y hS6]; exact j6 y
  obtain ⟨va8,vc8,rfl,_⟩:=o8.form
  refine dO @q2 @f8 ?_
  have k9:Keep (fun b y=>b=B+1∧y=2) w8 (w8.setCell ⟨B+1,2,none⟩ (.slice va8 (((x.ks.take j).map fun y=>iD y.sv)++[iD y.sv]).length vc8)):=bY ⟨rfl,rfl⟩
  refine hK3 _ _ (j+1) ?_ ⟨hj,aj ((j2.trans x7).tr k8 fun b o hb h=>by have:=j10 b h; omega) (by omega),k9.some (k8.some (x7.cell j4) nS) (by omega),k9.some (k8.some (x7.cell j5) nS) (by omega),fun y=>by rw [World.frozen?_setCell]; exact f8 y,
   _,by rw [cJ,q2]; rfl,?_,j10'⟩ (by omega)
  ·exact bU
  ·rw [bz hy,az]
   exact o8.keep k9 fun g hg o h=>by have:=j10' g hg; omega
 rintro e _ w6 ⟨j2,c0,c1,v,c2,o6,n6⟩
 obtain ⟨d5,g5,e5⟩:=oq i3.g.j j2
 have i6:=i3.call dh.mono g5
 have hsl:Sl KE 3 d5 v (x.ks.map fun y=>iD y.sv):=o6.slg (fun y hy=>by
  obtain ⟨p,_,rfl⟩:=bj.1 hy
  exact ⟨rfl,show (0:Nat) < _ by decide⟩) fun g hg o u hu=>e5 _ _ _ (n6 g hg) hu
 obtain ⟨va,vc,rfl,_⟩:=o6.form
 obtain ⟨vo1,vo2,rfl,_⟩:=i6.form
 obtain ⟨css,oo⟩:=i6.o
 refine dQ @c0 @c1 @c2 ?_
 refine iL (cW x) [.string ⟨x.s.toArray⟩,.string ⟨x.e.toArray⟩,.slice va (x.ks.map fun y=>iD y.sv).length vc] rw22 oo (by rw [uq]; exact ⟨_,rfl,hsl⟩) rfl (.inl rfl) rfl rfl (by simp [Value.oneCell']) (by rw [aR,dV i2]; omega) i6.g.j fun v8 w8 o8 k8 n8 j8 _ => ?_
 refine bA ?_
 refine hK2 _ _ (i+1,v8) ?_ ⟨hi,d5,by simp only; rw [bz hx,az]; exact i6.more o8 k8 n8 j8⟩ (by simp only; omega)
 exact bU
end
end Go.Proofs
end
section
namespace Go.E
open Go Go.Sort Go.Proofs Go.Proofs.Tryz
def Et:Sp:=⟨[97],[98],[⟨277,[115],[]⟩]⟩
def Eu:List (List Sp):=[[Et]]
theorem H6:df Eu.flatten=[Et]:=by decide +kernel
theorem Jx:ud Eu.flatten 2 none none=[⟨[97],[98],[⟨0,[115],[]⟩]⟩]:=by decide +kernel
theorem ur {α:Type} {R:gR α} {sz N:Nat} {d:World} {cs:List Value} {x:α} (hl:cs.length=sz) (hc:∀ (j:Nat) u,cs[j]? = some u→d.cell? ⟨N,j,none⟩=some u) (hR:R d cs x):Sl R sz d (.slice (some ⟨N,0,none⟩) 1 1) [x]:=by
 refine ⟨fun _=>rfl,rfl,aF _,fun i y hy => ?_⟩
 rcases i with _ | i
 ·obtain rfl:x=y:=by simpa using hy
  refine ⟨cs,hl,fun j u hu => ?_,hR⟩
  rw [show 0+0 * sz+j=j by omega]
  exact hc j u hu
 ·simp at hy
theorem L4:Wf [Et]:=by
 refine ⟨fun i hi => ?_,fun i j h1 h2 => ?_⟩
 ·obtain rfl:i=0:=by simp at hi; omega
  decide
 ·simp at h2; omega
theorem yV:LvOk Eu 8:=by
 have h1:∀ L ∈ Eu,L=[Et]:=fun L h=>by simpa [Eu] using h
 refine ⟨by decide,fun L h=>by rw [h1 L h]; decide,fun L h=>by rw [h1 L h]; exact L4,fun L h s hs => ?_,fun f hf => ?_⟩
 ·rw [h1 L h] at hs
  rw [aM.1 hs]
  exact ⟨by simp [Et],by decide⟩
 ·rw [H6] at hf
  rw [aM.1 hf]
  refine ⟨fun x hx => ?_,by simp [Et]⟩
  have:x=⟨277,[115],[]⟩:=by simpa [Et] using hx
  subst this
  exact ⟨.inr (.inr (by decide)),fun h=>by simp [au] at h,fun h=>by simp [au] at h⟩
theorem Kx:RIn Eu 2 none none:=by
 have h1:∀ L ∈ Eu,L=[Et]:=fun L h=>by simpa [Eu] using h
 refine ⟨by decide,by decide,yV.wf,fun L h => ?_,yV.cdF,?_⟩
 ·rw [h1 L h]
  refine ⟨by decide,fun s hs => ?_⟩
  rw [aM.1 hs]
  refine ⟨by decide,by decide,by decide,by simp [Et],fun x hx => ?_⟩
  have:x=⟨277,[115],[]⟩:=by simpa [Et] using hx
  subst this
  exact ⟨by decide,by decide⟩
 ·exact fun l h hl=>by cases hl
end Go.E
namespace Go.Proofs
open Go Go.E Go.Sort Go.Proofs.Tryz
section
variable {k:aq} {d w:World}
theorem tg {v:Value} {l:List An} {a:An} (hv:Sl zY 5 w v l) (hl:l=[a]) (hok:a.ok=true) (hk:k (.bool true) w):ai prog 41 #[v] k w:=by
 subst hl
 obtain ⟨ka,kc,rfl⟩:=hv.form
 obtain ⟨g,f,c,hv',hc,hat⟩:=hv.at (by simp)
 obtain ⟨rfl,rfl⟩:=sEq hv'
 obtain ⟨h0,h1,h2,h3,xa,xc,h4,hxk⟩:=py (hat 0 a rfl)
 rw [hok] at h1
 simp only [Nat.zero_mul,Nat.add_zero] at h1
 refine al [.tmp 2] func41 ?_
 have e1:(((1:Nat):Int) == 1)=true:=rfl
 have e2:(0:Int) < ((1:Nat):Int):=by decide
 simp (disch:=first | exact dZ | fail) only [go_sem,h1,ar,e1,e2,Int.toNat_zero,Nat.zero_mul,Nat.add_zero]
 exact hk
theorem sg (hinc:cM d w) (hk:∀ w2,bp w w2→k (.bool true) w2):ai prog 15 #[] k w:=by
 refine al [.tmp 0] func15 ?_
 refine bA ?_
 refine al [.tmp 0] func40 ?_
 refine bA ?_
 obtain ⟨A,hA⟩:∃ A,A=w.heap.size:=⟨_,rfl⟩
 have eS:ByteArray.empty=⟨([]:Bytes).toArray⟩:=rfl
 obtain ⟨W,hW⟩:∃ W,W=(((w.alloc (.cells #[.int .u64 277,.string ⟨#[115]⟩,.string ByteArray.empty] 91)).alloc (.cells #[.string ⟨#[97]⟩,.string ⟨#[98]⟩,.slice (some ⟨w.heap.size,0,none⟩) 1 1] 37)).alloc (.cells #[.slice (some ⟨w.heap.size+1,0,none⟩) 1 1] 27)).alloc (.cells #[.int .u8 0,.string ByteArray.empty] 205):=⟨_,rfl⟩
 have xW:bp w W:=by rw [hW]; exact (((aJ _).trans (aJ _)).trans (aJ _)).trans (aJ _)
 have k0:W.cell? ⟨A,0,none⟩=some (.int .u64 277):=by rw [hW,hA]; exact bX @aA
 have k1:W.cell? ⟨A,1,none⟩=some (.string ⟨#[115]⟩):=by rw [hW,hA]; exact bX @aA
 have k2:W.cell? ⟨A,2,none⟩=some (.string ByteArray.empty):=by rw [hW,hA]; exact bX @aA
 have s0:W.cell? ⟨A+1,0,none⟩=some (.string ⟨#[97]⟩):=by rw [hW,hA]; exact bX @aA
 have s1:W.cell? ⟨A+1,1,none⟩=some (.string ⟨#[98]⟩):=by rw [hW,hA]; exact bX @aA
 have s2:W.cell? ⟨A+1,2,none⟩=some (.slice (some ⟨A,0,none⟩) 1 1):=by rw [hW,hA]; exact bX @aA
 have l0:W.cell? ⟨A+1+1,0,none⟩=some (.slice (some ⟨A+1,0,none⟩) 1 1):=by rw [hW,hA]; exact bX @aA
 have t0:W.cell? ⟨A+1+1+1,0,none⟩=some (.int .u8 0):=by rw [hW,hA]; exact bX @aA
 have t1:W.cell? ⟨A+1+1+1,1,none⟩=some (.string ByteArray.empty):=by rw [hW,hA]; exact bX @aA
 rw [← hW,← hA]
 obtain ⟨d4,g4,e4⟩:=oq hinc xW
 have sk:Sl KE 3 d4 (.slice (some ⟨A,0,none⟩) 1 1) [⟨277,[115],[]⟩]:=ur (cs:=[.int .u64 277,str [115],str []]) rfl (fun j u hu=>by
  match j,hu with
  | 0,hu=>obtain rfl:=bk hu; exact e4 _ _ _ (by omega) k0
  | 1,hu=>obtain rfl:=bk hu; exact e4 _ _ _ (by omega) k1
  | 2,hu=>obtain rfl:=bk hu; exact e4 _ _ _ (by omega) k2) ⟨rfl,by decide⟩
 have ss:Sl dh 3 d4 (.slice (some ⟨A+1,0,none⟩) 1 1) [Et]:=L1 (e4 _ _ _ (by omega) s0) (e4 _ _ _ (by omega) s1) (e4 _ _ _ (by omega) s2) sk
 have sl:Sl pe 1 d4 (.slice (some ⟨A+1+1,0,none⟩) 1 1) Eu:=ur (cs:=[.slice (some ⟨A+1,0,none⟩) 1 1]) rfl (fun j u hu=>by
  match j,hu with
  | 0,hu=>obtain rfl:=bk hu; exact e4 _ _ _ (by omega) l0) ⟨_,rfl,ss⟩
 have st:Sl Cp 2 d4 (.slice (some ⟨A+1+1+1,0,none⟩) 1 1) [(0,[])]:=ur (cs:=[.int .u8 0,str []]) rfl (fun j u hu=>by
  match j,hu with
  | 0,hu=>obtain rfl:=bk hu; exact e4 _ _ _ (by omega) t0
  | 1,hu=>obtain rfl:=bk hu; exact e4 _ _ _ (by omega) t1) ⟨rfl,by decide⟩
 rw [eS]
 have stok:GC (ou [] false) (ou [] false) [(0,[])]:=fun x hx=>by
  rw [aM.1 hx]
  exact ⟨fun _=>rfl,fun h=>by simp at h,fun h=>by simp at h,by decide⟩
 refine mo (kl:=[]) (kh:=[]) (bl:=false) (bh:=false) sl st g4.j Kx (by decide) (by decide) stok (by decide) fun d5 w5 v l g5 s5 hp => ?_
 have hv0:(rV Eu 2 none none).map cW=[⟨[97],[98],[⟨0,[115],[]⟩]⟩]:=by
  rw [← AZ yV.wf (fun L h s hs=>(yV.ks L h s hs).1) yV.cdF]
  exact Jx
 obtain ⟨V,hV⟩:∃ V,V=rV Eu 2 none none:=⟨_,rfl⟩
 have hp:Pw (mm V (FB pY)) (pX V (-2) false 0 [(0,[])]) l:=by rw [hV]; exact hp
 rw [← hV] at hv0
 have hVl:V.length=1:=by have:=congrArg List.length hv0; simpa using this
 have hw0:pX V (-2) false 0 [(0,[])]=[some 0]:=rfl
 rw [hw0] at hp
 obtain ⟨a,rfl⟩:∃ a,l=[a]:=by
  have:=hp.1
  match l,this with
  | [a],_=>exact ⟨a,rfl⟩
 obtain ⟨h1,h2,h3,h4⟩:=hp.2 0 _ _ rfl rfl
 have hok:a.ok=true:=by rw [h2]; exact aV ⟨Int.le_refl _,by omega⟩
 obtain ⟨_,_,h5,_⟩:=h3 0 rfl (by omega)
 have hkl:a.sp.ks.length=1:=by
  have e1:=congrArg List.length h5
  rw [aR,aR] at e1
  have e2:((V.map cW)[0]!).ks.length=1:=by rw [hv0]; rfl
  rw [aI (V.map cW) 0 (by simp; omega),iN,uq,aR] at e2
  rw [aI V 0 (by omega)] at e1
  rw [e1,e2]
 have s6:=s5.inc zY.mono g5.j
 obtain ⟨va,vc,rfl⟩:=s6.form
 obtain ⟨g,f,c,hv',hc,hat⟩:=s6.at (by simp)
 obtain ⟨rfl,rfl⟩:=sEq hv'
 obtain ⟨_,_,_,_,xa,xc,p4,_⟩:=py (hat 0 a rfl)
 simp only [Nat.zero_mul,Nat.add_zero,hkl] at p4
 refine bA ?_
 refine tg s6 rfl hok ?_
 have e1:(((1:Nat):Int) == 1)=true:=rfl
 have e2:(0:Int) < ((1:Nat):Int):=by decide
 simp (disch:=first | exact dZ | fail) only [go_sem,p4,ar,e1,e2,Int.toNat_zero,Nat.zero_mul,Nat.add_zero]
 exact hk _ (xW.trans g5.x)
end
end Go.Proofs
end
section
namespace Go.E
open Go Go.Sort Go.Proofs Go.Proofs.Tryz
theorem LoopL.one {α:Type} {R:gR α} {sz:Nat} {el:TypeId} {d w:World} {x:α} {cs:List Value} (h:cM d w) (hR:R d cs x) (hs:cs.length=sz) :
    LoopL R sz el d w d (w.alloc (.cells cs.toArray el)) (.slice (some ⟨w.heap.size,0,none⟩) 1 1) [x]:=by
 refine ⟨Gr.ext h (aJ _),⟨[cs],rfl,⟨by simp [hs],.inr ⟨w.heap.size,1,cs.toArray,rfl,aT _,(show (w.heap.push _)[w.heap.size]? = _ from Array.getElem?_push_size),aF _,by decide,by simp [hs],by simp [← hs]⟩⟩,fun c hc=>by rw [aM.1 hc]; exact hs,fun i y c hy hc => ?_,fun g hg => ?_⟩,fun b hb => ?_⟩
 ·rcases i with _ | i
  ·obtain rfl:=bk hy
   obtain rfl:=bk hc
   exact hR
  ·simp at hy
 ·obtain rfl:=bk hg
  exact h.out (aF _)
 ·obtain rfl:=bk hb
  exact aF _
end Go.E
namespace Go.Proofs
open Go Go.E Go.Sort Go.Proofs.Tryz
section
variable {k:aq} {d w:World}
theorem th {n:Nat} (hn:n≤1000) (hinc:cM d w) (hk:∀ d' w' v,Gr d w d' w'→Sl Cp 2 d' v (H0 n)→k v w'):ai prog 39 #[.int .i64 n] k w:=by
 refine al [.tmp 2] func39 ?_
 refine bA ?_
 have i0:LoopL Cp 2 205 d w d (w.alloc (.cells #[.int .u8 0,.string ByteArray.empty] 205)) (.slice (some ⟨w.heap.size,0,none⟩) 1 1) [(0,[])]:=LoopL.one (cs:=[.int .u8 0,str []]) hinc ⟨rfl,by decide⟩ rfl
 refine bZ (fun b:Nat × Value=>[(3,b.2),(6,.int .i64 n),(7,.int .i64 b.1)])
  (fun b w'=>b.1≤n∧∃ d1,LoopL Cp 2 205 d w d1 w' b.2 ((0,[]) :: List.replicate b.1 (2,[]))) (fun b _=>n - b.1) (0,.slice (some ⟨w.heap.size,0,none⟩) 1 1) (by kernel_rfl) ?_ ⟨aT _,d,i0⟩ ?_
 ·exact bU
 rintro K2 e ⟨i,v⟩ w1 ⟨i2,d1,i3⟩ hK2
 simp only at i2 i3
 rcases aH i n with hi | hi
 rotate_left
 ·have hi':¬ (i:Int) < n:=by omega
  refine bu @hi' ?_
  obtain rfl:i=n:=by omega
  obtain ⟨d2,g2,_,_,s2⟩:=i3.done Cp.mono
  exact hk d2 w1 v g2 s2
 have hi':(i:Int) < n:=by omega
 obtain ⟨css,o3⟩:=i3.o
 obtain ⟨va,vcap,rfl,_⟩:=i3.form
 refine bu @hi' ?_
 refine iL ((2,[]):Nat × Bytes) [.int .u8 2,str []] rw89 o3 ⟨rfl,by decide⟩ rfl (.inl rfl) rfl rfl (by simp [Value.oneCell',str]) (by rw [aZ,List.length_replicate]; omega) i3.g.j fun v2 w2 o2 k2 n2 j2 _ => ?_
 refine bA ?_
 refine hK2 _ _ (i+1,v2) ?_ ⟨hi,d1,?_⟩ (by simp only; omega)
 ·exact bU
 ·simp only
  rw [List.replicate_succ',← List.cons_append]
  exact i3.more o2 k2 n2 j2
theorem wI {v:Value} {l:List An} (hv:Sl zY 5 d v l) (hl:l.length≤100000) (hinc:cM d w) (hk:∀ d' w' v',Gr d w d' w'→Sl dh 3 d' v' (mE l)→k v' w'):ai prog 64 #[v] k w:=by
 obtain ⟨ka,kc,rfl⟩:=hv.form
 refine al [.tmp 2] func64 ?_
 refine bA ?_
 refine bZ (fun b:Nat × Value=>[(3,b.2),(6,.slice ka l.length kc),(7,.int .i64 l.length),(8,.int .i64 b.1)])
  (fun b w'=>b.1≤l.length∧∃ d1,LoopL dh 3 37 d w d1 w' b.2 (mE (l.take b.1))) (fun b _=>l.length - b.1) (0,.slice none 0 0) (by kernel_rfl) ?_ ⟨aT _,d,LoopL.nil hinc⟩ ?_
 ·exact bU
 rintro K2 e ⟨i,v⟩ w1 ⟨i2,d1,i3⟩ hK2
 simp only at i2 i3
 rcases aH i l.length with hi | hi
 rotate_left
 ·have hi':¬ (i:Int) < l.length:=by omega
  refine bu @hi' ?_
  obtain rfl:i=l.length:=by omega
  rw [ag] at i3
  obtain ⟨d2,g2,_,_,s2⟩:=i3.done dh.mono
  exact hk d2 w1 v g2 s2
 have hi':(i:Int) < l.length:=by omega
 obtain ⟨g,f,c,hv',hc,hat⟩:=(hv.inc zY.mono i3.g.i).at (by omega)
 obtain ⟨rfl,rfl⟩:=sEq hv'
 obtain ⟨x,hx⟩:=gEl hi
 obtain ⟨h0,h1,h2,h3,xa,xc,h4,hxk⟩:=py (hat i x hx)
 have h0:=i3.g.j _ _ _ h0
 have h1:=i3.g.j _ _ _ h1
 have h2:=i3.g.j _ _ _ h2
 have h3:=i3.g.j _ _ _ h3
 have h4:=i3.g.j _ _ _ h4
 have hmore:mE (l.take (i+1))=mE (l.take i)++if x.ok then [x.sp] else []:=by
  rw [bz hx]
  unfold mE
  rw [List.filter_append,az]
  cases h:x.ok <;> simp [List.filter_cons,h]
 obtain ⟨T,hT⟩:∃ T,T=w1.heap.size:=⟨_,rfl⟩
 obtain ⟨w2,hw2⟩:∃ w2,w2=w1.alloc (.cells #[.bool x.dn,.bool x.ok,.string ⟨x.sp.s.toArray⟩,.string ⟨x.sp.e.toArray⟩,.slice xa x.sp.ks.length xc] 95):=⟨_,rfl⟩
 have x2:bp w1 w2:=by rw [hw2]; exact aJ _
 have a1:w2.cell? ⟨T,1,none⟩=some (.bool x.ok):=by rw [hw2,hT]; exact bX @aA
 have a2:w2.cell? ⟨T,2,none⟩=some (.string ⟨x.sp.s.toArray⟩):=by rw [hw2,hT]; exact bX @aA
 have a3:w2.cell? ⟨T,3,none⟩=some (.string ⟨x.sp.e.toArray⟩):=by rw [hw2,hT]; exact bX @aA
 have a4:w2.cell? ⟨T,4,none⟩=some (.slice xa x.sp.ks.length xc):=by rw [hw2,hT]; exact bX @aA
 have i5:=i3.ext dh.mono x2
 refine vJ @hi' @h0 @h1 @h2 @h3 @h4 @aA ?_
 rw [← hw2,← hT]
 cases hok:x.ok with
 | false =>
  rw [hok] at a1 hmore
  refine bu @a1 ?_
  refine hK2 _ _ (i+1,v) ?_ ⟨hi,d1,?_⟩ (by simp only; omega)
  ·exact bU
  ·simp only
   rw [hmore,if_neg (by decide),ao]
   exact i5
 | true =>
  rw [hok] at a1 hmore
  obtain ⟨css,o5⟩:=i5.o
  obtain ⟨va,vcap,rfl,_⟩:=i5.form
  have hfl:(mE (l.take i)).length≤i:=by
   unfold mE
   rw [aR]
   refine ah (bN _ _) ?_
   rw [bE]; omega
  refine eO @a1 @a2 @a3 @a4 ?_
  refine iL x.sp [.string ⟨x.sp.s.toArray⟩,.string ⟨x.sp.e.toArray⟩,.slice xa x.sp.ks.length xc] rw27 o5 ⟨_,rfl,hxk⟩ rfl (.inl rfl) rfl rfl (by simp [Value.oneCell']) (by omega) i5.g.j fun v6 w6 o6 k6 n6 j6 _ => ?_
  refine bA ?_
  refine hK2 _ _ (i+1,v6) ?_ ⟨hi,d1,?_⟩ (by simp only; omega)
  ·exact bU
  ·simp only
   rw [hmore,if_pos rfl]
   exact i5.more o6 k6 n6 j6
end
end Go.Proofs
end
section
namespace Go.E
open Go Go.Sort Go.Proofs Go.Proofs.Tryz
structure SR where
 x:Sp
 sv:Value
 ev:Value
 kv:Value
 deriving Inhabited
def SR.good (d:World) (x:SR):Prop:=dR d x.sv x.x.s∧dR d x.ev x.x.e∧rY x.sv=true∧rY x.ev=true∧Sl KB 3 d x.kv x.x.ks
def SR.cells (x:SR):List Value:=[x.sv,x.ev,x.kv,.int .i8 0]
def kM (l:List SR):List Value:=l.flatMap SR.cells
theorem iq (x:SR) (l:List SR):kM (x :: l)=x.sv :: x.ev :: x.kv :: .int .i8 0 :: kM l:=rfl
theorem si (l m:List SR):kM (l++m)=kM l++kM m:=by simp [kM]
theorem sj (l:List SR):(kM l).length=l.length * 4:=by
 induction l with
 | nil=>rfl
 | cons x l ih=>rw [iq]; simp [ih]; omega
theorem Ev (l:List SR) (n:Nat):(kM l).take (n * 4)=kM (l.take n):=by
 induction l generalizing n with
 | nil=>simp [kM]
 | cons x l ih =>
  cases n with
  | zero=>simp [kM]
  | succ n=>rw [iq,List.take_succ_cons,iq,← ih,show (n+1) * 4=n * 4+1+1+1+1 by omega]; rfl
theorem sm {l:List SR} {i:Nat} {x:SR} (h:l[i]? = some x):(kM l)[i * 4]? = some x.sv∧(kM l)[i * 4+1]? = some x.ev∧(kM l)[i * 4+2]? = some x.kv∧(kM l)[i * 4+3]? = some (.int .i8 0):=by
 induction l generalizing i with
 | nil=>simp at h
 | cons y l ih =>
  rw [iq]
  cases i with
  | zero =>
   simp only [List.getElem?_cons_zero,aP] at h
   subst h
   exact ⟨rfl,rfl,rfl,rfl⟩
  | succ i =>
   have:=ih (i:=i) (by simpa using h)
   rw [show (i+1) * 4=i * 4+4 by omega]
   exact this
theorem wJ (l:List SR) (i:Nat) (x:SR) (h:i < l.length):((((kM l).set (i * 4) x.sv).set (i * 4+1) x.ev).set (i * 4+2) x.kv).set (i * 4+3) (.int .i8 0)=kM (l.set i x):=by
 induction l generalizing i with
 | nil=>simp at h
 | cons y l ih =>
  rw [iq]
  cases i with
  | zero=>rfl
  | succ i =>
   have:=ih i (by simpa using h)
   have e:(y :: l).set (i+1) x=y :: l.set i x:=rfl
   rw [show (i+1) * 4=i * 4+4 by omega,e,iq,← this]
   rfl
structure SRow (d w0 w:World) (Hb ho g cap:Nat) (a:Array SR):Prop where
 hd:w.cell? ⟨Hb,ho,none⟩=some (.slice (some ⟨g,0,none⟩) a.size cap)
 own:w.ownsRow 0 61 4 (.slice (some ⟨g,0,none⟩) a.size cap) a.size (kM a.toList)
 good:∀ x,x ∈ a.toList→x.good d
 keep:Keep (fun b _=>b=g) w0 w
 inc0:cM d w0
 lt:g < w0.heap.size
 hb:Hb < w0.heap.size
 ne:Hb≠g
 out:cj d g
structure SOwn (d w:World) (Hb ho:Nat) (v:Value) (l:List SR):Prop where
 hd:w.cell? ⟨Hb,ho,none⟩=some v
 own:w.ownsRow 0 61 4 v l.length (kM l)
 good:∀ x,x ∈ l→x.good d
section
variable {d w0 w:World} {Hb ho g cap:Nat} {a:Array SR}
theorem SRow.inc (h:SRow d w0 w Hb ho g cap a):cM d w:=h.inc0.keep h.keep (by rintro x _ rfl; exact h.out _)
theorem SRow.at (h:SRow d w0 w Hb ho g cap a) {i:Nat} (hi:i < a.size) :
    w.cell? ⟨g,i * 4,none⟩=some a[i]!.sv∧w.cell? ⟨g,i * 4+1,none⟩=some a[i]!.ev∧w.cell? ⟨g,i * 4+2,none⟩=some a[i]!.kv∧w.cell? ⟨g,i * 4+3,none⟩=some (.int .i8 0)∧a[i]!.good d:=by
 have e:a.toList[i]? = some a[i]! := by rw [aI a i hi]; simp [hi]
 obtain ⟨h1,h2,h3,h4⟩:=sm e
 exact ⟨bW h.own h1,bW h.own h2,bW h.own h3,bW h.own h4,h.good _ (aO e)⟩
theorem SRow.swapped (h:SRow d w0 w Hb ho g cap a) {i j:Nat} (hi:i < a.size) (hj:j < a.size) :
    SRow d w0 ((((((((w.setCell ⟨g,i * 4,none⟩ a[j]!.sv).setCell ⟨g,i * 4+1,none⟩ a[j]!.ev).setCell ⟨g,i * 4+2,none⟩ a[j]!.kv).setCell ⟨g,i * 4+3,none⟩ (.int .i8 0)).setCell ⟨g,j * 4,none⟩ a[i]!.sv).setCell ⟨g,j * 4+1,none⟩ a[i]!.ev).setCell ⟨g,j * 4+2,none⟩ a[i]!.kv).setCell ⟨g,j * 4+3,none⟩ (.int .i8 0)) Hb ho g cap (swp a i j):=by
 have e1:=cR (cR (cR (cR (cR (cR (cR (cR h.own (i * 4) a[j]!.sv) (i * 4+1) a[j]!.ev) (i * 4+2) a[j]!.kv) (i * 4+3) (.int .i8 0)) (j * 4) a[i]!.sv) (j * 4+1) a[i]!.ev) (j * 4+2) a[i]!.kv) (j * 4+3) (.int .i8 0)
 rw [wJ _ _ _ (by simpa using hi),wJ _ _ _ (by simpa using hj)] at e1
 have ne:=h.ne
 have ne2:=Ne.symm ne
 have es:(swp a i j).toList=(a.toList.set i a[j]!).set j a[i]! := by simp [swp]
 have hz:(swp a i j).size=a.size:=swp_size a i j
 refine ⟨?_,?_,?_,?_,h.inc0,h.lt,h.hb,ne,h.out⟩
 ·have:=h.hd
  rw [hz]
  exact bX @this
 ·rw [hz,es]; exact e1
 ·intro x hx
  rw [es] at hx
  rcases List.mem_or_eq_of_mem_set hx with hx | rfl
  ·rcases List.mem_or_eq_of_mem_set hx with hx | rfl
   ·exact h.good x hx
   ·exact (h.at hj).2.2.2.2
  ·exact (h.at hi).2.2.2.2
 ·exact ((((((((h.keep.set (fun _=>rfl)).set (fun _=>rfl)).set (fun _=>rfl)).set (fun _=>rfl)).set (fun _=>rfl)).set (fun _=>rfl)).set (fun _=>rfl)).set (fun _=>rfl))
theorem SRow.drew (h:SRow d w0 w Hb ho g cap a):SRow d w0 w.drew Hb ho g cap a:=⟨h.hd,h.own.drew,h.good,h.keep.drew,h.inc0,h.lt,h.hb,h.ne,h.out⟩
theorem SRow.alloc (h:SRow d w0 w Hb ho g cap a) (ob:Obj):SRow d w0 (w.alloc ob) Hb ho g cap a:=⟨(aJ ob).cell h.hd,h.own.alloc ob,h.good,h.keep.alloc ob,h.inc0,h.lt,h.hb,h.ne,h.out⟩
theorem SRow.set {b o:Nat} {v:Value} (h:SRow d w0 w Hb ho g cap a) (hb:w0.heap.size≤b):SRow d w0 (w.setCell ⟨b,o,none⟩ v) Hb ho g cap a:=by
 have h1:=h.lt
 have h2:=h.hb
 have kk:Keep (fun x _=>x=b) w (w.setCell ⟨b,o,none⟩ v):=bY rfl
 refine ⟨kk.some h.hd (by omega),aX h.own kk (fun g' hg o' he => ?_),h.good,h.keep.set (fun hlt=>by omega),h.inc0,h1,h2,h.ne,h.out⟩
 simp only [Value.ownBlock,aP] at hg
 omega
end
end Go.E
namespace Go.Proofs
open Go Go.E Go.Sort Go.Proofs.Tryz
section
variable {k:aq} {d w0 w:World} {Hb ho g cap:Nat} {a:Array SR}
def FH (x y:SR):Bool:=decide (x.x.e < y.x.e)
theorem Am:SWO FH where
 irrefl x:=by unfold FH; simp
 trans x y z:=by unfold FH; simp; grind
 ntrans x y z:=by unfold FH; simp; grind
theorem yW (h:SRow d w0 w Hb (ho+1) g cap a) (hc:w.cell? ⟨Hb,ho,none⟩=some (.func (.func 85) #[] #[])) {i j:Nat} (hi:i < a.size) (hj:j < a.size) (hk:k (.bool (FH a[i]! a[j]!)) w.drew) :
    ai prog 160 #[.pointer (some ⟨Hb,ho,none⟩),.int .i64 i,.int .i64 j] k w:=by
 have c0:=h.hd
 obtain ⟨p1,p2,_,_,pg⟩:=h.at hi
 obtain ⟨q1,q2,_,_,qg⟩:=h.at hj
 have hinc:=h.inc
 refine al [.tmp 6] func160 ?_
 refine bA ?_
 refine bF (sq [0,1,2] (.read 3 (sq [4,5,6] (.read 7 (sq [8,9,10] (.read 11 (sq [12,13,14] (.read 15 (sq [16,17,18] (.read 19 (.eff 20 [] (sq [21,22] .done)))))))))))) ?_
 refine eO @hc @c0 @p2 @q2 ?_
 refine dG (pg.2.1.inc hinc) (qg.2.1.inc hinc) ?_
 refine bA ?_
 have e:decide (eH a[i]!.x.e a[j]!.x.e < 0)=FH a[i]! a[j]! := by unfold FH; simp [fS]
 rw [e]; exact hk
theorem yX (h:SRow d w0 w Hb (ho+1) g cap a) {i j:Nat} (hi:i < a.size) (hj:j < a.size) (hk:∀ w',SRow d w0 w' Hb (ho+1) g cap (swp a i j)→w.heap.size≤w'.heap.size→(∀ b,b≠g→w'.heap[b]? = w.heap[b]?)→k (.tuple #[]) w') :
    ai prog 161 #[.pointer (some ⟨Hb,ho,none⟩),.int .i64 i,.int .i64 j] k w:=by
 have c0:=h.hd
 obtain ⟨p1,p2,p3,p4,pg⟩:=h.at hi
 obtain ⟨q1,q2,q3,q4,qg⟩:=h.at hj
 obtain ⟨a1,n1,e1⟩:=aY pg.1
 obtain ⟨a2,n2,e2⟩:=aY pg.2.1
 obtain ⟨a3,n3,e3⟩:=pg.2.2.2.2.form
 obtain ⟨a4,n4,e4⟩:=aY qg.1
 obtain ⟨a5,n5,e5⟩:=aY qg.2.1
 obtain ⟨a6,n6,e6⟩:=qg.2.2.2.2.form
 have ne:=h.ne
 have ne2:=Ne.symm ne
 have fg:∀ o,w.frozen? ⟨g,o,none⟩=false:=fun o=>cl h.own rfl o
 have hsw:=h.swapped hi hj
 rw [e1,e2,e3,e4,e5,e6] at hsw
 rw [e1] at p1
 rw [e2] at p2
 rw [e3] at p3
 rw [e4] at q1
 rw [e5] at q2
 rw [e6] at q3
 refine al [] func161 ?_
 refine bF (sq [0,1,2] (.read 3 (sq [4,5,6,7] (.read 8 (sq [9,10,11,12] (.read 13 (sq [14,15] (.read 16 (sq [17,18,19] (.read 20 (sq [21,22] (.read 23 (sq [24] (.eff 25 [] (sq [26] (.eff 27 [] .done)))))))))))))))) ?_
 have hd:∀ W:World,W.drew.heap=W.heap:=fun _=>rfl
 by_cases hij:i=j
 ·subst hij
  have x1:=e1.symm.trans e4
  have x2:=e2.symm.trans e5
  have x3:=e3.symm.trans e6
  simp only [aU,true_and] at x1 x2 x3
  obtain ⟨rfl,rfl⟩:=x1
  obtain ⟨rfl,rfl⟩:=x2
  obtain ⟨rfl,rfl⟩:=x3
  refine qh @c0 @p1 @p2 @p3 @p4 @fg ?_
  refine hk _ hsw.drew ?_ ?_
  ·simp only [World.size_drew,World.size_setCell]; exact aF _
  ·intro b hb
   rw [hd]
   simp only [gh hb]
 ·have d1:i * 4≠j * 4:=by omega
  refine JO @c0 @p1 @p2 @p3 @p4 @q1 @q2 @q3 @q4 @fg ?_
  refine hk _ hsw.drew ?_ ?_
  ·simp only [World.size_drew,World.size_setCell]; exact aF _
  ·intro b hb
   rw [hd]
   simp only [gh hb]
theorem H7 (hc:w0.cell? ⟨Hb,ho,none⟩=some (.func (.func 85) #[] #[])):Srt prog (.iface 222 (.pointer (some ⟨Hb,ho,none⟩))) FH w0.heap.size (fun w b=>SRow d w0 w Hb (ho+1) g cap b∧b.size < 1000000) where
 size h:=h.1.keep.size
 small h:=by omega
 less' h hi hj hk:=by
  rw [Tryz.iv222_Less]
  exact yW h.1 (h.1.keep.some hc h.1.ne) hi hj (hk _ ⟨h.1.drew,h.2⟩ rfl)
 swap' h hi hj hk:=by
  rw [Tryz.iv222_Swap]
  refine yX h.1 hi hj fun w' h2 h3 h4=>hk w' ⟨h2,by rw [swp_size]; exact h.2⟩ h3 fun b hb _=>h4 b ?_
  have:=h.1.lt
  omega
 alloc ob h:=⟨h.1.alloc ob,h.2⟩
 set h hb:=⟨h.1.set hb,h.2⟩
 drew h:=⟨h.1.drew,h.2⟩
theorem Ao {a:Option Addr} {n c:Nat} (h:w.cell? ⟨Hb,ho+1,none⟩=some (.slice a n c)) (hk:k (.int .i64 n) w):ai prog 159 #[.pointer (some ⟨Hb,ho,none⟩)] k w:=by
 refine al [.tmp 2] func159 ?_
 refine bu @h ?_
 exact hk
theorem yY {v:Value} {l:List SR} (h:SOwn d w Hb (ho+1) v l) (hc:w.cell? ⟨Hb,ho,none⟩=some (.func (.func 85) #[] #[])) (hinc:cM d w) (hne:∀ g,v.ownBlock=some g→g≠Hb∧cj d g) (hz:l.length < 1000000)
    (hk:∀ w' l',SOwn d w' Hb (ho+1) v l'→l'.Perm l→l'.Pairwise (fun x y=>FH y x=false)→Keep (fun b _=>v.ownBlock=some b) w w'→k (.tuple #[]) w') :
    ai prog 93 #[.iface 222 (.pointer (some ⟨Hb,ho,none⟩))] k w:=by
 have hHb:=aC h.hd
 rcases cg h.own with ⟨rfl,h0,hf⟩ | ⟨g,cap,rfl,hcap,hg⟩
 ·have hl:l=[]:=ak.1 h0
  subst hl
  have S:Srt prog (.iface 222 (.pointer (some ⟨Hb,ho,none⟩))) FH w.heap.size (fun w' (b:Array SR)=>b = #[]∧bp w w'):=by
   refine ⟨fun h=>h.2.size,fun h=>by rw [h.1]; simp,fun h hi _ _ => ?_,fun h hi _ _ => ?_,fun ob h=>⟨h.1,h.2.alloc ob⟩,fun h hb=>⟨h.1,h.2.set (fun hlt=>by omega)⟩,fun h=>⟨h.1,h.2.drew⟩⟩
   ·rw [h.1] at hi; simp at hi
   ·rw [h.1] at hi; simp at hi
  refine oE S Am (d := #[]) ⟨rfl,bp.refl w⟩ (fun {w2 d2 k2} hR hk2 => ?_) fun w' d' h1 h2 h3 => ?_
  ·rw [Tryz.iv222_Len]
   obtain ⟨rfl,hx⟩:=hR
   exact Ao (hx.cell h.hd) hk2
  ·obtain ⟨rfl,hx⟩:=h1
   exact hk w' [] ⟨hx.cell h.hd,aX h.own hx (fun _ _ _ h=>h),h.good⟩ (List.Perm.refl _) List.Pairwise.nil hx.keep
 ·obtain ⟨hgH,hgo⟩:=hne g rfl
  have K0:SRow d w w Hb (ho+1) g cap l.toArray:=⟨by simpa using h.hd,by simpa using h.own,by simpa using h.good,Keep.refl _ w,hinc,hg,hHb,Ne.symm hgH,hgo⟩
  refine oE (H7 (d:=d) (w0:=w) (Hb:=Hb) (ho:=ho) (g:=g) (cap:=cap) hc) Am (d:=l.toArray) ⟨K0,by simpa using hz⟩ (fun {w2 d2 k2} hR hk2 => ?_) fun w' d' h1 h2 h3 => ?_
  ·rw [Tryz.iv222_Len]
   exact Ao hR.1.hd hk2
  ·have hsz:d'.size=l.length:=by have:=h2.1; simpa using this
   have e:=h1.1.own
   have e2:=h1.1.hd
   rw [hsz] at e e2
   refine hk w' d'.toList ⟨e2,by simpa [hsz] using e,h1.1.good⟩ (by simpa using dU h2 (aF _)) ?_ (h1.1.keep.mono fun b o _ hb=>by rw [hb]; rfl)
   rw [bJ]
   intro i j hi hj hij
   simp only [Array.length_toList] at hi hj
   have s:=h3 i j (aT _) hij (by simp; omega)
   rw [aI d' i hi,aI d' j hj] at s
   simpa using s
end
end Go.Proofs
end
section
namespace Go.E
open Go Go.Sort Go.Proofs
theorem GJ {d:World} {kv:Value} {ks:List K} (h:Sl KB 3 d kv ks):fD jt 3 d kv ks:=fD.imp h fun _ _ _ _ h=>KB.key h
theorem SR.good.inc {d d2:World} {r:SR} (h:r.good d) (hi:cM d d2):r.good d2:=⟨h.1.inc hi,h.2.1.inc hi,h.2.2.1,h.2.2.2.1,h.2.2.2.2.inc KB.mono hi⟩
end Go.E
namespace Go.Proofs
open Go Go.E Go.Sort
section
variable {k:aq} {d w:World}
end
end Go.Proofs
end
section
namespace Go.E
open Go Go.Sort Go.Proofs Go.Proofs.Tryz
structure EmO (d w:World) (O A:Nat) (vo:Value) (out:List Sp):Prop where
 cA:w.cell? ⟨A,0,none⟩=some (.pointer (some ⟨O,0,none⟩))
 cO:w.cell? ⟨O,0,none⟩=some vo
 fO:∀ y,w.frozen? ⟨O,y,none⟩=false
 oo:∃ css,OwnL dh 3 37 d w vo out css
theorem EmO.keep {d w w2:World} {O A:Nat} {vo:Value} {out:List Sp} {M:Nat→Nat→Prop} (h:EmO d w O A vo out) (k:Keep M w w2) (h1:¬ M A 0) (h2:¬ M O 0) (h3:∀ g,vo.ownBlock=some g→∀ o,¬ M g o):EmO d w2 O A vo out:=by
 obtain ⟨css,o⟩:=h.oo
 exact ⟨k.some h.cA h1,k.some h.cO h2,fun y=>by rw [k.frozen O y (aC h.cO)]; exact h.fO y,css,o.keep k h3⟩
structure Gk (M:Nat→Nat→Prop) (d w d2 w2:World):Prop where
 k:Keep M w w2
 i:cM d d2
 j:cM d2 w2
 o:∀ b,b < w.heap.size→cj d b→cj d2 b
theorem Gk.trans {M M1 M2:Nat→Nat→Prop} {d w d1 w1 d2 w2:World} (h:Gk M1 d w d1 w1) (h2:Gk M2 d1 w1 d2 w2) (m1:∀ b o,b < w.heap.size→M1 b o→M b o) (m2:∀ b o,b < w.heap.size→M2 b o→M b o):Gk M d w d2 w2 :=
 ⟨(h.k.mono m1).tr h2.k m2,h.i.trans h2.i,h2.j,fun b hb ho=>h2.o b (aL hb h.k.size) (h.o b hb ho)⟩
theorem Gk.gr {M:Nat→Nat→Prop} {d w d2 w2:World} (h:Gr d w d2 w2):Gk M d w d2 w2:=⟨h.x.keep,h.i,h.j,h.o⟩
end Go.E
namespace Go.Proofs
open Go Go.E Go.Sort Go.Proofs.Tryz
section
variable {k:aq} {d w:World}
theorem Ew {O A:Nat} {vo sv ev kv:Value} {out:List Sp} {x:Sp} (e:EmO d w O A vo out) (hinc:cM d w) (hoO:cj d O) (hs:dR w sv x.s) (he:dR w ev x.e) (hv:fD jt 3 w kv x.ks) (hl:x.ks.length < 1000000) (hol:out.length < 100000)
    (nO:vo.ownBlock≠some O) (nA:vo.ownBlock≠some A) (hAO:A≠O)
    (hk:∀ d2 w2 vo2,EmO d2 w2 O A vo2 (out++[x])→Gk (fun b o=>b=O∧o=0∨vo.ownBlock=some b) d w d2 w2→cZ w vo vo2→k (.tuple #[]) w2) :
    ai prog 57 #[.agg #[sv,ev,kv,.int .i8 0],.pointer (some ⟨A,0,none⟩)] k w:=by
 obtain ⟨sa,sc,rfl⟩:=aY hs
 obtain ⟨ea,ec,rfl⟩:=aY he
 obtain ⟨na,nc,rfl⟩:=hv.form
 obtain ⟨css,oo⟩:=e.oo
 obtain ⟨oa,oc,rfl,_⟩:=oo.form
 refine al [] func57 ?_
 refine bA ?_
 refine bF (.read 0 (.read 1 (sq [2] (.read 3 (.read 4 (.eff 5 [0,1,3] (.eff 6 [0,1,3] (.eff 7 [0] (sq [8] (.eff 9 [] .done)))))))))) ?_
 obtain ⟨W,hW⟩:∃ W,W=(w.alloc (.cells #[.slice sa x.s.length sc,.slice ea x.e.length ec,.slice na x.ks.length nc,.int .i8 0] 61)).drew:=⟨_,rfl⟩
 have xW:bp w W:=by rw [hW]; exact bp.drew' (aJ _)
 have cA:=xW.cell e.cA
 have cO:=xW.cell e.cO
 have fO:∀ y,W.frozen? ⟨O,y,none⟩=false:=fun y=>by rw [xW.frozen O y (aC e.cO)]; exact e.fO y
 have a0:W.cell? ⟨w.heap.size,0,none⟩=some (.slice sa x.s.length sc):=by rw [hW]; exact bX @aA
 have a1:W.cell? ⟨w.heap.size,1,none⟩=some (.slice ea x.e.length ec):=by rw [hW]; exact bX @aA
 have a2:W.cell? ⟨w.heap.size,2,none⟩=some (.slice na x.ks.length nc):=by rw [hW]; exact bX @aA
 have a3:W.cell? ⟨w.heap.size,3,none⟩=some (.int .i8 0):=by rw [hW]; exact bX @aA
 rw [← hW]
 refine qh @cA @cO @a0 @a1 @a2 @a3 ?_
 refine dB (x:=x) (hs.inc xW.inc) (he.inc xW.inc) (hv.inc jt.mono xW.inc) ⟨0,rfl⟩ hl (hinc.trans xW.inc) fun d1 w1 v1 g1 s1 => ?_
 have x1:=xW.trans g1.x
 have e1:EmO d w1 O A (.slice oa out.length oc) out:=e.keep x1 (fun h=>h) (fun h=>h) fun _ _ _ h=>h
 obtain ⟨css1,oo1⟩:=e1.oo
 have oo1:=oo1.ghost dh.mono g1.i fun g hg=>g1.o g (by have:=oo.own.lt _ hg; exact aL this.2 xW.size) (oo.out g hg)
 obtain ⟨k1,c1,rfl⟩:=s1.form
 have cA:=e1.cA
 have cO:=e1.cO
 have cA3:∀ c t,(w1.alloc (.cells c t)).cell? ⟨A,0,none⟩=some (.pointer (some ⟨O,0,none⟩)):=fun c t=>(aJ _).cell cA
 have cO3:∀ c t,(w1.alloc (.cells c t)).cell? ⟨O,0,none⟩=some (.slice oa out.length oc):=fun c t=>(aJ _).cell cO
 refine eO @cA @cO @cA3 @cO3 ?_
 refine iL x [.string ⟨x.s.toArray⟩,.string ⟨x.e.toArray⟩,.slice k1 x.ks.length c1] rw27 oo1 ⟨_,rfl,s1⟩ rfl (.inl rfl) rfl rfl (by simp [Value.oneCell']) (by omega) g1.j fun v2 w2 o2 k2 n2 j2 _ => ?_
 have hOs:=aC e1.cO
 have cA2:=k2.some e1.cA nA
 have cO2:=k2.some e1.cO nO
 have fO2:∀ y,w2.frozen? ⟨O,y,none⟩=false:=fun y=>by rw [k2.frozen O y hOs]; exact e1.fO y
 obtain ⟨va,vc,rfl,_⟩:=o2.form
 refine dQ @cA2 @cO2 @fO2 ?_
 have k3:Keep (fun b y=>b=O∧y=0) w2 (w2.setCell ⟨O,0,none⟩ (.slice va (out++[x]).length vc)):=bY ⟨rfl,rfl⟩
 have hO1:cj d1 O:=g1.o O (aL (aC e.cO) xW.size) hoO
 have nv:∀ g,(Value.slice va (out++[x]).length vc).ownBlock=some g→g≠O:=fun g hg h=>by
  subst h
  rcases n2 g hg with h | h
  ·exact nO h
  ·omega
 refine hk d1 _ (.slice va (out++[x]).length vc) ⟨k3.some cA2 fun h=>hAO h.1,by rw [cJ,cO2]; rfl,fun y=>by rw [World.frozen?_setCell]; exact fO2 y,_,o2.keep k3 fun g hg o h=>nv g hg h.1⟩ ⟨?_,g1.i,?_,fun b hb ho=>g1.o b (aL hb xW.size) ho⟩ fun g hg => ?_
 ·exact (x1.keep.tr k2 fun b o hb h => .inr h).tr k3 fun b o hb h => .inl h
 ·exact j2.keep k3 fun b o hm=>by
    obtain ⟨rfl,_⟩:=hm
    exact hO1 o
 ·rcases n2 g hg with h | h
  ·exact .inl h
  ·exact .inr (ah x1.size h)
end
end Go.Proofs
end
section
namespace Go.E
open Go Go.Sort Go.Proofs Go.Proofs.Tryz
structure FrC (c:Nat→Nat) (d w:World) (F O A:Nat) (vo:Value) (out:List Sp) (vf:Value) (lf:List KR):Prop where
 em:EmO d w O A vo out
 f0:w.cell? ⟨F,0,none⟩=some (.func (.func 85) #[] #[])
 f2:w.cell? ⟨F,2,none⟩=some (.func (.func 57) #[] #[.pointer (some ⟨A,0,none⟩)])
 f5:(w.cell? ⟨F,5,none⟩).isSome=true
 f6:(w.cell? ⟨F,6,none⟩).isSome=true
 f7:KOwn d w F 7 vf lf
 fz:∀ y,w.frozen? ⟨F,y,none⟩=false
 oF:cj d F
 oO:cj d O
 cF:c F=0
 cO:c O=1
 cA:c A=2
 c3:∀ g,vo.ownBlock=some g→c g=3
 c4:∀ g,vf.ownBlock=some g→c g=4∧cj d g
theorem Ex {l:List SR} {i:Nat} {r:SR} (h:l[i]? = some r) (y:Sp) (v:Value):(kM l).set (i * 4) v=kM (l.set i ⟨y,v,r.ev,r.kv⟩):=by
 induction l generalizing i with
 | nil=>simp at h
 | cons z l ih =>
  rw [iq]
  cases i with
  | zero =>
   simp only [List.getElem?_cons_zero,aP] at h
   subst h
   rfl
  | succ i =>
   have:=ih (i:=i) (by simpa using h)
   have e:(z :: l).set (i+1) ⟨y,v,r.ev,r.kv⟩=z :: l.set i ⟨y,v,r.ev,r.kv⟩:=rfl
   rw [show (i+1) * 4=i * 4+4 by omega,e,iq,← this]
   rfl
theorem GK {α:Type} {a b:List α} {i:Nat} {x y:α} (ha:a[i]? = some y) (hb:b[i]? = some x):(a.take i++b.drop i).set i y=a.take (i+1)++b.drop (i+1):=by
 obtain ⟨h1,rfl⟩:=aQ.1 hb
 obtain ⟨h2,rfl⟩:=aQ.1 ha
 rw [cV h1,bz ha,List.set_append_right _ _ (by rw [bE]; omega),bE,Nat.min_eq_left (by omega),Nat.sub_self,ax]
 rfl
def fM (c:Nat→Nat):Nat→Nat→Prop:=fun b o=>c b=0∧5≤o∧o≤7∨c b=1∧o=0∨c b=3∨c b=4∨c b=5
section
variable {c:Nat→Nat} {d w w2:World} {F O A:Nat} {vo vf:Value} {out:List Sp} {lf:List KR}
theorem FrC.keep' (h:FrC c d w F O A vo out vf lf) {M:Nat→Nat→Prop} (k:Keep M w w2) (h0:∀ b o,M b o→c b=0∧(o=5∨o=6)∨5≤c b) (h5:(w2.cell? ⟨F,5,none⟩).isSome=true) (h6:(w2.cell? ⟨F,6,none⟩).isSome=true):FrC c d w2 F O A vo out vf lf:=by
 have n:∀ {b o},c b < 5→(c b=0→o≠5∧o≠6)→¬ M b o:=fun {b o} hb hn hm=>by have:=h0 b o hm; omega
 have hF:=h.cF
 have hO:=h.cO
 have hA:=h.cA
 exact ⟨h.em.keep k (n (by omega) (by omega)) (n (by omega) (by omega)) (fun g hg o=>n (by rw [h.c3 g hg]; omega) (by rw [h.c3 g hg]; omega)),k.some h.f0 (n (by omega) (by omega)),k.some h.f2 (n (by omega) (by omega)),h5,h6,⟨k.some h.f7.hd (n (by omega) (by omega)),aX h.f7.own k (fun g hg o=>n (by rw [(h.c4 g hg).1]; omega) (by rw [(h.c4 g hg).1]; omega)),h.f7.good⟩,fun y=>by rw [k.frozen F y (aC h.f0)]; exact h.fz y,h.oF,h.oO,hF,hO,hA,h.c3,h.c4⟩
theorem FrC.keep (h:FrC c d w F O A vo out vf lf) {M:Nat→Nat→Prop} (k:Keep M w w2) (h0:∀ b o,M b o→5≤c b):FrC c d w2 F O A vo out vf lf:=by
 have hF:=h.cF
 have n:∀ {b o},c b < 5→¬ M b o:=fun {b o} hb hm=>by have:=h0 b o hm; omega
 refine h.keep' k (fun b o hm => .inr (h0 b o hm)) ?_ ?_
 ·obtain ⟨v,hv⟩:=b7.1 h.f5
  rw [k.some hv (n (by omega))]; rfl
 ·obtain ⟨v,hv⟩:=b7.1 h.f6
  rw [k.some hv (n (by omega))]; rfl
theorem FrC.keys (h:FrC c d w F O A vo out vf lf) {M:Nat→Nat→Prop} (k:Keep M w w2) (h0:∀ b o,M b o→c b=0∧o=7∨c b=4∨5≤c b) {v:Value} {l:List KR} (hv:KOwn d w2 F 7 v l) (hc:∀ g,v.ownBlock=some g→vf.ownBlock=some g∨w.heap.size≤g) (hinc:cM d w) :
    ∃ c2:Nat→Nat,FrC c2 d w2 F O A vo out v l∧∀ b,b < w.heap.size→c2 b=c b:=by
 have n:∀ {b o},c b < 4→(c b=0→o≠7)→¬ M b o:=fun {b o} hb hn hm=>by have:=h0 b o hm; omega
 have hF:=h.cF
 have hO:=h.cO
 have hA:=h.cA
 have lF:=aC h.f0
 have lO:=aC h.em.cO
 have lA:=aC h.em.cA
 have i5:∀ {o},o≠7→(w.cell? ⟨F,o,none⟩).isSome=true→(w2.cell? ⟨F,o,none⟩).isSome=true:=fun ho hi=>by
  obtain ⟨u,hu⟩:=b7.1 hi
  rw [k.some hu (n (by omega) fun _=>ho)]; rfl
 refine ⟨fun b=>if b < w.heap.size then c b else 4,⟨h.em.keep k (n (by omega) (by omega)) (n (by omega) (by omega)) (fun g hg o=>n (by rw [h.c3 g hg]; omega) (by rw [h.c3 g hg]; omega)),k.some h.f0 (n (by omega) (by omega)),k.some h.f2 (n (by omega) (by omega)),i5 (by omega) h.f5,i5 (by omega) h.f6,hv,fun y=>by rw [k.frozen F y lF]; exact h.fz y,h.oF,h.oO,by rw [if_pos lF]; exact hF,by rw [if_pos lO]; exact hO,by rw [if_pos lA]; exact hA,fun g hg => ?_,fun g hg => ?_⟩,fun b hb=>if_pos hb⟩
 ·obtain ⟨css,oo⟩:=h.em.oo
  rw [if_pos (oo.own.lt _ hg).2]; exact h.c3 g hg
 ·rcases hc g hg with h1 | h1
  ·obtain ⟨h2,h3⟩:=h.c4 g h1
   exact ⟨by rw [if_pos (h.f7.own.lt _ h1).2]; exact h2,h3⟩
  ·exact ⟨if_neg (by omega),hinc.out h1⟩
theorem FrC.emit (h:FrC c d w F O A vo out vf lf) {d2:World} {vo2:Value} {out2:List Sp} (G:Gk (fun b o=>b=O∧o=0∨vo.ownBlock=some b) d w d2 w2) (em:EmO d2 w2 O A vo2 out2) (nw:cZ w vo vo2):∃ c2:Nat→Nat,FrC c2 d2 w2 F O A vo2 out2 vf lf∧∀ b,b < w.heap.size→c2 b=c b:=by
 have hF:=h.cF
 have hO:=h.cO
 have hA:=h.cA
 have lF:=aC h.f0
 have lO:=aC h.em.cO
 have lA:=aC h.em.cA
 have n:∀ {b o},c b≠1→c b≠3→¬ (b=O∧o=0∨vo.ownBlock=some b):=fun {b o} h1 h3 hm=>by
  rcases hm with ⟨rfl,_⟩ | hm
  ·exact h1 hO
  ·exact h3 (h.c3 b hm)
 have nF:∀ {o},¬ (F=O∧o=0∨vo.ownBlock=some F):=n (by omega) (by omega)
 have iF:∀ {o},(w.cell? ⟨F,o,none⟩).isSome=true→(w2.cell? ⟨F,o,none⟩).isSome=true:=fun hi=>by
  obtain ⟨u,hu⟩:=b7.1 hi
  rw [G.k.some hu nF]; rfl
 refine ⟨fun b=>if b < w.heap.size then c b else 3,⟨em,G.k.some h.f0 nF,G.k.some h.f2 nF,iF h.f5,iF h.f6,⟨G.k.some h.f7.hd nF,aX h.f7.own G.k fun g hg o=>n (by rw [(h.c4 g hg).1]; omega) (by rw [(h.c4 g hg).1]; omega),fun x hx => ?_⟩,fun y=>by rw [G.k.frozen F y lF]; exact h.fz y,G.o F lF h.oF,G.o O lO h.oO,by rw [if_pos lF]; exact hF,by rw [if_pos lO]; exact hO,by rw [if_pos lA]; exact hA,fun g hg => ?_,fun g hg => ?_⟩,fun b hb=>if_pos hb⟩
 ·obtain ⟨g1,g2,g3⟩:=h.f7.good x hx
  exact ⟨g1,g2.inc G.i,g3.inc G.i⟩
 ·rcases nw g hg with h1 | h1
  ·obtain ⟨css,oo⟩:=h.em.oo
   rw [if_pos (oo.own.lt _ h1).2]; exact h.c3 g h1
  ·exact if_neg (by omega)
 ·have hl:=(h.f7.own.lt _ hg).2
  rw [if_pos hl]
  exact ⟨(h.c4 g hg).1,G.o g hl (h.c4 g hg).2⟩
end
end Go.E
namespace Go.Proofs
open Go Go.E Go.Sort Go.Proofs.Tryz
section
variable {k:aq} {d w:World}
theorem wK {q:aq} {vf kv:Value} {acc:List KR} {ks:List K} (o:w.ownsRow 0 117 3 vf acc.length (dA acc)) (hkv:Sl KB 3 d kv ks) (hne:ks≠[]) (hinc:cM d w) (hb:acc.length+ks.length < 100000000)
    (hk:∀ v2 w2 xs,w2.ownsRow 0 117 3 v2 (acc++xs).length (dA (acc++xs))→xs.map KR.k=ks→(∀ x ∈ xs,x.good d)→Keep (fun b _=>vf.ownBlock=some b) w w2→cZ w vf v2→q v2 w2):me prog #[143,57] 143 #[vf,kv] q w:=by
 obtain ⟨xs,x1,x2,x3⟩:=uQ (GJ hkv) hne
 have hxl:xs.length=ks.length:=by rw [← x1,aR]
 obtain ⟨va,vc,rfl,_⟩:=bP o
 rw [Ds]
 refine pO (m:=ks.length) (news:=dA xs) rw143 o (by rw [ic,hxl]) (x3 w hinc) (ki x2) (by omega) fun v2 w2 o2 k2 n2 _ => ?_
 refine hk v2 w2 xs (by rw [ib,aE,hxl]; exact o2) x1 x2 (k2 _ fun b o hb _=>hb) fun g hg => ?_
 rcases n2 with h | ⟨g2,h,h',_⟩
 ·exact .inl (by rw [← h]; exact hg)
 ·rw [h] at hg
  simp only [aP] at hg
  subst hg
  exact .inr h'
theorem H8 {a:Option Addr} {n c:Nat} {x:Value} {q:aq}:me prog #[57,143] 57 #[.slice a n c,x] q w=dH prog (Builtin.append_ #[57,57] 57 #[.slice a n c,x]) q w:=by
 have h2:prog.underlying 57=some (.slice 117):=by kernel_rfl
 have h1:prog.underlying 143=some (.slice 117):=by kernel_rfl
 have:=Dr (P:=prog) (t:=57) (t2:=143) (ty:=57) (a:=a) (n:=n) (c:=c) (x:=x) (w:=w) h2 h1
 have e:me prog #[57,143] 57 #[.slice a n c,x] q w=dH prog (Builtin.append_ #[57,143] 57 #[.slice a n c,x]) q w:=by simp only [me]
 rw [e]
 simp only [dH,this]
theorem Ey {q:aq} {v:Value} {l:List KR} (o:w.ownsRow 0 117 3 v l.length (dA l)) (hg:∀ x ∈ l,x.good d) (hinc:cM d w) (hb:l.length < 100000000) (hk:∀ v2 w2,fD jt 3 w2 v2 (l.map KR.k)→bp w w2→q v2 w2):me prog #[57,143] 57 #[.slice none 0 0,v] q w:=by
 have hl:rW w v l.length (dA l):=by
  rcases cg o with ⟨rfl,h0,hf⟩ | ⟨g,cap,rfl,_,_⟩
  ·exact ⟨h0.symm,h0,hf⟩
  ·refine ⟨rfl,fun j u hj => ?_⟩
   rw [dS rfl,Nat.zero_add]
   exact bW o hj
 rw [H8]
 refine pO (n:=0) (xs:=[]) (m:=l.length) (news:=dA l) rw57 cw (ic l) hl (ki hg) (by omega) fun v2 w2 o2 k2 _ _ => ?_
 have x2:bp w w2:=k2 _ fun b o hb _=>by simp [Value.ownBlock] at hb
 rw [Nat.zero_add,List.nil_append] at o2
 obtain ⟨a,c,rfl,_⟩:=bP o2
 exact hk _ w2 (nJ (d:=d) o2 rfl (ag) hg (hinc.trans x2.inc)) x2
end
end Go.Proofs
end
