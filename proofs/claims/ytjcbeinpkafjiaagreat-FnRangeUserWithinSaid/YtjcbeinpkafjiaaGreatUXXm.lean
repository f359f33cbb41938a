/- Parts of the proof: Xm. -/
import Derived.Test.YtjcbeinpkafjiaaGreatU23
import Derived.Test.YtjcbeinpkafjiaaGreatU27
import Derived.Test.YtjcbeinpkafjiaaGreatUXXk
set_option linter.all false
set_option maxRecDepth 10000
namespace Go.E
open Go Go.Sort Go.Proofs Go.Proofs.Tryz
theorem flatn_set {sz:Nat} {css:List (List Value)} (h:∀ cs ∈ css,cs.length=sz) {i j:Nat} {cs:List Value} {u:Value} (hi:css[i]? = some cs) (hj:j < sz):css.flatten.set (i * sz+j) u=(css.set i (cs.set j u)).flatten:=by
 induction css generalizing i with
 | nil=>simp at hi
 | cons c css ih =>
  have h1:=h c List.mem_cons_self
  cases i with
  | zero =>
   simp only [List.getElem?_cons_zero,Option.some.injEq] at hi
   subst hi
   rw [Nat.zero_mul,Nat.zero_add,List.flatten_cons,List.set_append_left _ _ (by omega),List.set_cons_zero,List.flatten_cons]
  | succ i =>
   rw [List.getElem?_cons_succ] at hi
   rw [List.flatten_cons,List.set_append_right _ _ (by rw [h1,Nat.add_mul]; omega),h1,show (i+1) * sz+j - sz=i * sz+j by rw [Nat.add_mul]; omega,List.set_cons_succ,List.flatten_cons,ih (fun cs hcs=>h cs (List.mem_cons_of_mem _ hcs)) hi]
section
variable {α:Type} {R:Elem α} {sz:Nat} {el:TypeId} {d w d1 w1:World} {l:List α} {g n c:Nat}
theorem LoopL.set1 (h:LoopL R sz el d w d1 w1 (.slice (some ⟨g,0,none⟩) n c) l) (hn:l.length=n) {i j:Nat} {y y2:α} {u:Value} (hi:l[i]? = some y) (hj:j < sz) (hR:∀ cs,R d1 cs y→R d1 (cs.set j u) y2) :
    LoopL R sz el d w d1 (w1.setCell ⟨g,i * sz+j,none⟩ u) (.slice (some ⟨g,0,none⟩) n c) (l.set i y2):=by
 obtain ⟨css,o⟩:=h.o
 subst hn
 have hg:=h.n g rfl
 have ho:=o.out g rfl
 have hlt:=(List.getElem?_eq_some_iff.1 hi).1
 obtain ⟨cs,hcs⟩:∃ cs,css[i]? = some cs:=⟨_,List.getElem?_eq_getElem (by rw [o.len]; exact hlt)⟩
 refine ⟨⟨ext_set h.g.x hg,h.g.i,fun b o2 u2 hu => ?_,h.g.o⟩,⟨css.set i (cs.set j u),?_,?_,?_,?_,o.out⟩,h.n⟩
 ·refine (Keep.set (b:=g) (o:=i * sz+j) (v:=u) (Keep.refl (M:=fun b _=>b=g) w1) fun _=>rfl).some (h.g.j _ _ _ hu) fun hb => ?_
  subst hb
  rw [ho o2] at hu
  simp at hu
 ·rw [List.length_set,List.length_set,o.len]
 ·have:=own_set o.own (i * sz+j) u
  rw [flatn_set o.sz hcs hj] at this
  rw [List.length_set]
  exact this
 ·intro x hx
  rcases List.mem_or_eq_of_mem_set hx with hx | rfl
  ·exact o.sz x hx
  ·rw [List.length_set]; exact o.sz cs (List.mem_of_getElem? hcs)
 ·intro q x cs2 hx hc
  by_cases hq:q=i
  ·subst hq
   rw [List.getElem?_set_self hlt] at hx
   rw [List.getElem?_set_self (by rw [o.len]; exact hlt)] at hc
   simp only [Option.some.injEq] at hx hc
   subst hx hc
   exact hR cs (o.R q y cs hi hcs)
  ·rw [List.getElem?_set_ne (Ne.symm hq)] at hx hc
   exact o.R q x cs2 hx hc
theorem LoopL.at (h:LoopL R sz el d w d1 w1 (.slice (some ⟨g,0,none⟩) n c) l) (hn:l.length=n) {i:Nat} {x:α} (hi:l[i]? = some x):∃ cs,R d1 cs x∧∀ j u,cs[j]? = some u→w1.cell? ⟨g,i * sz+j,none⟩=some u:=by
 obtain ⟨css,o⟩:=h.o
 subst hn
 have hlt:=(List.getElem?_eq_some_iff.1 hi).1
 obtain ⟨cs,hcs⟩:∃ cs,css[i]? = some cs:=⟨_,List.getElem?_eq_getElem (by rw [o.len]; exact hlt)⟩
 exact ⟨cs,o.R i x cs hi hcs,fun j u hu=>o.cell hcs hu⟩
theorem LoopL.frozen (h:LoopL R sz el d w d1 w1 (.slice (some ⟨g,0,none⟩) n c) l) (o:Nat):w1.frozen? ⟨g,o,none⟩=false:=by
 obtain ⟨css,oo⟩:=h.o
 exact own_frozen oo.own rfl o
theorem LoopL.block {v:Value} (h:LoopL R sz el d w d1 w1 v l) {i:Nat} (hi:i < l.length):∃ g c,v = .slice (some ⟨g,0,none⟩) l.length c:=by
 obtain ⟨css,o⟩:=h.o
 rcases own_form o.own with ⟨rfl,h0,_⟩ | ⟨g,cap,rfl,_,hg⟩
 ·omega
 ·exact ⟨g,cap,rfl⟩
end
end Go.E
namespace Go.Proofs
open Go Go.E Go.Sort Go.Proofs.Tryz
section
variable {k:Kont} {d w:World}
theorem rangeView_run {v:Value} {l:List (List Sp)} {snap:Nat} {lb hb:Bool} {ls hs:Bytes} (hv:Sl LvE 1 d v l) (hl:l.length≤6) (hs1:∀ x ∈ l,x.length≤100) (hks:∀ x ∈ l,∀ y ∈ x,y.ks.length≤40) (hinc:Inc d w)
    (hk:∀ d2 w2 v2,Gr d w d2 w2→Sl SpE 3 d2 v2 (viewP l.flatten snap (bdO2 lb ls) (bdO2 hb hs))→k v2 w2):callK prog 16 #[v,.int .u64 snap,.agg #[.string ⟨ls.toArray⟩,.bool lb],.agg #[.string ⟨hs.toArray⟩,.bool hb]] k w:=by
 obtain ⟨ka,kc,rfl⟩:=hv.form
 refine callZ [.tmp 8] func16 ?_
 refine goZ ?_
 refine drawZ (sq [0,1] (.read 3 (.read 4 (sq [7] (.eff 2 [3,4] (.eff 5 [] (sq [6] .done))))))) ?_
 obtain ⟨A,hA⟩:∃ A,A=w.heap.size:=⟨_,rfl⟩
 obtain ⟨W,hW⟩:∃ W,W=((w.alloc (.cells #[.string ⟨ls.toArray⟩,.bool lb] 31)).alloc (.cells #[.string ⟨hs.toArray⟩,.bool hb] 31)).drew:=⟨_,rfl⟩
 have xW:Ext w W:=by rw [hW]; exact Ext.drew' ((ext_alloc _).trans (ext_alloc _))
 have a0:W.cell? ⟨A,0,none⟩=some (.string ⟨ls.toArray⟩):=by rw [hW,hA]; exact eY1 @cell_newN
 have a1:W.cell? ⟨A,1,none⟩=some (.bool lb):=by rw [hW,hA]; exact eY1 @cell_newN
 have b0:W.cell? ⟨A+1,0,none⟩=some (.string ⟨hs.toArray⟩):=by rw [hW,hA]; exact eY1 @cell_newN
 have b1:W.cell? ⟨A+1,1,none⟩=some (.bool hb):=by rw [hW,hA]; exact eY1 @cell_newN
 refine gY1 @cell_newN ?_
 rw [← hA,← hW]
 have hfl6:=flatten_length_le (Lv:=l) (n:=100) hs1
 have l6:l.length * 100≤6 * 100:=Nat.mul_le_mul_right _ hl
 have hml:(mergedP l.flatten snap).length≤1200:=by
  unfold mergedP
  rw [List.length_map]
  have:=fragsP_length l.flatten
  omega
 refine merged_run hv hl hs1 hks (hinc.trans xW.inc) fun d1 w1 v1 g1 s1 => ?_
 have a0':=g1.x.cell a0
 have a1':=g1.x.cell a1
 have b0':=g1.x.cell b0
 have b1':=g1.x.cell b1
 refine gY4 @a0' @a1' @b0' @b1' ?_
 refine bounded_run s1 (by omega) g1.j fun d2 w2 v2 g2 s2 => ?_
 have gW:=(Gr.ext hinc xW).trans (g1.trans g2)
 have hmk:∀ f ∈ mergedP l.flatten snap,f.ks.length≤24000:=fun f hf=>by
  unfold mergedP at hf
  obtain ⟨f',hf',rfl⟩:=List.mem_map.1 hf
  obtain ⟨s,t,e⟩:=frag_ks hf'
  have:=coverK_len (l:=l.flatten) (s:=s) (e:=t) (m:=40) fun y hy=>by
   obtain ⟨L,hL,hy⟩:=List.mem_flatten.1 hy
   exact hks L hL y hy
  refine Nat.le_trans (List.length_filter_le _ _) ?_
  rw [e,(canonP_perm _).length_eq]
  have h2:l.flatten.length * 40≤600 * 40:=Nat.mul_le_mul_right _ (by omega)
  omega
 unfold viewP at hk
 obtain ⟨F,hF⟩:∃ F,F=(mergedP l.flatten snap).filter (bdP (bdO2 lb ls) (bdO2 hb hs)):=⟨_,rfl⟩
 have hFk:∀ f ∈ F,f.ks.length≤24000:=fun f hf=>hmk f (by rw [hF] at hf; exact (List.mem_filter.1 hf).1)
 have hFl:F.length≤1200:=by rw [hF]; exact Nat.le_trans (List.length_filter_le _ _) hml
 rw [← hF] at s2 hk
 obtain ⟨fa,fc,rfl⟩:=s2.form
 refine goZ ?_
 refine loopC (fun b:Nat × Value=>[(9,b.2),(21,.slice fa F.length fc),(22,.int .i64 F.length),(23,.int .i64 b.1)])
  (fun b w'=>b.1≤F.length∧∃ d1,LoopL SpE 3 46 d2 w2 d1 w' b.2 (((F.take b.1).map viewS).foldl joinS [])) (fun b _=>F.length - b.1) (0,.slice none 0 0) (by kernel_rfl) ?_ ⟨Nat.zero_le _,d2,LoopL.nil g2.j⟩ ?_
 ·exact agZ
 rintro K2 e ⟨i,vo⟩ w3 ⟨i2,d3,i3⟩ hK2
 simp only at i2 i3
 rcases Nat.lt_or_ge i F.length with hi | hi
 rotate_left
 ·have hi':¬ (i:Int) < F.length:=by omega
  refine gY1 @hi' ?_
  obtain rfl:i=F.length:=by omega
  rw [List.take_length] at i3
  obtain ⟨d4,g4,_,_,s4⟩:=i3.done SpE.mono
  exact hk d4 w3 vo (gW.trans g4) s4
 have hi':(i:Int) < F.length:=by omega
 obtain ⟨g,f,c,hv',hc,hat⟩:=(s2.inc SpE.mono (i3.g.i.trans i3.g.j)).at (by omega)
 obtain ⟨rfl,rfl⟩:fa=some ⟨g,f,none⟩∧fc=c:=by simpa using hv'
 obtain ⟨x,hx⟩:∃ x,F[i]? = some x:=⟨_,List.getElem?_eq_getElem hi⟩
 have hxm:=List.mem_of_getElem? hx
 have hxl:=hFk x hxm
 obtain ⟨h0,h1,a,cc,h2,hkx⟩:=cells_spe (hat i x hx)
 obtain ⟨out,hout⟩:∃ out,out=((F.take i).map viewS).foldl joinS []:=⟨_,rfl⟩
 have hol:out.length≤i:=by
  have:=foldJ_length ((F.take i).map viewS) []
  rw [hout]
  rw [List.length_map,take_len i2] at this
  simpa using this
 have more:((F.take (i+1)).map viewS).foldl joinS []=joinS out (viewS x):=by
  rw [take_more hx,List.map_append,List.foldl_append,← hout]
  rfl
 rw [← hout] at i3
 obtain ⟨B,hB⟩:∃ B,B=w3.heap.size:=⟨_,rfl⟩
 obtain ⟨w4,hw4⟩:∃ w4,w4=((((w3.alloc (.cells #[.string ⟨x.s.toArray⟩,.string ⟨x.e.toArray⟩,.slice a x.ks.length cc] 46)).alloc (.cells #[.string ByteArray.empty,.string ByteArray.empty,.slice none 0 0] 46)).setCell ⟨w3.heap.size+1,0,none⟩ (.string ⟨x.s.toArray⟩)).setCell ⟨w3.heap.size+1,1,none⟩ (.string ⟨x.e.toArray⟩)).setCell ⟨w3.heap.size+1,2,none⟩ (.slice none 0 0):=⟨_,rfl⟩
 have x4:Ext w3 w4:=by rw [hw4]; exact ext_set (ext_set (ext_set ((ext_alloc _).trans (ext_alloc _)) (by omega)) (by omega)) (by omega)
 have z4:w4.heap.size=B+2:=by rw [hw4,hB]; simp only [World.size_setCell,World.size_alloc]
 have c0:w4.cell? ⟨B+1,0,none⟩=some (.string ⟨x.s.toArray⟩):=by rw [hw4,hB]; exact eY1 @cell_newN
 have c1:w4.cell? ⟨B+1,1,none⟩=some (.string ⟨x.e.toArray⟩):=by rw [hw4,hB]; exact eY1 @cell_newN
 have c2:w4.cell? ⟨B+1,2,none⟩=some (.slice none 0 0):=by rw [hw4,hB]; exact eY1 @cell_newN
 have f4:∀ y,w4.frozen? ⟨B+1,y,none⟩=false:=fun y=>by rw [hw4,hB]; exact eY1 @frozen_newN
 refine gY6 @hi' @h0 @h1 @h2 @cell_newN @frozen_newN ?_
 rw [← hw4,← hB]
 refine rangeState_run (hkx.inc KE.mono x4.inc) (by omega) fun v5 w5 x5 o5 n5 => ?_
 have hstl:=stateP_length x.ks
 have hvs:viewS x=⟨x.s,x.e,(stateP [] x.ks).map bareK⟩:=rfl
 obtain ⟨st,hst⟩:∃ st,st=stateP [] x.ks:=⟨_,rfl⟩
 rw [← hst] at o5 hstl hvs
 have n5b:∀ g,v5.ownBlock=some g→g < w5.heap.size:=fun g hg=>(o5.own.lt _ hg).2
 have x35:=x4.trans x5
 obtain ⟨va5,vc5,rfl,_⟩:=o5.form
 have z5:=x5.size
 refine goZ ?_
 refine cutL (fun _:Unit=>[(9,vo),(12,.pointer (some ⟨B+1,0,none⟩)),(21,.slice (some ⟨g,f,none⟩) F.length fc),(22,.int .i64 F.length),(23,.int .i64 i)])
  (fun _ w'=>Ext w3 w'∧w'.cell? ⟨B+1,0,none⟩=some (.string ⟨x.s.toArray⟩)∧w'.cell? ⟨B+1,1,none⟩=some (.string ⟨x.e.toArray⟩)∧∃ v,w'.cell? ⟨B+1,2,none⟩=some v∧OwnC kce 3 88 w' v (st.map bareK)∧∀ g,v.ownBlock=some g→w3.heap.size≤g) (by kernel_rfl) (fun K hK => ?_) ?_
 ·refine loopC (fun j:Nat=>[(9,vo),(12,.pointer (some ⟨B+1,0,none⟩)),(21,.slice (some ⟨g,f,none⟩) F.length fc),(22,.int .i64 F.length),(23,.int .i64 i),(34,.slice va5 st.length vc5),(35,.int .i64 st.length),(36,.int .i64 j)])
    (fun j w'=>j≤st.length∧Ext w3 w'∧w5.heap.size≤w'.heap.size∧w'.cell? ⟨B+1,0,none⟩=some (.string ⟨x.s.toArray⟩)∧w'.cell? ⟨B+1,1,none⟩=some (.string ⟨x.e.toArray⟩)∧(∀ y,w'.frozen? ⟨B+1,y,none⟩=false)∧OwnC sce 2 64 w' (.slice va5 st.length vc5) st ∧
     ∃ v,w'.cell? ⟨B+1,2,none⟩=some v∧OwnC kce 3 88 w' v ((st.take j).map bareK)∧∀ g,v.ownBlock=some g→w5.heap.size≤g) (fun j _=>st.length - j) 0 (by kernel_rfl) ?_
     ⟨Nat.zero_le _,x35,Nat.le_refl _,x5.cell c0,x5.cell c1,fun y=>by rw [x5.frozen _ y (by omega)]; exact f4 y,o5,_,x5.cell c2,OwnC.nil kce_len,by simp [Value.ownBlock]⟩ ?_
  ·exact agZ
  rintro K3 e3 j w6 ⟨j1,j2,j3,j4,j5,j6,j7,v,j8,j9,j10⟩ hK3
  rcases Nat.lt_or_ge j st.length with hj | hj
  rotate_left
  ·have hj':¬ (j:Int) < st.length:=by omega
   refine gY1 @hj' ?_
   obtain rfl:j=st.length:=by omega
   rw [List.take_length] at j9
   refine hK _ _ () ?_ ⟨j2,j4,j5,v,j8,j9,fun g hg=>by have:=j10 g hg; omega⟩
   exact agZ
  have hj':(j:Int) < st.length:=by omega
  obtain ⟨bg,bc',hbv,hbg⟩:=j7.block hj
  obtain ⟨rfl,rfl⟩:va5=some ⟨bg,0,none⟩∧vc5=bc':=by simpa using hbv
  have hbg5:=n5b bg rfl
  have hbg4:=n5 bg rfl
  obtain ⟨y,hy⟩:∃ y,st[j]? = some y:=⟨_,List.getElem?_eq_getElem hj⟩
  have p0:=j7.cell hy (j:=0) rfl
  have p1:=j7.cell hy (j:=1) rfl
  simp only [str,Nat.add_zero] at p0 p1
  obtain ⟨w7,hw7⟩:∃ w7,w7=w6.alloc (.cells #[.string ⟨y.1.toArray⟩,.string ⟨y.2.toArray⟩] 64):=⟨_,rfl⟩
  have x7:Ext w6 w7:=by rw [hw7]; exact ext_alloc _
  have j8':=x7.cell j8
  obtain ⟨T,hT⟩:∃ T,T=w6.heap.size:=⟨_,rfl⟩
  have t0:w7.cell? ⟨T,0,none⟩=some (.string ⟨y.1.toArray⟩):=by rw [hw7,hT]; exact eY1 @cell_newN
  have t1:w7.cell? ⟨T,1,none⟩=some (.string ⟨y.2.toArray⟩):=by rw [hw7,hT]; exact eY1 @cell_newN
  obtain ⟨va,vc,rfl,_⟩:=j9.form
  have hS6:=lt_of_cell j8
  refine gY5 @hj' @p0 @p1 @j8 @cell_newN ?_
  rw [← hw7,← hT]
  refine appC1 (bareK y) rw44 (j9.ext x7) rfl (.inl rfl) (by rw [hw7,World.size_alloc,hT]) (kce_one _) (by rw [List.length_map,take_len j1]; omega) fun v8 w8 o8 k8 n8 => ?_
  have j10':∀ g,v8.ownBlock=some g→w5.heap.size≤g:=fun g hg=>by
   rcases n8 g hg with h | h
   ·exact j10 g h
   ·have:=x7.size; omega
  have nS:∀ b,b < w5.heap.size→(Value.slice va ((st.take j).map bareK).length vc).ownBlock≠some b:=fun b hb h=>by have:=j10 b h; omega
  have q2:=k8.some j8' (nS _ (by omega))
  have f8:∀ y,w8.frozen? ⟨B+1,y,none⟩=false:=fun y=>by rw [k8.frozen _ y (by have:=x7.size; omega),x7.frozen _ y hS6]; exact j6 y
  obtain ⟨va8,vc8,rfl,_⟩:=o8.form
  refine gY2 @q2 @f8 ?_
  have k9:Keep (fun b y=>b=B+1∧y=2) w8 (w8.setCell ⟨B+1,2,none⟩ (.slice va8 ((st.take j).map bareK++[bareK y]).length vc8)):=keep_set ⟨rfl,rfl⟩
  refine hK3 _ _ (j+1) ?_ ⟨hj,ext_set ((j2.trans x7).tr k8 fun b o hb h=>by have:=j10 b h; have:=x35.size; omega) (by omega),?_,k9.some (k8.some (x7.cell j4) (nS _ (by omega))) (by omega),k9.some (k8.some (x7.cell j5) (nS _ (by omega))) (by omega),fun y=>by rw [World.frozen?_setCell]; exact f8 y,
   ((j7.ext x7).keep k8 fun g hg o h=>nS g (by simp [Value.ownBlock] at hg; omega) h).keep k9 fun g hg o h=>by simp [Value.ownBlock] at hg; omega,_,by rw [cell_self,q2]; rfl,?_,j10'⟩ (by omega)
  ·exact agZ
  ·rw [World.size_setCell]; have:=x7.size; have:=k8.size; omega
  ·rw [take_more hy,List.map_append]
   exact o8.keep k9 fun g hg o h=>by have:=j10' g hg; omega
 rintro e _ w6 ⟨j2,c0,c1,v,c2,o6,n6⟩
 obtain ⟨d5,g5,e5⟩:=grAll i3.g.j j2
 have i6:=i3.call SpE.mono g5
 have hsl:Sl KE 3 d5 v (st.map bareK):=o6.slg (fun y hy=>by
  obtain ⟨p,_,rfl⟩:=List.mem_map.1 hy
  exact ⟨rfl,show (0:Nat) < _ by decide⟩) fun g hg o u hu=>e5 _ _ _ (n6 g hg) hu
 obtain ⟨va,vc,rfl,_⟩:=o6.form
 rcases List.eq_nil_or_concat out with rfl | ⟨o',y,hoy⟩
 ·obtain ⟨vo1,vo2,rfl,_⟩:=i6.form
  have hj0:joinS [] (⟨x.s,x.e,st.map bareK⟩:Sp)=[]++[⟨x.s,x.e,st.map bareK⟩]:=rfl
  have hneg:¬ (0:Int)≤((0:Nat):Int) - 1:=by omega
  simp (disch:=first | exact dZ | fail) only [go_sem,↓reduceIte,Nat.reduceEqDiff,Nat.reduceAdd,List.length_nil]
  refine drawZ (sq [0,1,2,3,4,5,6] (.read 7 (sq [8] (.read 9 (sq [10,11,12,13] (.read 14 (sq [15,16,17,18,19,20,21,22] (.read 23 (sq [24] (.read 25 (.eff 26 [] (sq [27] .done)))))))))))) ?_
  refine gY4 @hneg @c0 @c1 @c2 ?_
  have iA:=i6.ext SpE.mono (Ext.drew' (Ext.refl w6))
  obtain ⟨css,oo⟩:=iA.o
  refine appN (⟨x.s,x.e,st.map bareK⟩:Sp) [.string ⟨x.s.toArray⟩,.string ⟨x.e.toArray⟩,.slice va (st.map bareK).length vc] rw28 oo ⟨_,rfl,hsl⟩ rfl (.inl rfl) rfl rfl (by simp [Value.oneCell']) (by omega) iA.g.j fun v8 w8 o8 k8 n8 j8 _ => ?_
  refine goZ ?_
  refine hK2 _ _ (i+1,v8) ?_ ⟨hi,d5,by simp only; rw [more,hvs,hj0]; exact iA.more o8 k8 n8 j8⟩ (by simp only; omega)
  exact agZ
 obtain rfl:out=o'++[y]:=by rw [hoy,List.concat_eq_append]
 have hol2:(o'++[y]).length=o'.length+1:=by simp
 obtain ⟨vg,vcap,rfl⟩:=i6.block (i:=0) (by omega)
 have hlast:(o'++[y])[o'.length]? = some y:=by rw [List.getElem?_append_right (Nat.le_refl _),Nat.sub_self]; rfl
 obtain ⟨cs,⟨ykv,rfl,hyk⟩,hcs⟩:=i6.at rfl hlast
 obtain ⟨yka,ykc,rfl⟩:=hyk.form
 have y1:=hcs 1 _ rfl
 have y2:=hcs 2 _ rfl
 simp only [str] at y1 y2
 have hgl:(o'++[y]).getLast? = some y:=by simp
 have hn1:((o'++[y]).length:Int) - 1=o'.length:=by omega
 have hge:(0:Int)≤(o'.length:Nat):=by omega
 have hlt:((o'.length:Nat):Int) < (o'++[y]).length:=by omega
 have hJ:joinS (o'++[y]) (⟨x.s,x.e,st.map bareK⟩:Sp)=if y.e=x.s∧st.map bareK≠[]∧y.ks=st.map bareK then (o'++[y]).dropLast++[⟨y.s,x.e,y.ks⟩] else (o'++[y])++[⟨x.s,x.e,st.map bareK⟩]:=by
  unfold joinS
  rw [hgl]
 refine goZ ?_
 refine drawZ (sq [0,1,2,3,4,5,6] (.read 7 (sq [8] (.read 9 (sq [10,11,12,13] (.read 14 (sq [15,16,17,18,19,20,21,22] (.read 23 (sq [24] (.read 25 (.eff 26 [] (sq [27] .done)))))))))))) ?_
 by_cases r1:y.e=x.s
 rotate_left
 ·have hj0:=hJ.trans (if_neg fun h=>r1 h.1)
  refine gY9 @hn1 @hge @hlt @y1 @y2 @c0 @c1 @c2 @r1 ?_
  have iA:=i6.ext SpE.mono (Ext.drew' (Ext.refl w6))
  obtain ⟨css,oo⟩:=iA.o
  refine appN (⟨x.s,x.e,st.map bareK⟩:Sp) [.string ⟨x.s.toArray⟩,.string ⟨x.e.toArray⟩,.slice va (st.map bareK).length vc] rw28 oo ⟨_,rfl,hsl⟩ rfl (.inl rfl) rfl rfl (by simp [Value.oneCell']) (by omega) iA.g.j fun v8 w8 o8 k8 n8 j8 _ => ?_
  refine goZ ?_
  refine hK2 _ _ (i+1,v8) ?_ ⟨hi,d5,by simp only; rw [more,hvs,hj0]; exact iA.more o8 k8 n8 j8⟩ (by simp only; omega)
  exact agZ
 by_cases r2:(0:Int) < (st.map bareK).length
 rotate_left
 ·have hj0:=hJ.trans (if_neg fun h=>by have:=List.length_pos_iff.2 h.2.1; omega)
  refine gY10 @hn1 @hge @hlt @y1 @y2 @c0 @c1 @c2 @r1 @r2 ?_
  have iA:=i6.ext SpE.mono (Ext.drew' (Ext.refl w6))
  obtain ⟨css,oo⟩:=iA.o
  refine appN (⟨x.s,x.e,st.map bareK⟩:Sp) [.string ⟨x.s.toArray⟩,.string ⟨x.e.toArray⟩,.slice va (st.map bareK).length vc] rw28 oo ⟨_,rfl,hsl⟩ rfl (.inl rfl) rfl rfl (by simp [Value.oneCell']) (by omega) iA.g.j fun v8 w8 o8 k8 n8 j8 _ => ?_
  refine goZ ?_
  refine hK2 _ _ (i+1,v8) ?_ ⟨hi,d5,by simp only; rw [more,hvs,hj0]; exact iA.more o8 k8 n8 j8⟩ (by simp only; omega)
  exact agZ
 have xd:=Ext.drew' (Ext.refl w6)
 refine gY10 @hn1 @hge @hlt @y1 @y2 @c0 @c1 @c2 @r1 @r2 ?_
 refine sameKeys_run ((hyk.inc KE.mono i6.g.j).inc KE.mono xd.inc) ((hsl.inc KE.mono i6.g.j).inc KE.mono xd.inc) (by rw [List.length_map]; omega) fun w7 x7 => ?_
 have x67:=xd.trans x7
 have c0:=x67.cell c0
 have c1:=x67.cell c1
 have c2:=x67.cell c2
 by_cases r3:y.ks=st.map bareK
 rotate_left
 ·have hj0:=hJ.trans (if_neg fun h=>r3 h.2.2)
  rw [decide_eq_false r3]
  refine gY3 @c0 @c1 @c2 ?_
  have iA:=i6.ext SpE.mono (x67)
  obtain ⟨css,oo⟩:=iA.o
  refine appN (⟨x.s,x.e,st.map bareK⟩:Sp) [.string ⟨x.s.toArray⟩,.string ⟨x.e.toArray⟩,.slice va (st.map bareK).length vc] rw28 oo ⟨_,rfl,hsl⟩ rfl (.inl rfl) rfl rfl (by simp [Value.oneCell']) (by omega) iA.g.j fun v8 w8 o8 k8 n8 j8 _ => ?_
  refine goZ ?_
  refine hK2 _ _ (i+1,v8) ?_ ⟨hi,d5,by simp only; rw [more,hvs,hj0]; exact iA.more o8 k8 n8 j8⟩ (by simp only; omega)
  exact agZ
 have hj1:=hJ.trans (if_pos ⟨r1,List.length_pos_iff.1 (by omega),r3⟩)
 have hset:(o'++[y]).dropLast++[⟨y.s,x.e,y.ks⟩]=(o'++[y]).set o'.length ⟨y.s,x.e,y.ks⟩:=by
  rw [List.dropLast_concat,List.set_append_right _ _ (Nat.le_refl _),Nat.sub_self]
  rfl
 rw [decide_eq_true r3]
 have i7:=i6.ext SpE.mono x67
 have fz:=i7.frozen
 have y1:=x67.cell y1
 refine gY8 @c0 @c1 @c2 @hn1 @hge @hlt @y1 @fz ?_
 refine hK2 _ _ (i+1,.slice (some ⟨vg,0,none⟩) (o'++[y]).length vcap) ?_ ⟨hi,d5,?_⟩ (by simp only; omega)
 ·exact agZ
 ·simp only
  rw [more,hvs,hj1,hset]
  exact i7.set1 rfl hlast (j:=1) (by decide) fun cs ⟨kv,h1,h2⟩=>⟨kv,by rw [h1]; rfl,h2⟩
end
end Go.Proofs
