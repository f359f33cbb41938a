/- Parts of the proof: Xk. -/
import Derived.Test.YtjcbeinpkafjiaaGreatUXXj
set_option linter.all false
set_option maxRecDepth 10000
namespace Go.E
open Go Go.Sort Go.Proofs Go.Proofs.Tryz
def sce (p:SV):List Value:=[str p.1,str p.2]
theorem sce_len (p:SV):(sce p).length=2:=rfl
theorem sce_one (p:SV):∀ y ∈ sce p,y.oneCell'=true:=by simp [sce,Value.oneCell',str]
theorem OwnC.empty {w:World}:OwnC sce 2 64 (w.alloc (.cells #[] 64)) (.slice (some ⟨w.heap.size,0,none⟩) 0 0) []:=⟨⟨rfl,.inr ⟨w.heap.size,0,#[],rfl,Nat.zero_le _,(show (w.heap.push _)[w.heap.size]? = _ from Array.getElem?_push_size),Nat.le_refl _,by decide,rfl,rfl⟩⟩,sce_len⟩
def foldS (l:List K) (m:Nat):List SV:=(l.drop m).reverse.foldl stepS []
theorem foldS_end (l:List K):foldS l l.length=[]:=by simp [foldS]
theorem foldS_succ {l:List K} {m:Nat} {x:K} (h:l[m]? = some x):foldS l m=stepS (foldS l (m+1)) x:=by
 obtain ⟨hm,rfl⟩:=List.getElem?_eq_some_iff.1 h
 unfold foldS
 rw [List.drop_eq_getElem_cons hm,List.reverse_cons,List.foldl_append]
 rfl
theorem foldS_length (l:List K) (m:Nat):(foldS l m).length≤l.length - m:=by
 unfold foldS
 have:∀ l:List K,(l.reverse.foldl stepS []).length≤l.length:=by
  intro l
  induction l with
  | nil=>simp
  | cons x l ih =>
   rw [List.reverse_cons,List.foldl_append,List.length_cons]
   exact Nat.le_trans (stepS_length _ _) (by omega)
 have:=this (l.drop m)
 rwa [List.length_drop] at this
end Go.E
namespace Go.Proofs
open Go Go.E Go.Sort Go.Proofs.Tryz
section
variable {k:Kont} {d w:World}
theorem rangeState_run {kv:Value} {l:List K} (hv:Sl KE 3 w kv l) (hl:l.length≤100000) (hk:∀ v2 w2,Ext w w2→OwnC sce 2 64 w2 v2 (stateP [] l)→(∀ g,v2.ownBlock=some g→w.heap.size≤g)→k v2 w2):callK prog 26 #[.slice none 0 0,kv] k w:=by
 obtain ⟨ka,kc,rfl⟩:=hv.form
 refine callZ [.tmp 4] func26 ?_
 refine goZ ?_
 have x0:=ext_alloc (w:=w) (.cells #[] 64)
 refine appC (m:=[]) rw50 OwnC.empty ⟨rfl,rfl,rfl⟩ (by simp) (by decide) fun v1 w1 o1 k1 n1 => ?_
 have x1:Ext w w1:=x0.tr k1 fun b o hb h=>by simp [Value.ownBlock] at h; omega
 have n1':∀ g,v1.ownBlock=some g→w.heap.size≤g:=fun g hg=>by
  rcases n1 g hg with h | h
  ·simp [Value.ownBlock] at h; omega
  ·rw [World.size_alloc] at h; omega
 refine goZ ?_
 refine cutL (fun v:Value=>[(5,v)]) (fun v w'=>Ext w w'∧OwnC sce 2 64 w' v (foldS l 0)∧∀ g,v.ownBlock=some g→w.heap.size≤g) (by kernel_rfl) (fun K hK => ?_) ?_
 ·refine loopC (fun b:Nat × Value=>[(1,.slice ka l.length kc),(5,b.2),(6,.int .i64 ((b.1:Int) - 1))])
    (fun b w'=>b.1≤l.length∧Ext w w'∧OwnC sce 2 64 w' b.2 (foldS l b.1)∧∀ g,b.2.ownBlock=some g→w.heap.size≤g) (fun b _=>b.1) (l.length,v1) (by kernel_rfl) ?_ ⟨Nat.le_refl _,x1,by rw [foldS_end]; exact o1,n1'⟩ ?_
  ·exact agZ
  rintro K2 e ⟨m,v⟩ w2 ⟨i1,i2,i3,i4⟩ hK2
  simp only at i1 i3 i4
  rcases m with _ | m
  ·refine goZ ?_
   refine hK _ _ v ?_ ⟨i2,i3,i4⟩
   exact agZ
  have e1:((m+1:Nat):Int) - 1=(m:Nat):=by omega
  obtain ⟨g,f,c,hv',hc,hat⟩:=(hv.inc KE.mono i2.inc).at (by omega)
  obtain ⟨rfl,rfl⟩:ka=some ⟨g,f,none⟩∧kc=c:=by simpa using hv'
  obtain ⟨x,hx⟩:∃ x,l[m]? = some x:=⟨_,List.getElem?_eq_getElem i1⟩
  obtain ⟨h0,h1,h2,htr⟩:=cells_ke (hat m x hx)
  have hfs:=foldS_succ hx
  have hge:((m:Nat):Int) ≥ 0:=by omega
  obtain ⟨S,hS⟩:∃ S,S=w2.heap.size:=⟨_,rfl⟩
  obtain ⟨w3,hw3⟩:∃ w3,w3=w2.alloc (.cells #[.int .u64 x.tr,.string ⟨x.suf.toArray⟩,.string ⟨x.val.toArray⟩] 88):=⟨_,rfl⟩
  have x3:Ext w2 w3:=by rw [hw3]; exact ext_alloc _
  have c0:w3.cell? ⟨S,0,none⟩=some (.int .u64 x.tr):=by rw [hw3,hS]; exact eY1 @cell_newN
  have c1:w3.cell? ⟨S,1,none⟩=some (.string ⟨x.suf.toArray⟩):=by rw [hw3,hS]; exact eY1 @cell_newN
  have c2:w3.cell? ⟨S,2,none⟩=some (.string ⟨x.val.toArray⟩):=by rw [hw3,hS]; exact eY1 @cell_newN
  refine gY5 @e1 @hge @h0 @h1 @h2 ?_
  rw [← hS,← hw3]
  refine kind_run ?_
  obtain ⟨st,hst⟩:∃ st,st=foldS l (m+1):=⟨_,rfl⟩
  have hsl:=foldS_length l (m+1)
  rw [← hst] at i3 hfs hsl
  by_cases q:kindT x.tr=19
  ·have q3:((kindT x.tr:Int) == 19)=true:=beq_iff_eq.2 (by omega)
   refine gY1 @q3 ?_
   refine hK2 _ _ (m,.slice none 0 0) ?_ ⟨by omega,i2.trans x3,by rw [hfs]; unfold stepS; rw [if_pos q]; exact OwnC.nil sce_len,by simp [Value.ownBlock]⟩ (by simp only; omega)
   exact agZ
  have q3:((kindT x.tr:Int) == 19)=false:=beq_false_of_ne (by omega)
  have i3':=i3.ext x3
  obtain ⟨sa,sc,rfl,_⟩:=i3.form
  have hP:(List.length st:Int)=st.length:=rfl
  obtain ⟨p,hp⟩:∃ p,p=fun y:SV=>decide (y.1≠x.suf):=⟨_,rfl⟩
  refine gY1 @q3 ?_
  refine cutL (fun v:Value=>[(1,.slice (some ⟨g,f,none⟩) l.length kc),(6,.int .i64 m),(7,.pointer (some ⟨S,0,none⟩)),(8,v)])
   (fun v w'=>Ext w3 w'∧OwnC sce 2 64 w' v (st.filter p)∧∀ g,v.ownBlock=some g→w.heap.size≤g) (by kernel_rfl) (fun K3 hK3 => ?_) ?_
  ·refine loopC (fun b:Nat × Value=>[(1,.slice (some ⟨g,f,none⟩) l.length kc),(6,.int .i64 m),(7,.pointer (some ⟨S,0,none⟩)),(8,b.2),(31,.slice sa st.length sc),(32,.int .i64 st.length),(33,.int .i64 b.1)])
     (fun b w'=>b.1≤st.length∧Ext w3 w'∧OwnC sce 2 64 w' b.2 ((st.take b.1).filter p)∧∀ g,b.2.ownBlock=some g→w3.heap.size≤g) (fun b _=>st.length - b.1) (0,.slice none 0 0) (by kernel_rfl) ?_ ⟨Nat.zero_le _,Ext.refl _,OwnC.nil sce_len,by simp [Value.ownBlock]⟩ ?_
   ·exact agZ
   rintro K4 e4 ⟨j,v⟩ w4 ⟨j1,j2,j3,j4⟩ hK4
   simp only at j1 j3 j4
   rcases Nat.lt_or_ge j st.length with hj | hj
   rotate_left
   ·have hj':¬ (j:Int) < st.length:=by omega
    refine gY1 @hj' ?_
    obtain rfl:j=st.length:=by omega
    rw [List.take_length] at j3
    refine hK3 _ _ v ?_ ⟨j2,j3,fun g hg=>by have:=j4 g hg; have:=i2.size; have:=x3.size; omega⟩
    exact agZ
   have hj':(j:Int) < st.length:=by omega
   obtain ⟨bg,bc',hbv,hbg⟩:=i3'.block hj
   obtain ⟨rfl,rfl⟩:sa=some ⟨bg,0,none⟩∧sc=bc':=by simpa using hbv
   obtain ⟨y,hy⟩:∃ y,st[j]? = some y:=⟨_,List.getElem?_eq_getElem hj⟩
   have o4:=i3'.ext j2
   have p0:=o4.cell hy (j:=0) rfl
   have p1:=o4.cell hy (j:=1) rfl
   simp only [str,Nat.add_zero] at p0 p1
   have x5:=ext_alloc (w:=w4) (.cells #[.string ⟨y.1.toArray⟩,.string ⟨y.2.toArray⟩] 64)
   have c1':=x5.cell (j2.cell c1)
   have hfl:((st.take j).filter p).length≤j:=Nat.le_trans (List.length_filter_le _ _) (by rw [List.length_take]; omega)
   have more:(st.take (j+1)).filter p=(st.take j).filter p++if p y then [y] else []:=by
    rw [take_more hy,List.filter_append,List.filter_cons,List.filter_nil]
   obtain ⟨va,vc,rfl,_⟩:=j3.form
   by_cases hpy:y.1=x.suf
   ·have hd:p y=false:=by rw [hp]; simp [hpy]
    have hq:decide (y.1≠x.suf)=false:=by simp [hpy]
    rw [hd,if_neg (by decide),List.append_nil] at more
    refine gY6 @hj' @p0 @p1 @cell_newN @c1' @hq ?_
    refine hK4 _ _ (j+1,_) ?_ ⟨hj,j2.trans x5,by simp only; rw [more]; exact j3.ext x5,j4⟩ (by simp only; omega)
    exact agZ
   ·have hd:p y=true:=by rw [hp]; simp [hpy]
    have hq:decide (y.1≠x.suf)=true:=by simp [hpy]
    rw [hd,if_pos rfl] at more
    refine gY6 @hj' @p0 @p1 @cell_newN @c1' @hq ?_
    refine appC1 y rw50 (j3.ext x5) rfl (.inl rfl) (World.size_alloc _ _).symm (sce_one y) (by omega) fun v6 w6 o6 k6 n6 => ?_
    refine goZ ?_
    refine hK4 _ _ (j+1,v6) ?_ ⟨hj,(j2.trans x5).tr k6 fun b o hb h=>by have:=j4 b h; omega,by simp only; rw [more]; exact o6,fun g hg => ?_⟩ (by simp only; omega)
    ·exact agZ
    ·rcases n6 g hg with h | h
     ·exact j4 g h
     ·rw [World.size_alloc] at h; have:=j2.size; omega
  rintro e4 v w4 ⟨j2,j3,j4⟩
  have c0:=j2.cell c0
  have c1:=j2.cell c1
  have c2:=j2.cell c2
  obtain ⟨va,vc,rfl,_⟩:=j3.form
  have hfl:=List.length_filter_le p st
  have x24:=(i2.trans x3).trans j2
  refine gY1 @c0 ?_
  refine kind_run ?_
  by_cases q2:kindT x.tr=21
  ·have q4:((kindT x.tr:Int) == 21)=true:=beq_iff_eq.2 (by omega)
   have hst2:stepS st x=st.filter p++[(x.suf,x.val)]:=by unfold stepS; rw [if_neg q,if_pos q2,hp]
   refine gY3 @q4 @c1 @c2 ?_
   refine appC1 ((x.suf,x.val):SV) rw50 j3 rfl (.inl rfl) rfl (sce_one _) (by omega) fun v6 w6 o6 k6 n6 => ?_
   refine goZ ?_
   refine hK2 _ _ (m,v6) ?_ ⟨by omega,x24.tr k6 fun b o hb h=>by have:=j4 b h; omega,by simp only; rw [hfs,hst2]; exact o6,fun g hg => ?_⟩ (by simp only; omega)
   ·exact agZ
   ·rcases n6 g hg with h | h
    ·exact j4 g h
    ·have:=x24.size; omega
  ·have q4:((kindT x.tr:Int) == 21)=false:=beq_false_of_ne (by omega)
   have hst2:stepS st x=st.filter p:=by unfold stepS; rw [if_neg q,if_neg q2,hp,List.append_nil]
   refine gY1 @q4 ?_
   refine hK2 _ _ (m,_) ?_ ⟨by omega,x24,by simp only; rw [hfs,hst2]; exact j3,j4⟩ (by simp only; omega)
   exact agZ
 rintro e v w2 ⟨i1,i2,i3⟩
 have hLl:=foldS_length l 0
 have hst:stateP [] l=isort svLess (foldS l 0):=rfl
 obtain ⟨L,hL⟩:∃ L,L=foldS l 0:=⟨_,rfl⟩
 rw [hst,← hL] at hk
 rw [← hL] at i2 hLl
 obtain ⟨va,vc,rfl,_⟩:=i2.form
 refine goZ ?_
 refine loopC (fun i:Nat=>[(5,.slice va L.length vc),(61,.int .i64 L.length),(62,.int .i64 i)])
  (fun i w'=>i≤L.length∧Ext w w'∧OwnC sce 2 64 w' (.slice va L.length vc) (isort svLess (L.take i)++L.drop i)) (fun i _=>L.length - i) 0 (by kernel_rfl) ?_ ⟨Nat.zero_le _,i1,by simpa [isort] using i2⟩ ?_
 ·exact agZ
 rintro K2 e i w3 ⟨j1,j2,j3⟩ hK2
 rcases Nat.lt_or_ge i L.length with hi | hi
 rotate_left
 ·have hi':¬ (i:Int) < L.length:=by omega
  refine gY1 @hi' ?_
  obtain rfl:i=L.length:=by omega
  rw [List.take_length,List.drop_length,List.append_nil] at j3
  exact hk _ w3 j2 j3 i3
 have hi':(i:Int) < L.length:=by omega
 obtain ⟨x,hx⟩:∃ x,L[i]? = some x:=⟨_,List.getElem?_eq_getElem hi⟩
 obtain ⟨a,ha⟩:∃ a,a=isort svLess (L.take i):=⟨_,rfl⟩
 have hal:a.length=i:=by rw [ha,isort_length,take_len j1]
 obtain ⟨R,hR⟩:∃ R,R=L.drop (i+1):=⟨_,rfl⟩
 have hRl:R.length+i+1=L.length:=by rw [hR,List.length_drop]; omega
 have hdr:L.drop i=x :: R:=by
  obtain ⟨_,rfl⟩:=List.getElem?_eq_some_iff.1 hx
  rw [List.drop_eq_getElem_cons hi,hR]
 have e0:a++x :: R=insAtJ x a i++R:=by rw [← hal,← insJ_end]; simp
 rw [← ha,hdr,e0] at j3
 obtain ⟨g,c,hbv,hg⟩:=i2.block (show 0 < L.length by omega)
 obtain ⟨rfl,rfl⟩:va=some ⟨g,0,none⟩∧vc=c:=by simpa using hbv
 have hgw:=i3 g rfl
 have hlen:∀ j,j≤i→(insAtJ x a j).length=i+1:=fun j hj=>by rw [insJ_len x (by omega)]; omega
 have hlen2:∀ j,j≤i→(insAtJ x a j++R).length=L.length:=fun j hj=>by rw [List.length_append,hlen j hj]; omega
 refine gY1 @hi' ?_
 refine loopC (fun j:Nat=>[(5,.slice (some ⟨g,0,none⟩) L.length vc),(12,.int .i64 j),(61,.int .i64 L.length),(62,.int .i64 i)])
  (fun j w'=>j≤i∧Ext w w'∧OwnC sce 2 64 w' (.slice (some ⟨g,0,none⟩) L.length vc) (insAtJ x a j++R)∧insAt svLess x a i=insAt svLess x a j) (fun j _=>j) i (by kernel_rfl) ?_ ⟨Nat.le_refl _,j2,j3,rfl⟩ ?_
 ·exact agZ
 rintro K4 e4 j w4 ⟨k1,k2,k3,k4⟩ hK4
 have fin:insAt svLess x a j=j→insL svLess x a=insAtJ x a j:=fun h=>by unfold insL insAtJ; rw [hal,k4,h]
 rcases j with _ | j
 ·have hz:¬ (0:Int) < ((0:Nat):Int):=by omega
  refine goZ ?_
  refine drawZ (sq [0,1,2,3,4,5,6] (.read 7 (sq [8,9,10,11,12] (.read 13 (sq [14,15] .done))))) ?_
  refine gY1 @hz ?_
  refine hK2 _ _ (i+1) ?_ ⟨hi,Ext.drew' k2,by rw [isort_take hx,← ha,← hR,fin rfl]; exact k3.ext (Ext.drew' (Ext.refl w4))⟩ (by omega)
  exact agZ
 have hz:(0:Int) < ((j+1:Nat):Int):=by omega
 have e3:((j+1:Nat):Int) - 1=(j:Nat):=by omega
 obtain ⟨y,hy⟩:∃ y,a[j]? = some y:=⟨_,List.getElem?_eq_getElem (by omega)⟩
 have hx1:(insAtJ x a (j+1)++R)[j+1]? = some x:=by rw [List.getElem?_append_left (by rw [hlen _ k1]; omega)]; exact insJ_self x (by omega)
 have hy1:(insAtJ x a (j+1)++R)[j]? = some y:=by rw [List.getElem?_append_left (by rw [hlen _ k1]; omega),insJ_low x (by omega) (by omega)]; exact hy
 have k3':OwnC sce 2 64 w4 (.slice (some ⟨g,0,none⟩) (insAtJ x a (j+1)++R).length vc) (insAtJ x a (j+1)++R):=by rw [hlen2 _ k1]; exact k3
 have p0:=k3'.cell hx1 (j:=0) rfl
 have p1:=k3'.cell hx1 (j:=1) rfl
 have q0:=k3'.cell hy1 (j:=0) rfl
 have q1:=k3'.cell hy1 (j:=1) rfl
 simp only [str,Nat.add_zero] at p0 p1 q0 q1
 refine goZ ?_
 refine drawZ (sq [0,1,2,3,4,5,6] (.read 7 (sq [8,9,10,11,12] (.read 13 (sq [14,15] .done))))) ?_
 refine gY4 @hz @e3 @p0 @q0 ?_
 by_cases hlt:x.1 < y.1
 rotate_left
 ·refine gY1 @hlt ?_
  refine hK2 _ _ (i+1) ?_ ⟨hi,Ext.drew' k2,by rw [isort_take hx,← ha,← hR,fin (by rw [insAt_succ hy,if_neg (by simpa [svLess] using hlt)])]; exact k3.ext (Ext.drew' (Ext.refl w4))⟩ (by omega)
  exact agZ
 have f4:∀ o,w4.frozen? ⟨g,o,none⟩=false:=fun o=>own_frozen k3.own rfl o
 refine gY1 @hlt ?_
 refine drawZ (sq [0,1,2,3,4,5,6,7,8] (.read 9 (sq [10,11,12] (.read 13 (sq [14] (.eff 15 [] (sq [16] (.eff 17 [] .done)))))))) ?_
 refine gY6 @e3 @p0 @p1 @q0 @q1 @f4 ?_
 have o6:=(k3.set2' (hlen2 _ k1) (i:=j+1) (by rw [hlen2 _ k1]; omega) y rfl).set2' (by rw [List.length_set]; exact hlen2 _ k1) (i:=j) (by rw [List.length_set,hlen2 _ k1]; omega) x rfl
 have e6:((insAtJ x a (j+1)++R).set (j+1) y).set j x=insAtJ x a j++R:=by
  rw [List.set_append_left _ _ (by rw [hlen _ k1]; omega),List.set_append_left _ _ (by rw [List.length_set,hlen _ k1]; omega),insJ_swap x y (by omega) hy]
 rw [e6] at o6
 refine hK4 _ _ j ?_ ⟨by omega,Ext.drew' (Ext.drew' (ext_set (ext_set (ext_set (ext_set k2 hgw) hgw) hgw) hgw)),o6.ext (Ext.drew' (Ext.drew' (Ext.refl _))),?_⟩ (by omega)
 ·exact agZ
 ·rw [k4,insAt_succ hy,if_pos (by simpa [svLess] using hlt)]
end
end Go.Proofs
