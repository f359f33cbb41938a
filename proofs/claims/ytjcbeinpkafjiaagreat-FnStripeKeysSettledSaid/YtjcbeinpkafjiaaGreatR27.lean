/- Parts of the proof: Xk, Xt, Fk, Xz, Yd, Yc, Ye, Kl. -/
import Derived.Test.YtjcbeinpkafjiaaGreatR25
import Derived.Test.YtjcbeinpkafjiaaGreatR26
set_option linter.all false
set_option maxRecDepth 10000
section
namespace Go.E
open Go Go.Sort Go.Proofs Go.Proofs.Tryz
def yd (p:SV):List Value:=[str p.1,str p.2]
theorem wY (p:SV):(yd p).length=2:=rfl
theorem wZ (p:SV):∀ y ∈ yd p,y.oneCell'=true:=by simp [yd,Value.oneCell',str]
theorem OwnC.empty {w:World}:OwnC yd 2 64 (w.alloc (.cells #[] 64)) (.slice (some ⟨w.heap.size,0,none⟩) 0 0) []:=⟨⟨rfl,.inr ⟨w.heap.size,0,#[],rfl,aQ _,(show (w.heap.push _)[w.heap.size]? = _ from Array.getElem?_push_size),aD _,by decide,rfl,rfl⟩⟩,wY⟩
def Jv:gN SV:=fun _ cs p=>cs=yd p
theorem Jv.mono:gi Jv:=fun _ _ _ _ _ h=>h
theorem Fw {d w:World} {v:Value} {l:List SV} (h:Sl Jv 2 d v l) (hi:bz d w):tP w v l.length (l.flatMap yd):=by
 obtain ⟨css,c1,c2,c3,c4⟩:=h.lie (by decide)
 have e:css=l.map yd:=by
  refine List.ext_getElem? fun i => ?_
  rw [bq]
  rcases aH i l.length with hi | hi
  ·have a:=aC hi
   have b:=aC (show i < css.length by omega)
   rw [a,b,c3 i _ _ a b]
   rfl
  ·rw [List.getElem?_eq_none hi,List.getElem?_eq_none (by omega)]
   rfl
 have:=c4 w hi
 rw [e] at this
 rwa [List.flatMap_def]
def lP (s0:List SV) (l:List K) (m:Nat):List SV:=(l.drop m).reverse.foldl iC s0
theorem CV (s0:List SV) (l:List K):lP s0 l l.length=s0:=by simp [lP]
theorem AE {s0:List SV} {l:List K} {m:Nat} {x:K} (h:l[m]? = some x):lP s0 l m=iC (lP s0 l (m+1)) x:=by
 obtain ⟨hm,rfl⟩:=aP.1 h
 unfold lP
 rw [cN hm,List.reverse_cons,List.foldl_append]
 rfl
theorem pd (s0:List SV) (l:List K) (m:Nat):(lP s0 l m).length≤s0.length+(l.length - m):=by
 unfold lP
 have:∀ l:List K,(l.reverse.foldl iC s0).length≤s0.length+l.length:=by
  intro l
  induction l with
  | nil=>simp
  | cons x l ih =>
   rw [List.reverse_cons,List.foldl_append,ag]
   exact aU (pU _ _) (by omega)
 have:=this (l.drop m)
 rwa [List.length_drop] at this
end Go.E
namespace Go.Proofs
open Go Go.E Go.Sort Go.Proofs.Tryz
section
variable {k:aq} {d w:World}
theorem rI {sv kv:Value} {s0:List SV} {l:List K} (hsv:Sl Jv 2 w sv s0) (hs0:s0.length≤100000) (hv:Sl KE 3 w kv l) (hl:l.length≤100000) (hk:∀ v2 w2,bY w w2→OwnC yd 2 64 w2 v2 (gD s0 l)→(∀ g,v2.ownBlock=some g→w.heap.size≤g)→k v2 w2):aX prog 26 #[sv,kv] k w:=by
 obtain ⟨ka,kc,rfl⟩:=hv.form
 obtain ⟨s0a,s0c,rfl⟩:=hsv.form
 refine ai [.tmp 4] func26 ?_
 refine al ?_
 have x0:=aL (w:=w) (.cells #[] 64)
 refine Fs (m:=s0) rw50 OwnC.empty (Fw hsv x0.inc) (fun y _=>wZ y) (by rw [List.length_nil]; omega) fun v1 w1 o1 k1 n1 => ?_
 rw [List.nil_append] at o1
 have x1:bY w w1:=x0.tr k1 fun b o hb h=>by simp [Value.ownBlock] at h; omega
 have n1':∀ g,v1.ownBlock=some g→w.heap.size≤g:=fun g hg=>by
  rcases n1 g hg with h | h
  ·simp [Value.ownBlock] at h; omega
  ·rw [World.size_alloc] at h; omega
 refine al ?_
 refine gm (fun v:Value=>[(5,v)]) (fun v w'=>bY w w'∧OwnC yd 2 64 w' v (lP s0 l 0)∧∀ g,v.ownBlock=some g→w.heap.size≤g) (by kernel_rfl) (fun K hK => ?_) ?_
 ·refine bO (fun b:Nat × Value=>[(1,.slice ka l.length kc),(5,b.2),(6,.int .i64 ((b.1:Int) - 1))])
    (fun b w'=>b.1≤l.length∧bY w w'∧OwnC yd 2 64 w' b.2 (lP s0 l b.1)∧∀ g,b.2.ownBlock=some g→w.heap.size≤g) (fun b _=>b.1) (l.length,v1) (by kernel_rfl) ?_ ⟨aD _,x1,by rw [CV]; exact o1,n1'⟩ ?_
  ·exact bE
  rintro K2 e ⟨m,v⟩ w2 ⟨i1,i2,i3,i4⟩ hK2
  simp only at i1 i3 i4
  rcases m with _ | m
  ·refine al ?_
   refine hK _ _ v ?_ ⟨i2,i3,i4⟩
   exact bE
  have e1:((m+1:Nat):Int) - 1=(m:Nat):=by omega
  obtain ⟨g,f,c,hv',hc,hat⟩:=(hv.inc KE.mono i2.inc).at (by omega)
  obtain ⟨rfl,rfl⟩:=sEq hv'
  obtain ⟨x,hx⟩:=gEl i1
  obtain ⟨h0,h1,h2,htr⟩:=eW (hat m x hx)
  have hfs:=AE (s0:=s0) hx
  have hge:((m:Nat):Int) ≥ 0:=by omega
  obtain ⟨S,hS⟩:∃ S,S=w2.heap.size:=⟨_,rfl⟩
  obtain ⟨w3,hw3⟩:∃ w3,w3=w2.alloc (.cells #[.int .u64 x.tr,.string ⟨x.suf.toArray⟩,.string ⟨x.val.toArray⟩] 88):=⟨_,rfl⟩
  have x3:bY w2 w3:=by rw [hw3]; exact aL _
  have c0:w3.cell? ⟨S,0,none⟩=some (.int .u64 x.tr):=by rw [hw3,hS]; exact bb @aA
  have c1:w3.cell? ⟨S,1,none⟩=some (.string ⟨x.suf.toArray⟩):=by rw [hw3,hS]; exact bb @aA
  have c2:w3.cell? ⟨S,2,none⟩=some (.string ⟨x.val.toArray⟩):=by rw [hw3,hS]; exact bb @aA
  refine gH @e1 @hge @h0 @h1 @h2 ?_
  rw [← hS,← hw3]
  refine mK ?_
  obtain ⟨st,hst⟩:∃ st,st=lP s0 l (m+1):=⟨_,rfl⟩
  have hsl:=pd s0 l (m+1)
  rw [← hst] at i3 hfs hsl
  by_cases q:an x.tr=19
  ·have q3:((an x.tr:Int) == 19)=true:=beq_iff_eq.2 (by omega)
   refine bf @q3 ?_
   refine hK2 _ _ (m,.slice none 0 0) ?_ ⟨by omega,i2.trans x3,by rw [hfs]; unfold iC; rw [if_pos q]; exact OwnC.nil wY,by simp [Value.ownBlock]⟩ (by simp only; omega)
   exact bE
  have q3:((an x.tr:Int) == 19)=false:=beq_false_of_ne (by omega)
  have i3':=i3.ext x3
  obtain ⟨sa,sc,rfl,_⟩:=i3.form
  have hP:(List.length st:Int)=st.length:=rfl
  obtain ⟨p,hp⟩:∃ p,p=fun y:SV=>decide (y.1≠x.suf):=⟨_,rfl⟩
  refine bf @q3 ?_
  refine gm (fun v:Value=>[(1,.slice (some ⟨g,f,none⟩) l.length kc),(6,.int .i64 m),(7,.pointer (some ⟨S,0,none⟩)),(8,v)])
   (fun v w'=>bY w3 w'∧OwnC yd 2 64 w' v (st.filter p)∧∀ g,v.ownBlock=some g→w.heap.size≤g) (by kernel_rfl) (fun K3 hK3 => ?_) ?_
  ·refine bO (fun b:Nat × Value=>[(1,.slice (some ⟨g,f,none⟩) l.length kc),(6,.int .i64 m),(7,.pointer (some ⟨S,0,none⟩)),(8,b.2),(31,.slice sa st.length sc),(32,.int .i64 st.length),(33,.int .i64 b.1)])
     (fun b w'=>b.1≤st.length∧bY w3 w'∧OwnC yd 2 64 w' b.2 ((st.take b.1).filter p)∧∀ g,b.2.ownBlock=some g→w3.heap.size≤g) (fun b _=>st.length - b.1) (0,.slice none 0 0) (by kernel_rfl) ?_ ⟨aQ _,bY.refl _,OwnC.nil wY,by simp [Value.ownBlock]⟩ ?_
   ·exact bE
   rintro K4 e4 ⟨j,v⟩ w4 ⟨j1,j2,j3,j4⟩ hK4
   simp only at j1 j3 j4
   rcases aH j st.length with hj | hj
   rotate_left
   ·have hj':¬ (j:Int) < st.length:=by omega
    refine bf @hj' ?_
    obtain rfl:j=st.length:=by omega
    rw [aT] at j3
    refine hK3 _ _ v ?_ ⟨j2,j3,fun g hg=>by have:=j4 g hg; have:=i2.size; have:=x3.size; omega⟩
    exact bE
   have hj':(j:Int) < st.length:=by omega
   obtain ⟨bg,bc',hbv,hbg⟩:=i3'.block hj
   obtain ⟨rfl,rfl⟩:sa=some ⟨bg,0,none⟩∧sc=bc':=by simpa using hbv
   obtain ⟨y,hy⟩:=gEl hj
   have o4:=i3'.ext j2
   have p0:=o4.cell hy (j:=0) rfl
   have p1:=o4.cell hy (j:=1) rfl
   simp only [str,Nat.add_zero] at p0 p1
   have x5:=aL (w:=w4) (.cells #[.string ⟨y.1.toArray⟩,.string ⟨y.2.toArray⟩] 64)
   have c1':=x5.cell (j2.cell c1)
   have hfl:((st.take j).filter p).length≤j:=aU (az _ _) (by rw [ar]; omega)
   have more:(st.take (j+1)).filter p=(st.take j).filter p++if p y then [y] else []:=by
    rw [bn hy,List.filter_append,List.filter_cons,List.filter_nil]
   obtain ⟨va,vc,rfl,_⟩:=j3.form
   by_cases hpy:y.1=x.suf
   ·have hd:p y=false:=by rw [hp]; simp [hpy]
    have hq:decide (y.1≠x.suf)=false:=by simp [hpy]
    rw [hd,if_neg (by decide),au] at more
    refine rA @hj' @p0 @p1 @aA @c1' @hq ?_
    refine hK4 _ _ (j+1,_) ?_ ⟨hj,j2.trans x5,by simp only; rw [more]; exact j3.ext x5,j4⟩ (by simp only; omega)
    exact bE
   ·have hd:p y=true:=by rw [hp]; simp [hpy]
    have hq:decide (y.1≠x.suf)=true:=by simp [hpy]
    rw [hd,if_pos rfl] at more
    refine rA @hj' @p0 @p1 @aA @c1' @hq ?_
    refine sd y rw50 (j3.ext x5) rfl (.inl rfl) (World.size_alloc _ _).symm (wZ y) (by omega) fun v6 w6 o6 k6 n6 => ?_
    refine al ?_
    refine hK4 _ _ (j+1,v6) ?_ ⟨hj,(j2.trans x5).tr k6 fun b o hb h=>by have:=j4 b h; omega,by simp only; rw [more]; exact o6,fun g hg => ?_⟩ (by simp only; omega)
    ·exact bE
    ·rcases n6 g hg with h | h
     ·exact j4 g h
     ·rw [World.size_alloc] at h; have:=j2.size; omega
  rintro e4 v w4 ⟨j2,j3,j4⟩
  have c0:=j2.cell c0
  have c1:=j2.cell c1
  have c2:=j2.cell c2
  obtain ⟨va,vc,rfl,_⟩:=j3.form
  have hfl:=az p st
  have x24:=(i2.trans x3).trans j2
  refine bf @c0 ?_
  refine mK ?_
  by_cases q2:an x.tr=21
  ·have q4:((an x.tr:Int) == 21)=true:=beq_iff_eq.2 (by omega)
   have hst2:iC st x=st.filter p++[(x.suf,x.val)]:=by unfold iC; rw [if_neg q,if_pos q2,hp]
   refine eI @q4 @c1 @c2 ?_
   refine sd ((x.suf,x.val):SV) rw50 j3 rfl (.inl rfl) rfl (wZ _) (by omega) fun v6 w6 o6 k6 n6 => ?_
   refine al ?_
   refine hK2 _ _ (m,v6) ?_ ⟨by omega,x24.tr k6 fun b o hb h=>by have:=j4 b h; omega,by simp only; rw [hfs,hst2]; exact o6,fun g hg => ?_⟩ (by simp only; omega)
   ·exact bE
   ·rcases n6 g hg with h | h
    ·exact j4 g h
    ·have:=x24.size; omega
  ·have q4:((an x.tr:Int) == 21)=false:=beq_false_of_ne (by omega)
   have hst2:iC st x=st.filter p:=by unfold iC; rw [if_neg q,if_neg q2,hp,au]
   refine bf @q4 ?_
   refine hK2 _ _ (m,_) ?_ ⟨by omega,x24,by simp only; rw [hfs,hst2]; exact j3,j4⟩ (by simp only; omega)
   exact bE
 rintro e v w2 ⟨i1,i2,i3⟩
 have hLl:=pd s0 l 0
 have hst:gD s0 l=iw iT (lP s0 l 0):=rfl
 obtain ⟨L,hL⟩:∃ L,L=lP s0 l 0:=⟨_,rfl⟩
 rw [hst,← hL] at hk
 rw [← hL] at i2 hLl
 obtain ⟨va,vc,rfl,_⟩:=i2.form
 refine al ?_
 refine bO (fun i:Nat=>[(5,.slice va L.length vc),(61,.int .i64 L.length),(62,.int .i64 i)])
  (fun i w'=>i≤L.length∧bY w w'∧OwnC yd 2 64 w' (.slice va L.length vc) (iw iT (L.take i)++L.drop i)) (fun i _=>L.length - i) 0 (by kernel_rfl) ?_ ⟨aQ _,i1,by simpa [iw] using i2⟩ ?_
 ·exact bE
 rintro K2 e i w3 ⟨j1,j2,j3⟩ hK2
 rcases aH i L.length with hi | hi
 rotate_left
 ·have hi':¬ (i:Int) < L.length:=by omega
  refine bf @hi' ?_
  obtain rfl:i=L.length:=by omega
  rw [aT,List.drop_length,au] at j3
  exact hk _ w3 j2 j3 i3
 have hi':(i:Int) < L.length:=by omega
 obtain ⟨x,hx⟩:=gEl hi
 obtain ⟨a,ha⟩:∃ a,a=iw iT (L.take i):=⟨_,rfl⟩
 have hal:a.length=i:=by rw [ha,lB,dB j1]
 obtain ⟨R,hR⟩:∃ R,R=L.drop (i+1):=⟨_,rfl⟩
 have hRl:R.length+i+1=L.length:=by rw [hR,List.length_drop]; omega
 have hdr:L.drop i=x :: R:=by
  obtain ⟨_,rfl⟩:=aP.1 hx
  rw [cN hi,hR]
 have e0:a++x :: R=dC x a i++R:=by rw [← hal,← yS]; simp
 rw [← ha,hdr,e0] at j3
 obtain ⟨g,c,hbv,hg⟩:=i2.block (show 0 < L.length by omega)
 obtain ⟨rfl,rfl⟩:va=some ⟨g,0,none⟩∧vc=c:=by simpa using hbv
 have hgw:=i3 g rfl
 have hlen:∀ j,j≤i→(dC x a j).length=i+1:=fun j hj=>by rw [si x (by omega)]; omega
 have hlen2:∀ j,j≤i→(dC x a j++R).length=L.length:=fun j hj=>by rw [aM,hlen j hj]; omega
 refine bf @hi' ?_
 refine bO (fun j:Nat=>[(5,.slice (some ⟨g,0,none⟩) L.length vc),(12,.int .i64 j),(61,.int .i64 L.length),(62,.int .i64 i)])
  (fun j w'=>j≤i∧bY w w'∧OwnC yd 2 64 w' (.slice (some ⟨g,0,none⟩) L.length vc) (dC x a j++R)∧fS iT x a i=fS iT x a j) (fun j _=>j) i (by kernel_rfl) ?_ ⟨aD _,j2,j3,rfl⟩ ?_
 ·exact bE
 rintro K4 e4 j w4 ⟨k1,k2,k3,k4⟩ hK4
 have fin:fS iT x a j=j→lR iT x a=dC x a j:=fun h=>by unfold lR dC; rw [hal,k4,h]
 rcases j with _ | j
 ·have hz:¬ (0:Int) < ((0:Nat):Int):=by omega
  refine al ?_
  refine ay (sq [0,1,2,3,4,5,6] (.read 7 (sq [8,9,10,11,12] (.read 13 (sq [14,15] .done))))) ?_
  refine bf @hz ?_
  refine hK2 _ _ (i+1) ?_ ⟨hi,bY.drew' k2,by rw [lE hx,← ha,← hR,fin rfl]; exact k3.ext (bY.drew' (bY.refl w4))⟩ (by omega)
  exact bE
 have hz:(0:Int) < ((j+1:Nat):Int):=by omega
 have e3:((j+1:Nat):Int) - 1=(j:Nat):=by omega
 obtain ⟨y,hy⟩:∃ y,a[j]? = some y:=⟨_,aC (by omega)⟩
 have hx1:(dC x a (j+1)++R)[j+1]? = some x:=by rw [bG (by rw [hlen _ k1]; omega)]; exact uu x (by omega)
 have hy1:(dC x a (j+1)++R)[j]? = some y:=by rw [bG (by rw [hlen _ k1]; omega),yT x (by omega) (by omega)]; exact hy
 have k3':OwnC yd 2 64 w4 (.slice (some ⟨g,0,none⟩) (dC x a (j+1)++R).length vc) (dC x a (j+1)++R):=by rw [hlen2 _ k1]; exact k3
 have p0:=k3'.cell hx1 (j:=0) rfl
 have p1:=k3'.cell hx1 (j:=1) rfl
 have q0:=k3'.cell hy1 (j:=0) rfl
 have q1:=k3'.cell hy1 (j:=1) rfl
 simp only [str,Nat.add_zero] at p0 p1 q0 q1
 refine al ?_
 refine ay (sq [0,1,2,3,4,5,6] (.read 7 (sq [8,9,10,11,12] (.read 13 (sq [14,15] .done))))) ?_
 refine fW @hz @e3 @p0 @q0 ?_
 by_cases hlt:x.1 < y.1
 rotate_left
 ·refine bf @hlt ?_
  refine hK2 _ _ (i+1) ?_ ⟨hi,bY.drew' k2,by rw [lE hx,← ha,← hR,fin (by rw [gU hy,if_neg (by simpa [iT] using hlt)])]; exact k3.ext (bY.drew' (bY.refl w4))⟩ (by omega)
  exact bE
 have f4:∀ o,w4.frozen? ⟨g,o,none⟩=false:=fun o=>cS k3.own rfl o
 refine bf @hlt ?_
 refine ay (sq [0,1,2,3,4,5,6,7,8] (.read 9 (sq [10,11,12] (.read 13 (sq [14] (.eff 15 [] (sq [16] (.eff 17 [] .done)))))))) ?_
 refine rA @e3 @p0 @p1 @q0 @q1 @f4 ?_
 have o6:=(k3.set2' (hlen2 _ k1) (i:=j+1) (by rw [hlen2 _ k1]; omega) y rfl).set2' (by rw [bk]; exact hlen2 _ k1) (i:=j) (by rw [bk,hlen2 _ k1]; omega) x rfl
 have e6:((dC x a (j+1)++R).set (j+1) y).set j x=dC x a j++R:=by
  rw [List.set_append_left _ _ (by rw [hlen _ k1]; omega),List.set_append_left _ _ (by rw [bk,hlen _ k1]; omega),uv x y (by omega) hy]
 rw [e6] at o6
 refine hK4 _ _ j ?_ ⟨by omega,bY.drew' (bY.drew' (bX (bX (bX (bX k2 hgw) hgw) hgw) hgw)),o6.ext (bY.drew' (bY.drew' (bY.refl _))),?_⟩ (by omega)
 ·exact bE
 ·rw [k4,gU hy,if_pos (by simpa [iT] using hlt)]
theorem su {kv:Value} {l:List K} (hv:Sl KE 3 w kv l) (hl:l.length≤100000) (hk:∀ v2 w2,bY w w2→OwnC yd 2 64 w2 v2 (gD [] l)→(∀ g,v2.ownBlock=some g→w.heap.size≤g)→k v2 w2):aX prog 26 #[.slice none 0 0,kv] k w:=rI Sl.nil (by decide) hv hl hk
end
end Go.Proofs
end
section
namespace Go.E
open Go Go.Sort Go.Proofs Go.Proofs.Tryz
theorem Ek {l:List Sp} {key:Bytes} {i:Nat} {x:Sp} (h:l[i]? = some x):iD (l.take (i+1)) key=iD (l.take i) key++if fA key x then x.ks else []:=by
 rw [bn h,lD]
 unfold iD
 simp
theorem A0 {l:List Sp} {key:Bytes} {m:Nat} (h:∀ x ∈ l,x.ks.length≤m):(iD l key).length≤l.length * m:=by
 induction l with
 | nil=>simp [iD]
 | cons x l ih =>
  have h1:=h x aR
  have h2:=ih fun y hy=>h y (aj _ hy)
  have e:iD (x :: l) key=(if fA key x then x.ks else [])++iD l key:=by unfold iD; rw [bj]
  rw [e,aM,ag,Nat.add_mul]
  split
  ·omega
  ·rw [List.length_nil]; omega
end Go.E
namespace Go.Proofs
open Go Go.E Go.Sort Go.Proofs.Tryz
section
variable {k:aq} {d w:World}
theorem HU {v:Value} {l:List Sp} {key:Bytes} (hv:Sl dY 3 w v l) (hl:l.length≤1000) (hks:∀ x ∈ l,x.ks.length≤40) (hk:∀ v2 w2,bY w w2→OwnC wq 3 88 w2 v2 (cH (iD l key))→(∀ g,v2.ownBlock=some g→w.heap.size≤g)→k v2 w2):aX prog 24 #[v,.string ⟨key.toArray⟩] k w:=by
 have htr:=Ar hv
 obtain ⟨ka,kc,rfl⟩:=hv.form
 refine ai [.tmp 4] func24 ?_
 refine al ?_
 refine bO (fun c:Nat × Value=>[(1,.string ⟨key.toArray⟩),(5,c.2),(8,.slice ka l.length kc),(9,.int .i64 l.length),(10,.int .i64 c.1)])
  (fun c w'=>c.1≤l.length∧bY w w'∧OwnC wq 3 88 w' c.2 (iD (l.take c.1) key)∧∀ g,c.2.ownBlock=some g→w.heap.size≤g) (fun c _=>l.length - c.1) (0,.slice none 0 0) (by kernel_rfl) ?_ ⟨aQ _,bY.refl _,OwnC.nil pS,by simp [Value.ownBlock]⟩ ?_
 ·exact bE
 rintro K2 e ⟨i,vo⟩ w1 ⟨i2,i3,i4,i5⟩ hK2
 simp only at i2 i4 i5
 have hlen:=A0 (key:=key) (m:=40) fun y hy=>hks y (List.mem_of_mem_take (i:=i) hy)
 rw [dB i2] at hlen
 have h40:i * 40≤1000 * 40:=bK _ (by omega)
 rcases aH i l.length with hi | hi
 rotate_left
 ·have hi':¬ (i:Int) < l.length:=by omega
  obtain rfl:i=l.length:=by omega
  rw [aT] at i4 hlen
  have ht:JG (iD l key):=fun y hy=>by
   unfold iD at hy
   obtain ⟨x,hx,hy⟩:=db.1 hy
   split at hy
   ·exact htr x hx y hy
   ·simp at hy
  obtain ⟨va,vc,rfl,_⟩:=i4.form
  refine bf @hi' ?_
  refine qL (i4.ke ht) (by omega) fun v2 w2 x2 o2 n2 => ?_
  refine al ?_
  exact hk _ _ (i3.trans x2) o2 fun g hg=>aU i3.size (n2 g hg)
 have hi':(i:Int) < l.length:=by omega
 obtain ⟨g,f,c,hv',hc,hat⟩:=(hv.inc dY.mono i3.inc).at (by omega)
 obtain ⟨rfl,rfl⟩:=sEq hv'
 obtain ⟨x,hx⟩:=gEl hi
 have hxm:=aJ hx
 obtain ⟨h0,h1,a,cc,h2,hkx⟩:=dI (hat i x hx)
 obtain ⟨T,hT⟩:∃ T,T=w1.heap.size:=⟨_,rfl⟩
 obtain ⟨w2,hw2⟩:∃ w2,w2=w1.alloc (.cells #[.string ⟨x.s.toArray⟩,.string ⟨x.e.toArray⟩,.slice a x.ks.length cc] 46):=⟨_,rfl⟩
 have x2:bY w1 w2:=by rw [hw2]; exact aL _
 have a0:w2.cell? ⟨T,0,none⟩=some (.string ⟨x.s.toArray⟩):=by rw [hw2,hT]; exact bb @aA
 have a1:w2.cell? ⟨T,1,none⟩=some (.string ⟨x.e.toArray⟩):=by rw [hw2,hT]; exact bb @aA
 have a2:w2.cell? ⟨T,2,none⟩=some (.slice a x.ks.length cc):=by rw [hw2,hT]; exact bb @aA
 have more:=Ek (key:=key) hx
 refine gH @hi' @h0 @h1 @h2 @aA ?_
 rw [← hw2,← hT]
 refine wL ⟨_,_,_,rfl⟩ fun w3 x3 => ?_
 have x13:=x2.trans x3
 have a2:=x3.cell a2
 cases hc:fA key x with
 | false =>
  rw [hc,if_neg (by decide),au] at more
  refine al ?_
  refine hK2 _ _ (i+1,vo) ?_ ⟨hi,i3.trans x13,by simp only; rw [more]; exact i4.ext x13,i5⟩ (by simp only; omega)
  exact bE
 | true =>
  rw [hc,if_pos rfl] at more
  obtain ⟨va,vc,rfl,_⟩:=i4.form
  refine bf @a2 ?_
  have hxl:=hks x hxm
  refine Fs (m:=x.ks) rw44 (i4.ext x13) (Aq hkx x13.inc) (fun y _=>pT y) (by omega) fun v5 w5 o5 k5 n5 => ?_
  obtain ⟨va5,vc5,rfl,_⟩:=o5.form
  refine al ?_
  have hx5:bY w w5:=(i3.trans x13).tr k5 fun b o hb h=>by have:=i5 b h; omega
  refine hK2 _ _ (i+1,_) ?_ ⟨hi,hx5,by simp only; rw [more]; exact o5,fun g hg => ?_⟩ (by simp only; omega)
  ·exact bE
  ·rcases n5 g hg with h | h
   ·exact i5 g h
   ·have:=(i3.trans x13).size; omega
theorem AF {v:Value} {l:List K} (hv:Sl KE 3 d v l) (hl:l.length≤100000) (hinc:bz d w) (hk:∀ d' w' v',Gr d w d' w'→Sl KE 3 d' v' l→k v' w'):aX prog 44 #[v] k w:=by
 obtain ⟨ka,kc,rfl⟩:=hv.form
 refine ai [.tmp 2] func44 ?_
 refine al ?_
 refine bO (fun b:Nat × Value=>[(3,b.2),(6,.slice ka l.length kc),(7,.int .i64 l.length),(8,.int .i64 b.1)])
  (fun b w'=>b.1≤l.length∧∃ d1,LoopL KE 3 88 d w d1 w' b.2 (l.take b.1)) (fun b _=>l.length - b.1) (0,.slice none 0 0) (by kernel_rfl) ?_ ⟨aQ _,d,LoopL.nil hinc⟩ ?_
 ·exact bE
 rintro K2 e ⟨i,v⟩ w1 ⟨i2,d1,i3⟩ hK2
 simp only at i2 i3
 rcases aH i l.length with hi | hi
 rotate_left
 ·have hi':¬ (i:Int) < l.length:=by omega
  refine bf @hi' ?_
  obtain rfl:i=l.length:=by omega
  rw [aT] at i3
  obtain ⟨d2,g2,_,_,s2⟩:=i3.done KE.mono
  exact hk d2 w1 v g2 s2
 have hi':(i:Int) < l.length:=by omega
 obtain ⟨g,f,c,hv',hc,hat⟩:=(hv.inc KE.mono i3.g.i).at (by omega)
 obtain ⟨rfl,rfl⟩:=sEq hv'
 obtain ⟨x,hx⟩:=gEl hi
 obtain ⟨cs,_,hcs,hR⟩:=hat i x hx
 have hmem:=aJ hx
 obtain ⟨rfl,htr⟩:=hR
 have h0:w1.cell? ⟨g,f+i * 3,none⟩=some (.int .u64 x.tr):=i3.g.j _ _ _ (hcs 0 _ rfl)
 have h1:w1.cell? ⟨g,f+i * 3+1,none⟩=some (.string ⟨x.suf.toArray⟩):=i3.g.j _ _ _ (hcs 1 _ rfl)
 have h2:w1.cell? ⟨g,f+i * 3+2,none⟩=some (.string ⟨x.val.toArray⟩):=i3.g.j _ _ _ (hcs 2 _ rfl)
 obtain ⟨va,vcap,rfl,_⟩:=i3.form
 have i4:=i3.ext KE.mono (aL (.cells #[.int .u64 x.tr,.string ⟨x.suf.toArray⟩,.string ⟨x.val.toArray⟩] 62))
 obtain ⟨css,o4⟩:=i4.o
 refine gH @hi' @h0 @h1 @h2 @aA ?_
 refine jI x [.int .u64 x.tr,.string ⟨x.suf.toArray⟩,.string ⟨x.val.toArray⟩] rw44 o4 ⟨rfl,htr⟩ rfl (.inl rfl) (World.size_alloc _ _).symm rfl (by simp [Value.oneCell']) (by rw [dB i2]; omega) i4.g.j fun v2 w2 o2 k2 n2 j2 _ => ?_
 refine al ?_
 refine hK2 _ _ (i+1,v2) ?_ ⟨hi,d1,?_⟩ (by simp only; omega)
 ·exact bE
 ·rw [bn hx]
  exact i4.more o2 k2 n2 j2
theorem AG {kv:Value} {x:Sp} (hv:Sl KE 3 d kv x.ks) (hl:x.ks.length≤100000) (hinc:bz d w) (hk:∀ d' w' v',Gr d w d' w'→Sl KE 3 d' v' x.ks→k (.agg #[.string ⟨x.s.toArray⟩,.string ⟨x.e.toArray⟩,v']) w') :
    aX prog 28 #[.agg #[.string ⟨x.s.toArray⟩,.string ⟨x.e.toArray⟩,kv]] k w:=by
 obtain ⟨ka,kc,rfl⟩:=hv.form
 refine ai [.cell 2 46] func28 ?_
 refine al ?_
 refine ay (sq [0] (.read 1 (sq [2] (.read 3 (sq [4] (.read 5 (.eff 6 [1,3] (sq [7] (.eff 8 [] .done))))))))) ?_
 obtain ⟨A,hA⟩:∃ A,A=w.heap.size:=⟨_,rfl⟩
 obtain ⟨W,hW⟩:∃ W,W=((w.alloc (.cells #[.string ⟨x.s.toArray⟩,.string ⟨x.e.toArray⟩,.slice ka x.ks.length kc] 56)).alloc (.cells #[.string ByteArray.empty,.string ByteArray.empty,.slice none 0 0] 46)).drew:=⟨_,rfl⟩
 have xW:bY w W:=by rw [hW]; exact bY.drew' ((aL _).trans (aL _))
 have a0:W.cell? ⟨A,0,none⟩=some (.string ⟨x.s.toArray⟩):=by rw [hW,hA]; exact bb @aA
 have a1:W.cell? ⟨A,1,none⟩=some (.string ⟨x.e.toArray⟩):=by rw [hW,hA]; exact bb @aA
 have b0:W.cell? ⟨A+1,0,none⟩=some (.string ByteArray.empty):=by rw [hW,hA]; exact bb @aA
 have b1:W.cell? ⟨A+1,1,none⟩=some (.string ByteArray.empty):=by rw [hW,hA]; exact bb @aA
 have b2:W.cell? ⟨A+1,2,none⟩=some (.slice none 0 0):=by rw [hW,hA]; exact bb @aA
 have fz:∀ y,W.frozen? ⟨A+1,y,none⟩=false:=fun y=>by rw [hW,hA]; exact bb @cy
 have zW:W.heap.size=A+2:=by rw [hW,hA]; simp only [World.size_drew,World.size_alloc]
 refine bf @aA ?_
 rw [← hA,← hW]
 refine AF hv hl (hinc.trans xW.inc) fun d1 w1 v1 g1 s1 => ?_
 obtain ⟨va,vc,rfl⟩:=s1.form
 have a0:=g1.x.cell a0
 have a1:=g1.x.cell a1
 have b0:=g1.x.cell b0
 have b1:=g1.x.cell b1
 have b2:=g1.x.cell b2
 have fz:∀ y,w1.frozen? ⟨A+1,y,none⟩=false:=fun y=>by rw [g1.x.frozen _ y (by omega)]; exact fz y
 have hoA:cq d (A+1):=hinc.out (by omega)
 refine rA @a0 @a1 @b0 @b1 @b2 @fz ?_
 have kk:=(((Keep.refl (M:=fun b _=>b=A+1) w1).set (b:=A+1) (o:=0) (v := .string ⟨x.s.toArray⟩) fun _=>rfl).set (b:=A+1) (o:=1) (v := .string ⟨x.e.toArray⟩) fun _=>rfl).set (b:=A+1) (o:=2) (v := .slice va x.ks.length vc) fun _=>rfl
 exact hk _ _ _ (((Gr.ext hinc xW).trans g1).mut kk fun b o h=>by
  subst h
  exact ⟨by omega,g1.o _ (by omega) hoA⟩) s1
end
end Go.Proofs
end
section
namespace Go.E
open Go Go.Sort Go.Proofs Go.Proofs.Tryz
theorem FrC.gr {c:Nat→Nat} {d w d2 w2:World} {F O A:Nat} {vo vf:Value} {out:List Sp} {lf:List KR} (h:FrC c d w F O A vo out vf lf) (g:Gr d w d2 w2):FrC c d2 w2 F O A vo out vf lf:=by
 have h2:=h.keep3 g.x fun _ _ h=>h.elim
 obtain ⟨css,oo⟩:=h2.em.oo
 obtain ⟨css1,oo1⟩:=h.em.oo
 exact ⟨⟨h2.em.cA,h2.em.cO,h2.em.fO,css,oo.ghost dY.mono g.i fun b hb=>g.o b (oo1.own.lt _ hb).2 (oo1.out b hb)⟩,h2.f0,h2.f2,h2.f5,h2.f6,⟨h2.f7.hd,h2.f7.own,fun x hx=>by
  obtain ⟨a,b,e⟩:=h2.f7.good x hx
  exact ⟨a,b.inc g.i,e.inc g.i⟩⟩,h2.fz,g.o F (aE h.f0) h.oF,g.o O (aE h.em.cO) h.oO,h2.cF,h2.cO,h2.cA,h2.c3,fun b hb=>⟨(h2.c4 b hb).1,g.o b (h.f7.own.lt _ hb).2 (h2.c4 b hb).2⟩⟩
theorem FrS.gr {c:Nat→Nat} {d w d2 w2:World} {F O A:Nat} {vo vf vp vd vk:Value} {out:List Sp} {lf:List KR} {P:List SR} {q:Bytes} (s:FrS c d w F O A vo out vf lf vp P vd vk q) (g:Gr d w d2 w2):FrS c d2 w2 F O A vo out vf lf vp P vd vk q:=by
 have h2:=s.ext g.x
 obtain ⟨n,xs,ho⟩:=s.kown
 exact ⟨s.core.gr g,h2.f3,h2.pown,fun r hr=>(h2.pgood r hr).inc g.i,fun b hb=>⟨(h2.pc b hb).1,g.o b (s.pown.lt _ hb).2 (h2.pc b hb).2⟩,h2.f4,h2.down,fun b hb=>⟨(h2.dc b hb).1,g.o b (s.down.lt _ hb).2 (h2.dc b hb).2⟩,h2.f8,h2.kown,fun b hb=>⟨(h2.kc b hb).1,g.o b (ho.lt _ hb).2 (h2.kc b hb).2⟩,h2.kb,h2.f9⟩
theorem Gr.gk {d w d1 w1 d2 w2:World} {M:Nat→Nat→Prop} (g:Gr d w d1 w1) (G:Gk M d1 w1 d2 w2) (hM:∀ b o,b < w.heap.size→¬ M b o):Gr d w d2 w2 :=
 ⟨g.x.tr G.k fun b o hb hm=>(hM b o hb hm).elim,g.i.trans G.i,G.j,fun b hb ho=>G.o b (aI hb g.x.size) (g.o b hb ho)⟩
end Go.E
namespace Go.Proofs
open Go Go.E Go.Sort Go.Proofs.Tryz
section
variable {k:aq} {d w:World}
theorem ye {v:Value} {l:List Sp} (hv:Sl dY 3 d v l) (hl:l.length≤100000) (hks:∀ x ∈ l,x.ks.length≤100000) (hinc:bz d w) (hk:∀ d' w' v',Gr d w d' w'→Sl dY 3 d' v' l→k v' w'):aX prog 50 #[v] k w:=by
 obtain ⟨ka,kc,rfl⟩:=hv.form
 refine ai [.tmp 2] func50 ?_
 refine al ?_
 refine bO (fun b:Nat × Value=>[(3,b.2),(6,.slice ka l.length kc),(7,.int .i64 l.length),(8,.int .i64 b.1)])
  (fun b w'=>b.1≤l.length∧∃ d1,LoopL dY 3 46 d w d1 w' b.2 (l.take b.1)) (fun b _=>l.length - b.1) (0,.slice none 0 0) (by kernel_rfl) ?_ ⟨aQ _,d,LoopL.nil hinc⟩ ?_
 ·exact bE
 rintro K2 e ⟨i,v⟩ w1 ⟨i2,d1,i3⟩ hK2
 simp only at i2 i3
 rcases aH i l.length with hi | hi
 rotate_left
 ·have hi':¬ (i:Int) < l.length:=by omega
  refine bf @hi' ?_
  obtain rfl:i=l.length:=by omega
  rw [aT] at i3
  obtain ⟨d2,g2,_,_,s2⟩:=i3.done dY.mono
  exact hk d2 w1 v g2 s2
 have hi':(i:Int) < l.length:=by omega
 obtain ⟨g,f,c,hv',hc,hat⟩:=(hv.inc dY.mono i3.g.i).at (by omega)
 obtain ⟨rfl,rfl⟩:=sEq hv'
 obtain ⟨x,hx⟩:=gEl hi
 obtain ⟨cs,_,hcs,hR⟩:=hat i x hx
 have hmem:=aJ hx
 obtain ⟨kv,rfl,hkv⟩:=hR
 obtain ⟨kva,kvc,rfl⟩:=hkv.form
 have h0:w1.cell? ⟨g,f+i * 3,none⟩=some (.string ⟨x.s.toArray⟩):=i3.g.j _ _ _ (hcs 0 _ rfl)
 have h1:w1.cell? ⟨g,f+i * 3+1,none⟩=some (.string ⟨x.e.toArray⟩):=i3.g.j _ _ _ (hcs 1 _ rfl)
 have h2:w1.cell? ⟨g,f+i * 3+2,none⟩=some (.slice kva x.ks.length kvc):=i3.g.j _ _ _ (hcs 2 _ rfl)
 have i4:=i3.ext dY.mono (aL (.cells #[.string ⟨x.s.toArray⟩,.string ⟨x.e.toArray⟩,.slice kva x.ks.length kvc] 56))
 refine gH @hi' @h0 @h1 @h2 @aA ?_
 refine AG (x:=x) hkv (hks x hmem) i4.g.j fun d4 w4 v4 g4 s4 => ?_
 have i5:=i4.call dY.mono g4
 obtain ⟨css,o5⟩:=i5.o
 obtain ⟨va,vcap,rfl,_⟩:=i5.form
 obtain ⟨k4,c4,rfl⟩:=s4.form
 refine al ?_
 refine jI x [.string ⟨x.s.toArray⟩,.string ⟨x.e.toArray⟩,.slice k4 x.ks.length c4] rw28 o5 ⟨_,rfl,s4⟩ rfl (.inl rfl) rfl rfl (by simp [Value.oneCell']) (by rw [dB i2]; omega) i5.g.j fun v2 w2 o2 k2 n2 j2 _ => ?_
 refine al ?_
 refine hK2 _ _ (i+1,v2) ?_ ⟨hi,d4,?_⟩ (by simp only; omega)
 ·exact bE
 ·rw [bn hx]
  exact i5.more o2 k2 n2 j2
end
end Go.Proofs
end
section
namespace Go.E
open Go Go.Sort Go.Proofs
def LJ:gN Bytes:=fun _ cs x=>cs=[str x]
theorem LJ.mono:gi LJ:=fun _ _ _ _ _ h=>h
end Go.E
namespace Go.Proofs
open Go Go.E Go.Sort
section
variable {k:aq} {d w:World}
end
end Go.Proofs
end
section
namespace Go.E
open Go Go.Sort Go.Proofs Go.Proofs.Tryz
def gl (s:Sp):Bool:=decide (s.ks≠[])
structure VOk (Lv:List (List Sp)) (snap:Nat):Prop where
 rin:RIn Lv snap none none
 n6:Lv.length≤6
 sz:∀ x ∈ Lv,x.length≤1000∧∀ y ∈ x,y.ks.length≤2000
 n:Lv.flatten.length≤300
theorem VOk.vl {Lv:List (List Sp)} {snap:Nat} (h:VOk Lv snap):(rV Lv snap none none).length≤601:=by
 have:=CS Lv snap
 have:=h.n
 omega
theorem VOk.vk {Lv:List (List Sp)} {snap:Nat} (h:VOk Lv snap):∀ x ∈ rV Lv snap none none,x.ks.length≤600000:=fun x hx=>by
 have h1:=JJ h.rin (m:=2000) (fun L hL s hs=>(h.sz L hL).2 s hs) x hx
 have h2:Lv.flatten.length * 2000≤300 * 2000:=bK _ h.n
 omega
end Go.E
namespace Go.Proofs
open Go Go.E Go.Sort Go.Proofs.Tryz
section
variable {k:aq} {d w:World}
theorem ts {v:Value} {l:List An} (hv:Sl zZ 5 d v l) (hl:l.length≤10000) (hks:∀ x ∈ mH l,x.ks.length≤1000000) (hinc:bz d w) (hk:∀ d' w' v',Gr d w d' w'→Sl dY 3 d' v' (((mH l).map cR).filter gl)→k v' w'):aX prog 31 #[v] k w:=by
 obtain ⟨ka,kc,rfl⟩:=hv.form
 have hfl:(mH l).length≤l.length:=by
  unfold mH
  rw [ah]
  exact az _ _
 refine ai [.tmp 2] func31 ?_
 refine al ?_
 refine wX hv (by omega) hinc fun d1 w1 v1 g1 s1 => ?_
 refine al ?_
 refine tk s1 (by omega) (fun x hx=>by have:=hks x hx; omega) g1.j fun d2 w2 v2 g2 s2 => ?_
 have g12:=g1.trans g2
 obtain ⟨M,hM⟩:∃ M,M=(mH l).map cR:=⟨_,rfl⟩
 have hMl:M.length≤10000:=by rw [hM,ah]; omega
 rw [← hM] at s2 hk
 obtain ⟨va,vc,rfl⟩:=s2.form
 refine al ?_
 refine bO (fun b:Nat × Value=>[(3,b.2),(8,.slice va M.length vc),(9,.int .i64 M.length),(10,.int .i64 b.1)])
  (fun b w'=>b.1≤M.length∧∃ d1,LoopL dY 3 46 d2 w2 d1 w' b.2 ((M.take b.1).filter gl)) (fun b _=>M.length - b.1) (0,.slice none 0 0) (by kernel_rfl) ?_ ⟨aQ _,d2,LoopL.nil g12.j⟩ ?_
 ·exact bE
 rintro K2 e ⟨i,vo⟩ w3 ⟨i2,d3,i3⟩ hK2
 simp only at i2 i3
 rcases aH i M.length with hi | hi
 rotate_left
 ·have hi':¬ (i:Int) < M.length:=by omega
  refine bf @hi' ?_
  obtain rfl:i=M.length:=by omega
  rw [aT] at i3
  obtain ⟨d4,g4,_,_,s4⟩:=i3.done dY.mono
  exact hk d4 w3 vo (g12.trans g4) s4
 have hi':(i:Int) < M.length:=by omega
 obtain ⟨g,f,c,hv',hc,hat⟩:=(s2.inc dY.mono i3.g.i).at (by omega)
 obtain ⟨rfl,rfl⟩:=sEq hv'
 obtain ⟨x,hx⟩:=gEl hi
 obtain ⟨h0,h1,a,cc,h2,hkx⟩:=dI (hat i x hx)
 have h0:=i3.g.j _ _ _ h0
 have h1:=i3.g.j _ _ _ h1
 have h2:=i3.g.j _ _ _ h2
 have hmore:(M.take (i+1)).filter gl=(M.take i).filter gl++if gl x then [x] else []:=by
  rw [bn hx,List.filter_append]
  cases h:gl x <;> simp [List.filter_cons,h]
 obtain ⟨T,hT⟩:∃ T,T=w3.heap.size:=⟨_,rfl⟩
 obtain ⟨w4,hw4⟩:∃ w4,w4=w3.alloc (.cells #[.string ⟨x.s.toArray⟩,.string ⟨x.e.toArray⟩,.slice a x.ks.length cc] 46):=⟨_,rfl⟩
 have x4:bY w3 w4:=by rw [hw4]; exact aL _
 have a0:w4.cell? ⟨T,0,none⟩=some (.string ⟨x.s.toArray⟩):=by rw [hw4,hT]; exact bb @aA
 have a1:w4.cell? ⟨T,1,none⟩=some (.string ⟨x.e.toArray⟩):=by rw [hw4,hT]; exact bb @aA
 have a2:w4.cell? ⟨T,2,none⟩=some (.slice a x.ks.length cc):=by rw [hw4,hT]; exact bb @aA
 have i5:=i3.ext dY.mono x4
 refine fW @hi' @h0 @h1 @h2 ?_
 rw [← hw4,← hT]
 by_cases hz:x.ks=[]
 ·have hz1:¬ (0:Int) < x.ks.length:=by rw [hz]; simp
  have hz2:gl x=false:=aF fun h=>h hz
  rw [hz2] at hmore
  refine dV @a2 @hz1 ?_
  refine hK2 _ _ (i+1,vo) ?_ ⟨hi,d3,?_⟩ (by simp only; omega)
  ·exact bE
  ·simp only
   rw [hmore,if_neg (by decide),au]
   exact i5
 ·have hz0:x.ks.length≠0:=fun h=>hz (ao.1 h)
  have hz1:(0:Int) < x.ks.length:=by omega
  have hz2:gl x=true:=aO hz
  rw [hz2] at hmore
  obtain ⟨css,o5⟩:=i5.o
  obtain ⟨wa,wcap,rfl,_⟩:=i5.form
  have hfl2:((M.take i).filter gl).length≤i:=by
   refine aU (az _ _) ?_
   rw [ar]; omega
  refine fW @a0 @a1 @a2 @hz1 ?_
  refine jI x [.string ⟨x.s.toArray⟩,.string ⟨x.e.toArray⟩,.slice a x.ks.length cc] rw28 o5 ⟨_,rfl,hkx⟩ rfl (.inl rfl) rfl rfl (by simp [Value.oneCell']) (by omega) i5.g.j fun v6 w6 o6 k6 n6 j6 _ => ?_
  refine al ?_
  refine hK2 _ _ (i+1,v6) ?_ ⟨hi,d3,?_⟩ (by simp only; omega)
  ·exact bE
  ·simp only
   rw [hmore,if_pos rfl]
   exact i5.more o6 k6 n6 j6
theorem we {lv:Value} {Lv:List (List Sp)} {snap:Nat} (hv:Sl jx 1 d lv Lv) (u:VOk Lv snap) (hinc:bz d w) (hk:∀ d' w' v',Gr d w d' w'→Sl dY 3 d' v' ((eu (rV Lv snap none none)).map cR)→k v' w'):aX prog 34 #[lv,.int .u64 snap] k w:=by
 obtain ⟨la,lc,rfl⟩:=hv.form
 refine ai [.tmp 4] func34 ?_
 refine al ?_
 have eS:ByteArray.empty=⟨([]:Bytes).toArray⟩:=rfl
 have hVl:=u.vl
 have hVk:=u.vk
 obtain ⟨V,hV⟩:∃ V,V=rV Lv snap none none:=⟨_,rfl⟩
 rw [← hV] at hVl hVk hk
 refine pZ hv (by have:=u.n6; omega) (fun x hx=>⟨by have:=(u.sz x hx).1; omega,fun y hy=>by have:=(u.sz x hx).2 y hy; omega⟩) hinc fun d5 w5 v5 g5 s5 => ?_
 refine al ?_
 refine tq (n:=600) (by decide) g5.j fun d6 w6 v6 g6 s6 => ?_
 have i6:=g5.trans g6
 refine al ?_
 rw [eS]
 refine nO (kl:=[]) (kh:=[]) (bl:=false) (bh:=false) (s5.inc jx.mono g6.i) s6 i6.j u.rin (by decide) (by decide) (JK 600).1 (by rw [(uy 600).1]; decide) fun d7 w7 v7 l7 g7 s7 hp => ?_
 have i7:=i6.trans g7
 have hp:Pw (mz V (E1 qG)) (qE V (-2) false 0 (HP 600)) l7:=by rw [hV]; exact hp
 have hl7:l7.length=601:=by rw [← hp.1,zx,(uy 600).1]
 have hb7:=CR (by omega) hp
 have hk7:=zy hb7 hVk
 refine al ?_
 refine ts s7 (by omega) (fun x hx=>by have:=hk7 x hx; omega) i7.j fun d8 w8 v8 g8 s8 => ?_
 rw [hb7,show gl=fun s:Sp=>decide (s.ks≠[]) from rfl,CQ] at s8
 refine al ?_
 exact hk d8 w8 v8 (i7.trans g8) s8
end
end Go.Proofs
end
section
namespace Go.E
open Go Go.Sort Go.Proofs
section
variable {Lv:List (List Sp)} {n snap:Nat}
theorem LvOk.flat (lo:LvOk Lv n):Lv.flatten.length≤6 * n:=by
 have h1:=eU (Lv:=Lv) (n:=n) lo.sz
 have h2:Lv.length * n≤6 * n:=bK _ lo.n6
 omega
theorem LvOk.v (lo:LvOk Lv n) (hn:n≤8) (hsn:snap < 18446744073709551616) (f2:∀ x ∈ Lv,x.length≤2147483647∧∀ y ∈ x,rG y):VOk Lv snap :=
 ⟨Ee lo (by omega) hsn f2 qN,lo.n6,fun x hx=>⟨by have:=lo.sz x hx; omega,fun y hy=>by have:=(lo.ks x hx y hy).2; omega⟩,by have:=lo.flat; omega⟩
end
end Go.E
namespace Go.Proofs
open Go Go.E Go.Sort
section
variable {k:aq} {d w:World}
end
end Go.Proofs
end
section
namespace Go.E
open Go Go.Sort Go.Proofs
section
variable {Lv:List (List Sp)} {snap:Nat} {l F:List Sp}
theorem FrOut.lens (o:FrOut l F) (hn:l.length≤48) (hk:∀ x ∈ l,x.ks.length≤40):F.length≤96∧∀ f ∈ F,f.ks.length≤1920:=by
 have h1:=z8 o.ch fun f hf=>(o.str f hf).1
 refine ⟨by omega,fun f hf => ?_⟩
 have h2:=HQ o.ch hf
 have h3:=(o.pt f.s).length_eq
 have h4:=A0 (key:=f.s) hk
 have h5:l.length * 40≤48 * 40:=bK _ hn
 omega
theorem JP (hch:Ch F) (hne:∀ f ∈ F,f.ks≠[]) (hcd:∀ x,Cd (iD F x)) (hst:∀ f ∈ F,(∃ y ∈ l,f.s=y.s∨f.s=y.e)∧∃ y ∈ l,f.e=y.s∨f.e=y.e) (hkey:∀ f ∈ F,∀ k ∈ f.ks,∃ y ∈ l,k ∈ y.ks) (h1:F.length≤96) (h2:∀ f ∈ F,f.ks.length≤1921) (hsn:snap < 18446744073709551616) (hl:∀ x ∈ l,rG x):VOk [F] snap:=by
 have hm:∀ L ∈ [F],L=F:=fun L h=>ae.1 h
 have hw:∀ L ∈ [F],Wf L:=fun L h=>by rw [hm L h]; exact sX.2 hch
 have e:[F].flatten=F:=by simp
 refine ⟨⟨by simp,hsn,hw,fun L h => ?_,JC hw fun x=>by rw [e]; exact hcd x,qN⟩,by simp,fun L h=>by rw [hm L h]; exact ⟨by omega,fun y hy=>by have:=h2 y hy; omega⟩,by rw [e]; omega⟩
 rw [hm L h]
 refine ⟨by omega,fun s hs=>⟨?_,?_,by have:=h2 s hs; omega,hne s hs,fun x hx => ?_⟩⟩
 ·obtain ⟨y,hy,e⟩:=(hst s hs).1
  have:=hl y hy
  rcases e with e | e
  ·rw [e]; have:=this.1; omega
  ·rw [e]; have:=this.2.1; omega
 ·obtain ⟨y,hy,e⟩:=(hst s hs).2
  have:=hl y hy
  rcases e with e | e
  ·rw [e]; have:=this.1; omega
  ·rw [e]; have:=this.2.1; omega
 ·obtain ⟨y,hy,e⟩:=hkey s hs x hx
  have:=(hl y hy).2.2.2 x e
  unfold B8
  unfold EY at this
  omega
theorem FrOut.v (o:FrOut l F) (hcd:∀ x,Cd (iD l x)) (hn:l.length≤48) (hsn:snap < 18446744073709551616) (hf:∀ x ∈ l,rG x) (hk:∀ x ∈ l,x.ks.length≤40):VOk [F] snap:=by
 obtain ⟨h1,h2⟩:=o.lens hn hk
 exact JP o.ch (fun f hf=>(o.ne f hf).1) (fun x=>(hcd x).perm (o.pt x).symm) o.str o.key h1 (fun f hf=>by have:=h2 f hf; omega) hsn hf
end
end Go.E
namespace Go.Proofs
open Go Go.E Go.Sort
section
variable {k:aq} {d w:World}
end
end Go.Proofs
end
section
namespace Go.E
open Go Go.Sort Go.Proofs Go.Proofs.Tryz
def yf (l:List Nat):Prop:=l.Pairwise fun a b=>a < b
theorem CW {l:List Nat} {i x y:Nat} (h:yf (l.take i)) (h0:0 < i) (hx:l[i - 1]? = some x) (hy:l[i]? = some y) (hxy:x < y):yf (l.take (i+1)):=by
 rw [bn hy]
 refine List.pairwise_append.2 ⟨h,by simp,fun a ha b hb => ?_⟩
 rw [ae] at hb
 subst hb
 obtain ⟨j,hj,rfl⟩:=aV ha
 obtain ⟨hl1,hl2⟩:=(aP.1 hx)
 have hjl:=hj
 rw [ar] at hjl
 rcases aH j (i - 1) with h1 | h1
 ·have:=bA.1 h j (i - 1) hj (by rw [ar]; omega) h1
  rw [List.getElem_take (i:=i - 1),hl2] at this
  omega
 ·obtain rfl:j=i - 1:=by omega
  rw [List.getElem_take,hl2]
  exact hxy
structure FitOk (Lv:List (List Sp)) (snaps:List Nat):Prop where
 lv:LvOk Lv 8
 n12:snaps.length≤12
 rise:yf snaps
 s55:∀ s ∈ snaps,s < 36028797018963968
 k55:∀ f ∈ Lv.flatten,∀ k ∈ f.ks,k.tr / 256 < 36028797018963968
end Go.E
namespace Go.Proofs
open Go Go.E Go.Sort Go.Proofs.Tryz
section
variable {k:aq} {d w:World}
theorem AH {v:Value} {l:List Nat} {i x:Nat} {g f c:Nat} (hv:Sl Cj 1 w (.slice (some ⟨g,f,none⟩) l.length c) l) (hx:l[i]? = some x):w.cell? ⟨g,f+i * 1,none⟩=some (.int .u64 x)∧x < 18446744073709551616:=by
 obtain ⟨g2,f2,c2,hv2,_,hat⟩:=hv.at (by have:=(aP.1 hx).1; omega)
 obtain ⟨⟨rfl,rfl⟩,rfl⟩:(g=g2∧f=f2)∧c=c2:=by simpa using hv2
 obtain ⟨cs,_,hcs,rfl,h⟩:=hat i x hx
 exact ⟨by simpa using hcs 0 _ rfl,h⟩
theorem AI {v:Value} {l:List Nat} (hv:Sl Cj 1 w v l) (hl:l.length≤1000) (hk:wK (yf l) k w):aX prog 78 #[v] k w:=by
 obtain ⟨ka,kc,rfl⟩:=hv.form
 refine ai [.tmp 2] func78 ?_
 refine al ?_
 refine bO (fun i:Nat=>[(0,.slice ka l.length kc),(3,.int .i64 i)])
  (fun i w'=>0 < i∧bY w w'∧yf (l.take i)) (fun i _=>l.length - i) 1 (by kernel_rfl) ?_ ⟨Nat.one_pos,bY.refl _,by (cases l with | nil=>exact List.Pairwise.nil | cons a l=>exact List.pairwise_singleton _ _)⟩ ?_
 ·exact bE
 rintro K2 e i w1 ⟨i0,i3,i4⟩ hK2
 rcases aH i l.length with hi | hi
 rotate_left
 ·have hi':¬ (i:Int) < l.length:=by omega
  refine bf @hi' ?_
  rw [eC hi] at i4
  exact hk.yes i3 i4
 have hi':(i:Int) < l.length:=by omega
 obtain ⟨g,f,c,hv',hc,_⟩:=hv.at (by omega)
 obtain ⟨rfl,rfl⟩:=sEq hv'
 obtain ⟨x,hx⟩:∃ x,l[i - 1]? = some x:=⟨_,aC (by omega)⟩
 obtain ⟨y,hy⟩:=gEl hi
 obtain ⟨h0,_⟩:=AH (v := .nilIface) hv hx
 obtain ⟨h1,_⟩:=AH (v := .nilIface) hv hy
 have h0:=i3.cell h0
 have h1:=i3.cell h1
 have e1:(i:Int) - 1=((i - 1:Nat):Int):=by omega
 have e2:(0:Int)≤((i - 1:Nat):Int):=by omega
 have e3:((i - 1:Nat):Int) < l.length:=by omega
 have e4:(0:Int)≤(i:Nat):=by omega
 have e5:(((i - 1:Nat):Int)).toNat=i - 1:=rfl
 by_cases hxy:x < y
 ·have hxy':¬ ((y:Int)≤x):=by omega
  refine bf @hi' ?_
  refine ay (sq [0,1,2,3] (.read 4 (sq [5,6,7] (.read 8 (sq [9] .done))))) ?_
  refine xS @e1 @e2 @e3 @e4 @hi' @h0 @h1 @hxy' ?_
  refine hK2 _ _ (i+1) ?_ ⟨Nat.succ_pos _,i3.drew,CW i4 i0 hx hy hxy⟩ (by omega)
  exact bE
 ·have hxy':(y:Int)≤x:=by omega
  refine bf @hi' ?_
  refine ay (sq [0,1,2,3] (.read 4 (sq [5,6,7] (.read 8 (sq [9] .done))))) ?_
  refine xS @e1 @e2 @e3 @e4 @hi' @h0 @h1 @hxy' ?_
  exact hk.no i3.drew
theorem Fx {lv sv:Value} {Lv:List (List Sp)} {snaps:List Nat} (hv:Sl jx 1 d lv Lv) (hs:Sl Cj 1 d sv snaps) (f1:Lv.length≤2147483647) (f2:∀ x ∈ Lv,x.length≤2147483647∧∀ y ∈ x,y.ks.length≤2147483647) (hinc:bz d w) (hk:wK (FitOk Lv snaps) k w) :
    aX prog 45 #[lv,.int .i64 8,sv] k w:=by
 obtain ⟨la,lc,rfl⟩:=hv.form
 obtain ⟨sa,sc,rfl⟩:=hs.form
 refine ai [.tmp 6] func45 ?_
 by_cases h12:12 < snaps.length
 ·have h12':(12:Int) < snaps.length:=by omega
  refine bf @h12' ?_
  exact hk.no (bY.refl _)
 have h12':¬ (12:Int) < snaps.length:=by omega
 refine bf @h12' ?_
 refine AI (hs.inc dJ hinc) (by omega) fun b1 w1 x1 hb1 => ?_
 cases b1 with
 | false =>
  refine al ?_
  exact hk.no x1
 | true =>
 have hr:=hb1 rfl
 refine al ?_
 refine rH (n:=8) hv f1 f2 (by decide) (hinc.trans x1.inc) fun b2 w2 x2 hb2 => ?_
 have x12:=x1.trans x2
 cases b2 with
 | false =>
  refine al ?_
  exact hk.no x12
 | true =>
 have lo:=hb2 rfl
 refine al ?_
 refine gm (fun _:Unit=>[(0,.slice la Lv.length lc)]) (fun _ w'=>bY w w'∧∀ s ∈ snaps,s < 36028797018963968) (by kernel_rfl) (fun K hK => ?_) ?_
 ·refine bO (fun i:Nat=>[(0,.slice la Lv.length lc),(6,.bool false),(27,.slice sa snaps.length sc),(28,.int .i64 snaps.length),(29,.int .i64 i)])
    (fun i w'=>i≤snaps.length∧bY w w'∧∀ s ∈ snaps.take i,s < 36028797018963968) (fun i _=>snaps.length - i) 0 (by kernel_rfl) ?_ ⟨aQ _,x12,by simp⟩ ?_
  ·exact bE
  rintro K2 e i w3 ⟨i2,i3,i4⟩ hK2
  rcases aH i snaps.length with hi | hi
  rotate_left
  ·have hi':¬ (i:Int) < snaps.length:=by omega
   refine bf @hi' ?_
   obtain rfl:i=snaps.length:=by omega
   rw [aT] at i4
   refine hK _ _ () ?_ ⟨i3,i4⟩
   exact bE
  have hi':(i:Int) < snaps.length:=by omega
  obtain ⟨g,f,c,hv',hc,_⟩:=hs.at (by omega)
  obtain ⟨rfl,rfl⟩:=sEq hv'
  obtain ⟨x,hx⟩:=gEl hi
  obtain ⟨h0,_⟩:=AH (v := .nilIface) (hs.inc dJ (hinc.trans i3.inc)) hx
  by_cases h5:x < 36028797018963968
  ·have h5':¬ (36028797018963968:Int)≤x:=by omega
   refine eI @hi' @h0 @h5' ?_
   refine hK2 _ _ (i+1) ?_ ⟨hi,i3,ey i4 hx h5⟩ (by omega)
   exact bE
  ·have h5':(36028797018963968:Int)≤x:=by omega
   refine eI @hi' @h0 @h5' ?_
   exact hk.no i3
 rintro e _ w3 ⟨x3,h55⟩
 have i0:=Gr.ext hinc x3
 refine al ?_
 refine qq (hv.inc jx.mono i0.i) (by have:=lo.n6; omega) (fun x hx=>by have:=lo.sz x hx; omega) i0.j fun d4 w4 v4 g4 s4 => ?_
 have i4:=i0.trans g4
 obtain ⟨A,hA⟩:∃ A,A=Lv.flatten:=⟨_,rfl⟩
 rw [← hA] at s4
 have hfl:=lo.flat
 rw [← hA] at hfl
 have hk40:∀ y ∈ A,y.ks.length≤40:=fun y hy=>by
  rw [hA] at hy
  obtain ⟨L,hL,hy⟩:=cQ.1 hy
  exact (lo.ks L hL y hy).2
 obtain ⟨a4,c4,rfl⟩:=s4.form
 refine al ?_
 refine bO (fun i:Nat=>[(37,.slice a4 A.length c4),(38,.int .i64 A.length),(39,.int .i64 i)])
  (fun i w'=>i≤A.length∧bY w4 w'∧∀ f ∈ A.take i,∀ k ∈ f.ks,k.tr / 256 < 36028797018963968) (fun i _=>A.length - i) 0 (by kernel_rfl) ?_ ⟨aQ _,bY.refl _,by simp⟩ ?_
 ·exact bE
 rintro K2 e2 i w5 ⟨i2,i3,i4'⟩ hK2
 rcases aH i A.length with hi | hi
 rotate_left
 ·have hi':¬ (i:Int) < A.length:=by omega
  refine bf @hi' ?_
  obtain rfl:i=A.length:=by omega
  rw [aT] at i4'
  exact hk.yes (i4.x.trans i3) ⟨lo,by omega,hr,h55,by rw [← hA]; exact i4'⟩
 have hi':(i:Int) < A.length:=by omega
 obtain ⟨g,f,c,hv',hc,hat⟩:=(s4.inc dY.mono (i4.j.trans i3.inc)).at (by omega)
 obtain ⟨rfl,rfl⟩:=sEq hv'
 obtain ⟨x,hx⟩:=gEl hi
 have hxm:=aJ hx
 obtain ⟨h0,h1,a,cc,h2,hxk⟩:=dI (hat i x hx)
 have hxl:=hk40 x hxm
 have x4:=aL (w:=w5) (.cells #[.string ⟨x.s.toArray⟩,.string ⟨x.e.toArray⟩,.slice a x.ks.length cc] 46)
 have hxk:=hxk.inc KE.mono x4.inc
 refine gH @hi' @h0 @h1 @h2 @aA ?_
 refine bO (fun j:Nat=>[(37,.slice (some ⟨g,f,none⟩) A.length c4),(38,.int .i64 A.length),(39,.int .i64 i),(44,.slice a x.ks.length cc),(45,.int .i64 x.ks.length),(46,.int .i64 j)])
  (fun j w'=>j≤x.ks.length∧bY (w5.alloc (.cells #[.string ⟨x.s.toArray⟩,.string ⟨x.e.toArray⟩,.slice a x.ks.length cc] 46)) w'∧∀ k ∈ x.ks.take j,k.tr / 256 < 36028797018963968) (fun j _=>x.ks.length - j) 0 (by kernel_rfl) ?_ ⟨aQ _,bY.refl _,by simp⟩ ?_
 ·exact bE
 rintro K3 e3 j w6 ⟨j2,j3,j4⟩ hK3
 rcases aH j x.ks.length with hj | hj
 rotate_left
 ·have hj':¬ (j:Int) < x.ks.length:=by omega
  refine bf @hj' ?_
  obtain rfl:j=x.ks.length:=by omega
  rw [aT] at j4
  refine hK2 _ _ (i+1) ?_ ⟨hi,i3.trans (x4.trans j3),ey i4' hx j4⟩ (by omega)
  exact bE
 have hj':(j:Int) < x.ks.length:=by omega
 obtain ⟨g2,f2,c2,hv2,hc2,hat2⟩:=(hxk.inc KE.mono j3.inc).at (by omega)
 obtain ⟨rfl,rfl⟩:a=some ⟨g2,f2,none⟩∧cc=c2:=by simpa using hv2
 obtain ⟨y,hy⟩:=gEl hj
 obtain ⟨p0,p1,p2,p3⟩:=eW (hat2 j y hy)
 have x5:=aL (w:=w6) (.cells #[.int .u64 y.tr,.string ⟨y.suf.toArray⟩,.string ⟨y.val.toArray⟩] 88)
 by_cases h5:y.tr / 256 < 36028797018963968
 ·have h5':¬ (36028797018963968:Int)≤(y.tr / 256:Nat):=by omega
  refine gH @hj' @p0 @p1 @p2 @aA ?_
  refine rT ?_
  refine bf @h5' ?_
  refine hK3 _ _ (j+1) ?_ ⟨hj,j3.trans x5,ey j4 hy h5⟩ (by omega)
  exact bE
 ·have h5':(36028797018963968:Int)≤(y.tr / 256:Nat):=by omega
  refine gH @hj' @p0 @p1 @p2 @aA ?_
  refine rT ?_
  refine bf @h5' ?_
  exact hk.no (i4.x.trans (i3.trans (x4.trans (j3.trans x5))))
end
end Go.Proofs
end
