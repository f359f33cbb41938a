/- Parts of the proof: Wf, Wg, Xa, Va, Vb, Vc. -/
import Derived.Test.YtjcbeinpkafjiaaGreatW09
import Derived.Test.YtjcbeinpkafjiaaGreatW18
import Derived.Test.YtjcbeinpkafjiaaGreatW19
set_option linter.all false
set_option maxRecDepth 10000
section
namespace Go.E
open Go Go.Sort Go.Proofs Go.Proofs.Tryz
def mf:iK (List Sp):=fun w cs x=>∃ v,cs=[v]∧Sl eJ 3 w v x
theorem mf.mono:iP mf:=fun _ _ _ _ hi ⟨v,h1,h2⟩=>⟨v,h1,h2.inc eJ.mono hi⟩
def BJ:iK Lvl:=fun _ cs x=>cs=[.iface 233 (.pointer (some ⟨x.I,0,none⟩))]
theorem BJ.mono:iP BJ:=fun _ _ _ _ _ h=>h
structure ItsAt (n:Nat) (d w:World) (Ls:List Lvl):Prop where
 at_:∀ x ∈ Ls,IterAt w x.I x.b x.o x.L.length (-1)∧ie d x.b x.o x.L∧cx d x.I∧n≤x.I∧x.I < w.heap.size
 ne:Ls.Pairwise fun x y=>x.I≠y.I
theorem ItsAt.keep {n:Nat} {d d2 w w2:World} {Ls:List Lvl} {M:Nat→Nat→Prop} (h:ItsAt n d w Ls) (hk:Keep M w w2) (hm:∀ x ∈ Ls,∀ o,¬ M x.I o) (hi:cN d d2) (ho:∀ b,cx d b→(∃ x ∈ Ls,x.I=b)→cx d2 b):ItsAt n d2 w2 Ls where
 at_ x hx:=by
  obtain ⟨a1,a2,a3,a4,a5⟩:=h.at_ x hx
  exact ⟨a1.keep hk (hm x hx),a2.inc hi,ho _ a3 ⟨x,hx,rfl⟩,a4,aI a5 hk.size⟩
 ne:=h.ne
def pZ:Obj := .cells #[.func (.func 102) #[] #[],.func (.func 103) #[] #[],.func (.func 104) #[] #[],.nilFunc,.func (.func 106) #[] #[],.nilFunc,.func (.func 108) #[] #[],.func (.func 109) #[] #[],
 .string ⟨#[108,101,118,101,108,100,98,46,66,121,116,101,119,105,115,101,67,111,109,112,97,114,97,116,111,114]⟩] 208
end Go.E
namespace Go.Proofs
open Go Go.E Go.Sort Go.Proofs.Tryz
section
variable {k:au} {d w:World}
theorem ez (hk:k (.pointer (some ⟨w.heap.size,0,none⟩)) (w.alloc pZ)):aX prog 66 #[] k w:=by
 refine ae [.tmp 0] func66 ?_
 refine an ?_
 exact hk
theorem wo {a:Option Addr} {n c:Nat} (hk:k (.pointer (some ⟨w.heap.size,0,none⟩)) (w.alloc (.cells #[.func (.func 102) #[] #[],.slice a n c,.int .i64 (-1)] 261))):aX prog 110 #[.func (.func 102) #[] #[],.slice a n c] k w:=by
 refine ae [.tmp 4] func110 ?_
 refine an ?_
 refine ae [] func134 ?_
 refine an ?_
 exact hk
theorem gW {v:Value} {l:List (List Sp)} (hv:Sl mf 1 d v l) (hl:l.length < 1000000) (hlen:∀ x ∈ l,x.length < 1000000∧∀ s ∈ x,wm s) (hinc:cN d w)
    (hk:∀ d' w' v' Ls,Gr d w d' w'→Sl BJ 1 d' v' Ls→ItsAt w.heap.size d' w' Ls→Ls.map Lvl.L=l→k v' w'):aX prog 68 #[v] k w:=by
 obtain ⟨ka,kc,rfl⟩:=hv.form
 refine ae [.tmp 2] func68 ?_
 refine an ?_
 refine bR (fun b:Nat × Value=>[(3,b.2),(6,.slice ka l.length kc),(7,.int .i64 l.length),(8,.int .i64 b.1)])
  (fun b w'=>b.1≤l.length∧∃ d1 Ls,LoopL BJ 1 118 d w d1 w' b.2 Ls∧ItsAt w.heap.size d1 w' Ls∧Ls.map Lvl.L=l.take b.1∧∀ x ∈ Ls,b.2.ownBlock≠some x.I) (fun b _=>l.length - b.1) (0,.slice none 0 0) (by kernel_rfl) ?_ ⟨aP _,d,[],LoopL.nil hinc,⟨by simp,.nil⟩,rfl,by simp⟩ ?_
 ·exact bO
 rintro K2 e ⟨i,v⟩ w1 ⟨i2,d1,Ls,i3,it,hm,hne⟩ hK2
 simp only at i2 i3 hm hne
 have hLs:Ls.length=i:=by
  have:=congrArg List.length hm
  rwa [aS,dS i2] at this
 rcases aG i l.length with hi | hi
 rotate_left
 ·have hi':¬ (i:Int) < l.length:=by omega
  refine bf @hi' ?_
  obtain rfl:i=l.length:=by omega
  rw [ah] at hm
  obtain ⟨d2,g2,i2,o2,s2⟩:=i3.done BJ.mono
  exact hk d2 w1 v Ls g2 s2 (it.keep (bj.refl w1) (fun _ _ _ h=>h) i2 fun b h1 h2=>o2 b h1 fun h=>by obtain ⟨x,hx,rfl⟩:=h2; exact hne x hx h) hm
 have hi':(i:Int) < l.length:=by omega
 obtain ⟨g,f,c,hv',hc,hat⟩:=(hv.inc mf.mono i3.g.i).at (by omega)
 obtain ⟨rfl,rfl⟩:=sEq hv'
 obtain ⟨x,hx⟩:=gEl hi
 obtain ⟨cs,_,hcs,u,rfl,hu⟩:=hat i _ hx
 have hmem:=aK hx
 obtain ⟨ua,uc,rfl⟩:=hu.form
 have h0:w1.cell? ⟨g,f+i * 1,none⟩=some (.slice ua x.length uc):=i3.g.j _ _ _ (hcs 0 _ rfl)
 refine dU @hi' @h0 ?_
 refine ay (sq [0,5] (.eff 1 [] (sq [2,3] (.read 4 (.eff 6 [4] (.eff 7 [] (sq [8] (.eff 9 [] (.eff 10 [] (sq [11] .done)))))))))) ?_
 refine an ?_
 refine ez ?_
 obtain ⟨w3,hw3⟩:∃ w3,w3=w1.drew.alloc pZ:=⟨_,rfl⟩
 have x3:bj w1 w3:=by rw [hw3]; exact (Keep.refl _ w1).drew.trans (aM _)
 have p0:w3.cell? ⟨w1.heap.size,0,none⟩=some (.func (.func 102) #[] #[]):=by rw [hw3]; unfold pZ; exact bk @aA
 rw [← hw3]
 refine bf @p0 ?_
 have i4:=i3.ext BJ.mono x3
 refine BI hu (hlen x hmem).1 (hlen x hmem).2 i4.g.j fun d4 w4 v4 g4 s4 => ?_
 have i5:=i4.call BJ.mono g4
 have p0:=g4.x.cell p0
 obtain ⟨pa,pc,rfl⟩:=s4.form
 obtain ⟨pb,po,hpa⟩:∃ b o,ie d4 b o x∧(0 < x.length→pa=some ⟨b,o,none⟩):=by
  rcases bE x.length with h | h
  ·exact ⟨0,0,fun j hj=>by omega,fun h'=>by omega⟩
  ·obtain ⟨b,o,c',e,_,hat4⟩:=s4.at h
   refine ⟨b,o,fun j hj => ?_,fun _=>by simpa using (Value.slice.inj e).1⟩
   have:=hat4 j _ (aC hj)
   rw [aH x j hj]
   exact xu.span this
 refine bf @p0 ?_
 refine wo ?_
 obtain ⟨I,hI⟩:∃ I,I=w4.heap.size:=⟨_,rfl⟩
 obtain ⟨w6,hw6⟩:∃ w6,w6=w4.alloc (.cells #[.func (.func 102) #[] #[],.slice pa x.length pc,.int .i64 (-1)] 261):=⟨_,rfl⟩
 have x6:bj w4 w6:=by rw [hw6]; exact aM _
 have z6:w6.heap.size=I+1:=by rw [hw6,World.size_alloc,hI]
 have q0:w6.cell? ⟨I,0,none⟩=some (.func (.func 102) #[] #[]):=by rw [hw6,hI]; exact bk @aA
 have q1:w6.cell? ⟨I,1,none⟩=some (.slice pa x.length pc):=by rw [hw6,hI]; exact bk @aA
 have q2:w6.cell? ⟨I,2,none⟩=some (.int .i64 (-1)):=by rw [hw6,hI]; exact bk @aA
 have f6:∀ y,w6.frozen? ⟨I,y,none⟩=false:=fun y=>by rw [hw6,hI]; simp (disch:=first | exact dZ | fail) only [go_sem]
 rw [← hw6,← hI]
 have i7:=i5.ext BJ.mono x6
 obtain ⟨va,vcap,rfl,_⟩:=i7.form
 have p0:=x6.cell p0
 refine bf @p0 ?_
 obtain ⟨css,o7⟩:=i7.o
 have hsz:w.heap.size≤w4.heap.size:=i5.g.x.size
 have it7:ItsAt w.heap.size d4 w6 Ls:=it.keep (M:=fun _ _=>False) (x3.trans (g4.x.trans x6)) (fun _ _ _ h=>h) g4.i fun b h1 ⟨y,hy,e⟩=>g4.o b (by have:=(it.at_ y hy).2.2.2.2; have:=x3.size; omega) h1
 have oI:cx d4 I:=i5.g.j.out (by omega)
 refine ju (⟨I,pb,po,x⟩:Lvl) [.iface 233 (.pointer (some ⟨I,0,none⟩))] rw173 o7 rfl rfl (.inl rfl) rfl rfl (by simp [Value.oneCell']) (by rw [hLs]; omega) i7.g.j fun v2 w2 o2 k2 n2 j2 _ => ?_
 refine bf @p0 ?_
 have hown:∀ y ∈ Ls,y.I < w6.heap.size∧y.I≠I:=fun y hy=>by
  have:=(it.at_ y hy).2.2.2.2
  have:=x3.size
  have:=g4.x.size
  omega
 have oI2:(Value.slice va Ls.length vcap).ownBlock≠some I:=fun h=>by
  have:=(o7.own.lt _ h).2
  obtain ⟨_,o5⟩:=i5.o
  have:=(o5.own.lt _ h).2
  omega
 refine hK2 _ _ (i+1,v2) ?_ ⟨hi,d4,Ls++[⟨I,pb,po,x⟩],i7.more o2 k2 n2 j2,?_,?_,?_⟩ (by simp only; omega)
 ·exact bO
 ·have it8:=it7.keep (w2:=w2) k2 (fun y hy o h=>hne y hy h) (cN.refl d4) fun b h _=>h
  refine ⟨fun y hy => ?_,List.pairwise_append.2 ⟨it8.ne,List.pairwise_singleton _ _,fun y hy z hz => ?_⟩⟩
  ·rcases aV.1 hy with hy | hy
   ·exact it8.at_ y hy
   ·obtain rfl:=aQ.1 hy
    refine ⟨⟨k2.some q0 fun h=>oI2 h,⟨pa,pc,k2.some q1 fun h=>oI2 h,hpa.2⟩,k2.some q2 fun h=>oI2 h,fun y=>by rw [k2.frozen I y (by omega)]; exact f6 y⟩,hpa.1,oI,by simp only; omega,by have:=k2.size; simp only; omega⟩
  ·rw [aQ.1 hz]
   exact (hown y hy).2
 ·rw [bH,hm,bw hx]
  rfl
 ·intro y hy h
  rcases n2 _ h with h | h
  ·rcases aV.1 hy with hy | hy
   ·exact hne y hy h
   ·obtain rfl:=aQ.1 hy
    exact oI2 h
  ·rcases aV.1 hy with hy | hy
   ·have:=(hown y hy).1; omega
   ·obtain rfl:=aQ.1 hy
    simp only at h
    omega
end
end Go.Proofs
end
section
namespace Go.E
open Go Go.Sort Go.Proofs Go.Proofs.Tryz
theorem DE {b o:Nat} {k:au} (l:List Value) (i:Nat) {w:World} (hc:∀ j,i≤j→j < i+l.length→∃ u,w.cell? ⟨b,o+j,none⟩=some u) (hf:∀ y,w.frozen? ⟨b,y,none⟩=false) (h1:∀ u ∈ l,u.oneCell'=true)
    (hk:∀ w',(∀ j u,l[j]? = some u→w'.cell? ⟨b,o+i+j,none⟩=some u)→Keep (fun c x=>c=b∧o+i≤x∧x < o+i+l.length) w w'→k undef w'):sZ ⟨b,o,none⟩ i l k w:=by
 induction l generalizing i w with
 | nil =>
  rw [EO]
  exact hk w (by simp) (Keep.refl _ w)
 | cons v l ih =>
  rw [vu]
  have ea:(⟨b,o,none⟩:Addr).add i=⟨b,o+i,none⟩:=by cases i <;> rfl
  rw [ea]
  obtain ⟨u,hu⟩:=hc i (aE _) (by simp only [aY]; omega)
  rw [hu,hf]
  unfold uP
  rw [ea]
  refine ⟨⟨rfl,rfl,h1 v aO⟩,ih (i+1) (fun j h2 h3 => ?_) (fun y=>by rw [World.frozen?_setCell]; exact hf y) (fun x hx=>h1 x (aj _ hx)) fun w' hw' k'=>hk w' (fun j x hx => ?_) ?_⟩
  ·obtain ⟨x,hx⟩:=hc j (by omega) (by simp only [aY]; omega)
   exact ⟨x,by show (w.setCell ⟨b,o+i,none⟩ v).cell? _=_; rw [fu (by omega)]; exact hx⟩
  ·cases j with
   | zero =>
    simp only [List.getElem?_cons_zero,aL] at hx
    subst hx
    refine k'.some (b:=b) (o:=o+i+0) ?_ (by omega)
    show (w.setCell ⟨b,o+i,none⟩ v).cell? ⟨b,o+i,none⟩=_
    rw [bu,hu]
    rfl
   | succ j =>
    rw [List.getElem?_cons_succ] at hx
    have:=hw' j x hx
    rwa [show o+(i+1)+j=o+i+(j+1) by omega] at this
  ·refine Keep.trans (bW (o:=o+i) ⟨rfl,aE _,by simp only [aY]; omega⟩) (k'.mono fun c x _ h => ?_)
   simp only [aY]
   omega
theorem DF {b o:Nat} {k:au} {v:Value} {l:List Value} {w:World} (hc:∀ j,j < l.length+1→∃ u,w.cell? ⟨b,o+j,none⟩=some u) (hf:∀ y,w.frozen? ⟨b,y,none⟩=false) (h1:∀ u ∈ v :: l,u.oneCell'=true)
    (hk:∀ w',(∀ j u,(v :: l)[j]? = some u→w'.cell? ⟨b,o+j,none⟩=some u)→Keep (fun c x=>c=b∧o≤x∧x < o+(l.length+1)) w w'→k undef w'):uP (w.cell? ⟨b,o,none⟩) (w.frozen? ⟨b,o,none⟩) v ⟨b,o,none⟩ 0 l k w:=by
 have:=DE (k:=k) (b:=b) (o:=o) (v :: l) 0 (w:=w) (fun j _ h=>hc j (by simpa using h)) hf h1 fun w' a c=>hk w' a c
 rwa [vu] at this
theorem OB.inc {d d2:World} {v:Value} {b:Option Bytes} (h:OB d v b) (hi:cN d d2):OB d2 v b:=by
 rcases h with h | ⟨l,a,n,c,h1,h2,h3⟩
 ·exact .inl h
 ·exact .inr ⟨l,a,n,c,h1,h2,h3.inc hi⟩
def qs (key:Bytes) (has:Bool):Option Bytes:=if has then some key else none
end Go.E
namespace Go.Proofs
open Go Go.E Go.Sort Go.Proofs.Tryz
section
variable {k:au} {d w:World}
theorem eO {key:Bytes} {has:Bool} (hinc:cN d w) (hl:key.length≤4294967296) (hk:∀ d2 w2 v,Gr d w d2 w2→OB d2 v (qs key has)→k v w2):aX prog 67 #[.agg #[.string ⟨key.toArray⟩,.bool has]] k w:=by
 refine ae [.tmp 2] func67 ?_
 refine an ?_
 have x1:bj w (w.alloc (.cells #[.string ⟨key.toArray⟩,.bool has] 37)):=aM _
 cases has with
 | false =>
  refine bf @aA ?_
  exact hk d _ _ (Gr.ext hinc x1) (.inl ⟨rfl,rfl⟩)
 | true =>
  refine bf @aA ?_
  refine eW (hinc.trans x1.inc) hl fun d2 w2 a n c g2 h2 => ?_
  refine an ?_
  exact hk d2 w2 _ ((Gr.ext hinc x1).trans g2) (.inr ⟨key,a,n,c,rfl,rfl,h2⟩)
theorem pA (hinc:cN d w) (hk:∀ d2 w2 C,Gr d w d2 w2→w.heap.size≤C→d2.cell? ⟨C,0,none⟩=some (.func (.func 102) #[] #[])→d2.cell? ⟨C,1,none⟩=some (.func (.func 103) #[] #[])→d2.cell? ⟨C,5,none⟩=some .nilFunc→k (.pointer (some ⟨C,0,none⟩)) w2):aX prog 66 #[] k w:=by
 refine ae [.tmp 0] func66 ?_
 refine an ?_
 generalize hO:Obj.cells _ _=O
 have x2:bj w (w.alloc O):=aM _
 obtain ⟨d2,g2,e2⟩:=tq hinc x2
 have c0:(w.alloc O).cell? ⟨w.heap.size,0,none⟩=some (.func (.func 102) #[] #[]):=by rw [← hO]; exact bk @aA
 have c1:(w.alloc O).cell? ⟨w.heap.size,1,none⟩=some (.func (.func 103) #[] #[]):=by rw [← hO]; exact bk @aA
 have c5:(w.alloc O).cell? ⟨w.heap.size,5,none⟩=some .nilFunc:=by rw [← hO]; exact bk @aA
 exact hk d2 _ _ g2 (aE _) (e2 _ _ _ (aE _) c0) (e2 _ _ _ (aE _) c1) (e2 _ _ _ (aE _) c5)
end
end Go.Proofs
end
section
namespace Go.E
open Go Go.Sort Go.Proofs Go.Proofs.Tryz
def wq (P:Prop) (k:au) (w:World):Prop:=∀ b w',bj w w'→(b=true→P)→k (.bool b) w'
theorem wq.no {P:Prop} {k:au} {w w':World} (h:wq P k w) (x:bj w w'):k (.bool false) w':=h false w' x fun h=>by cases h
theorem wq.yes {P:Prop} {k:au} {w w':World} (h:wq P k w) (x:bj w w') (p:P):k (.bool true) w':=h true w' x fun _=>p
theorem gX {α:Type} {P:α→Prop} {l:List α} {i:Nat} {x:α} (h:∀ y ∈ l.take i,P y) (hx:l[i]? = some x) (hp:P x):∀ y ∈ l.take (i+1),P y:=by
 rw [bw hx]
 intro y hy
 rcases aV.1 hy with hy | hy
 ·exact h y hy
 ·rw [aQ.1 hy]; exact hp
def BK (x:K):Prop:=x.suf.length≤2147483647∧x.val.length≤2147483647
def sA (x:Sp):Prop:=x.s.length≤2147483647∧x.e.length≤2147483647∧x.ks.length≤2147483647∧∀ y ∈ x.ks,BK y
end Go.E
namespace Go.Proofs
open Go Go.E Go.Sort Go.Proofs.Tryz
section
variable {k:au} {w:World}
theorem BL {x:K} (hk:wq (BK x) k w):aX prog 142 #[.agg #[.int .u64 x.tr,.string ⟨x.suf.toArray⟩,.string ⟨x.val.toArray⟩]] k w:=by
 refine ae [.tmp 2] func142 ?_
 by_cases h1:2147483647 < (x.suf.length:Int)
 ·refine dU @aA @h1 ?_
  exact hk.no (aM _)
 by_cases h2:2147483647 < (x.val.length:Int)
 ·refine eA @aA @h1 @h2 ?_
  exact hk.no (aM _)
 refine eA @aA @h1 @h2 ?_
 exact hk.yes (aM _) ⟨by omega,by omega⟩
theorem BM {v:Value} {l:List K} (hv:Sl KE 3 w v l) (hk:wq (l.length≤2147483647∧∀ x ∈ l,BK x) k w):aX prog 127 #[v] k w:=by
 obtain ⟨ka,kc,rfl⟩:=hv.form
 refine ae [.tmp 2] func127 ?_
 by_cases hz:2147483647 < (l.length:Int)
 ·refine bf @hz ?_
  exact hk.no (bj.refl _)
 refine bf @hz ?_
 refine bR (fun i:Nat=>[(2,.bool false),(8,.slice ka l.length kc),(8+1,.int .i64 l.length),(8+2,.int .i64 i)])
  (fun i w'=>i≤l.length∧bj w w'∧∀ x ∈ l.take i,BK x) (fun i _=>l.length - i) 0 (by kernel_rfl) ?_ ⟨aP _,bj.refl _,by simp⟩ ?_
 ·exact bO
 rintro K2 e i w1 ⟨i2,i3,i4⟩ hK2
 rcases aG i l.length with hi | hi
 rotate_left
 ·have hi':¬ (i:Int) < l.length:=by omega
  obtain rfl:i=l.length:=by omega
  rw [ah] at i4
  refine bf @hi' ?_
  exact hk.yes i3 ⟨by omega,i4⟩
 have hi':(i:Int) < l.length:=by omega
 obtain ⟨g,f,c,hv',hc,hat⟩:=(hv.inc KE.mono i3.inc).at (by omega)
 obtain ⟨rfl,rfl⟩:=sEq hv'
 obtain ⟨x,hx⟩:=gEl hi
 obtain ⟨cs,_,hcs,hR⟩:=hat i x hx
 obtain ⟨rfl,htr⟩:=hR
 have h0:w1.cell? ⟨g,f+i * 3,none⟩=some (.int .u64 x.tr):=hcs 0 _ rfl
 have h1:w1.cell? ⟨g,f+i * 3+1,none⟩=some (.string ⟨x.suf.toArray⟩):=hcs 1 _ rfl
 have h2:w1.cell? ⟨g,f+i * 3+2,none⟩=some (.string ⟨x.val.toArray⟩):=hcs 2 _ rfl
 refine gq @hi' @h0 @h1 @h2 @aA ?_
 refine BL fun b w2 x2 hb => ?_
 have x3:=i3.trans (bj.trans (aM _) x2)
 cases b with
 | false =>
  refine an ?_
  exact hk.no (x3)
 | true =>
  refine an ?_
  refine hK2 _ _ (i+1) ?_ ⟨hi,x3,gX i4 hx (hb rfl)⟩ (by omega)
  exact bO
theorem BN {kv:Value} {x:Sp} (hv:Sl KE 3 w kv x.ks) (hk:wq (sA x) k w):aX prog 93 #[.agg #[.string ⟨x.s.toArray⟩,.string ⟨x.e.toArray⟩,kv]] k w:=by
 obtain ⟨ka,kc,rfl⟩:=hv.form
 refine ae [.tmp 2] func93 ?_
 by_cases h1:2147483647 < (x.s.length:Int)
 ·refine dU @aA @h1 ?_
  exact hk.no (aM _)
 by_cases h2:2147483647 < (x.e.length:Int)
 ·refine eA @aA @h1 @h2 ?_
  exact hk.no (aM _)
 refine eA @aA @h1 @h2 ?_
 refine BM (hv.inc KE.mono (aM _).inc) fun b w2 x2 hb => ?_
 have x3:=(aM _).trans x2
 cases b with
 | false =>
  refine an ?_
  exact hk.no x3
 | true =>
  refine an ?_
  exact hk.yes x3 ⟨by omega,by omega,hb rfl⟩
theorem BO {v:Value} {l:List Sp} (hv:Sl eJ 3 w v l) (hk:wq (l.length≤2147483647∧∀ x ∈ l,sA x) k w):aX prog 55 #[v] k w:=by
 obtain ⟨ka,kc,rfl⟩:=hv.form
 refine ae [.tmp 2] func55 ?_
 by_cases hz:2147483647 < (l.length:Int)
 ·refine bf @hz ?_
  exact hk.no (bj.refl _)
 refine bf @hz ?_
 refine bR (fun i:Nat=>[(2,.bool false),(8,.slice ka l.length kc),(8+1,.int .i64 l.length),(8+2,.int .i64 i)])
  (fun i w'=>i≤l.length∧bj w w'∧∀ x ∈ l.take i,sA x) (fun i _=>l.length - i) 0 (by kernel_rfl) ?_ ⟨aP _,bj.refl _,by simp⟩ ?_
 ·exact bO
 rintro K2 e i w1 ⟨i2,i3,i4⟩ hK2
 rcases aG i l.length with hi | hi
 rotate_left
 ·have hi':¬ (i:Int) < l.length:=by omega
  obtain rfl:i=l.length:=by omega
  rw [ah] at i4
  refine bf @hi' ?_
  exact hk.yes i3 ⟨by omega,i4⟩
 have hi':(i:Int) < l.length:=by omega
 obtain ⟨g,f,c,hv',hc,hat⟩:=(hv.inc eJ.mono i3.inc).at (by omega)
 obtain ⟨rfl,rfl⟩:=sEq hv'
 obtain ⟨x,hx⟩:=gEl hi
 obtain ⟨cs,_,hcs,hR⟩:=hat i x hx
 obtain ⟨kv,rfl,hkv⟩:=hR
 obtain ⟨kva,kvc,rfl⟩:=hkv.form
 have h0:w1.cell? ⟨g,f+i * 3,none⟩=some (.string ⟨x.s.toArray⟩):=hcs 0 _ rfl
 have h1:w1.cell? ⟨g,f+i * 3+1,none⟩=some (.string ⟨x.e.toArray⟩):=hcs 1 _ rfl
 have h2:w1.cell? ⟨g,f+i * 3+2,none⟩=some (.slice kva x.ks.length kvc):=hcs 2 _ rfl
 refine gq @hi' @h0 @h1 @h2 @aA ?_
 refine BN (hkv.inc KE.mono (aM _).inc) fun b w2 x2 hb => ?_
 have x3:=i3.trans (bj.trans (aM _) x2)
 cases b with
 | false =>
  refine an ?_
  exact hk.no (x3)
 | true =>
  refine an ?_
  refine hK2 _ _ (i+1) ?_ ⟨hi,x3,gX i4 hx (hb rfl)⟩ (by omega)
  exact bO
theorem BP {v:Value} {l:List (List Sp)} (hv:Sl mf 1 w v l) (hk:wq (l.length≤2147483647∧∀ x ∈ l,x.length≤2147483647∧∀ y ∈ x,sA y) k w):aX prog 13 #[v] k w:=by
 obtain ⟨ka,kc,rfl⟩:=hv.form
 refine ae [.tmp 2] func13 ?_
 by_cases hz:2147483647 < (l.length:Int)
 ·refine bf @hz ?_
  exact hk.no (bj.refl _)
 refine bf @hz ?_
 refine bR (fun i:Nat=>[(2,.bool false),(8,.slice ka l.length kc),(8+1,.int .i64 l.length),(8+2,.int .i64 i)])
  (fun i w'=>i≤l.length∧bj w w'∧∀ x ∈ l.take i,x.length≤2147483647∧∀ y ∈ x,sA y) (fun i _=>l.length - i) 0 (by kernel_rfl) ?_ ⟨aP _,bj.refl _,by simp⟩ ?_
 ·exact bO
 rintro K2 e i w1 ⟨i2,i3,i4⟩ hK2
 rcases aG i l.length with hi | hi
 rotate_left
 ·have hi':¬ (i:Int) < l.length:=by omega
  obtain rfl:i=l.length:=by omega
  rw [ah] at i4
  refine bf @hi' ?_
  exact hk.yes i3 ⟨by omega,i4⟩
 have hi':(i:Int) < l.length:=by omega
 obtain ⟨g,f,c,hv',hc,hat⟩:=(hv.inc mf.mono i3.inc).at (by omega)
 obtain ⟨rfl,rfl⟩:=sEq hv'
 obtain ⟨x,hx⟩:=gEl hi
 obtain ⟨cs,_,hcs,hR⟩:=hat i x hx
 obtain ⟨kv,rfl,hkv⟩:=hR
 obtain ⟨kva,kvc,rfl⟩:=hkv.form
 have h0:w1.cell? ⟨g,f+i * 1,none⟩=some (.slice kva x.length kvc):=hcs 0 _ rfl
 refine dU @hi' @h0 ?_
 refine BO hkv fun b w2 x2 hb => ?_
 have x3:=i3.trans x2
 cases b with
 | false =>
  refine an ?_
  exact hk.no (x3)
 | true =>
  refine an ?_
  refine hK2 _ _ (i+1) ?_ ⟨hi,x3,gX i4 hx (hb rfl)⟩ (by omega)
  exact bO
end
end Go.Proofs
end
section
namespace Go.E
open Go Go.Sort Go.Proofs
theorem kR {α β:Type} {l:List α} {f g:α→List β} (h:∀ a ∈ l,f a=g a):l.flatMap f=l.flatMap g:=by
 induction l with
 | nil=>rfl
 | cons x l ih=>rw [ax,ax,h x aO,ih fun a ha=>h a (aj _ ha)]
theorem DG {α β:Type} {l:List α} {f g:α→Option β} (h:∀ a ∈ l,f a=g a):l.filterMap f=l.filterMap g:=by
 induction l with
 | nil=>rfl
 | cons x l ih=>rw [List.filterMap_cons,List.filterMap_cons,h x aO,ih fun a ha=>h a (aj _ ha)]
section
variable {α:Type}
def gN (lt:α→α→Bool) (x:α) (l:List α):Nat→Nat
 | 0=>0
 | i+1=>match l[i]? with
  | some y=>if lt x y then gN lt x l i else i+1
  | none=>i+1
def mj (lt:α→α→Bool) (x:α) (l:List α):List α:=l.take (gN lt x l l.length)++x :: l.drop (gN lt x l l.length)
def lU (lt:α→α→Bool) (l:List α):List α:=l.foldl (fun a x=>mj lt x a) []
variable {lt:α→α→Bool}
theorem wt (x:α) (l:List α) (i:Nat):gN lt x l i≤i:=by
 induction i with
 | zero=>exact aE _
 | succ i ih =>
  unfold gN
  split
  ·split
   ·omega
   ·exact aE _
  ·exact aE _
theorem sB (x:α) (l:List α) {i:Nat} (hi:i≤l.length):(∀ j y,gN lt x l i≤j→j < i→l[j]? = some y→lt x y=true)∧∀ j y,gN lt x l i=j+1→l[j]? = some y→lt x y=false:=by
 induction i with
 | zero=>exact ⟨fun j y _ h=>by omega,fun j y h=>by simp [gN] at h⟩
 | succ i ih =>
  have ih:=ih (by omega)
  have hy:l[i]? = some l[i]:=aC (by omega)
  unfold gN
  rw [hy]
  simp only
  split
  ·rename_i hlt
   refine ⟨fun j y h1 h2 h3 => ?_,ih.2⟩
   rcases aG j i with h4 | h4
   ·exact ih.1 j y h1 h4 h3
   ·obtain rfl:j=i:=by omega
    rw [hy] at h3
    cases h3
    exact hlt
  ·rename_i hlt
   refine ⟨fun j y h1 h2 h3=>by omega,fun j y h1 h2 => ?_⟩
   obtain rfl:i=j:=by omega
   rw [hy] at h2
   cases h2
   simpa using hlt
theorem pd (x:α) (l:List α):(mj lt x l).Perm (x :: l):=by
 unfold mj
 refine List.perm_middle.trans ?_
 rw [cm]
theorem wu (x:α) (l:List α):(mj lt x l).length=l.length+1:=by
 simpa using (pd (lt:=lt) x l).length_eq
theorem sC (l a:List α):(l.foldl (fun a x=>mj lt x a) a).Perm (l++a):=by
 induction l generalizing a with
 | nil=>exact List.Perm.refl _
 | cons x l ih =>
  rw [List.foldl_cons]
  refine (ih _).trans ?_
  refine ((pd x a).append_left l).trans ?_
  exact List.perm_middle
theorem lG (l:List α):(lU lt l).Perm l:=by
 have:=sC (lt:=lt) l []
 rwa [av] at this
theorem pB (l:List α):(lU lt l).length=l.length:=(lG l).length_eq
structure TotB (lt:α→α→Bool):Prop where
 asym:∀ a b,lt a b=true→lt b a=false
 trans:∀ a b c,lt b a=false→lt c b=false→lt c a=false
theorem wv (h:TotB lt) (x:α) {l:List α} (hl:l.Pairwise fun a b=>lt b a=false):(mj lt x l).Pairwise fun a b=>lt b a=false:=by
 have hs:=sB (lt:=lt) x l (aE _)
 have hle:=wt (lt:=lt) x l l.length
 unfold mj
 obtain ⟨j,hj⟩:∃ j,j=gN lt x l l.length:=⟨_,rfl⟩
 rw [← hj] at hs hle ⊢
 have hge:∀ y ∈ l.drop j,lt y x=false:=fun y hy=>by
  obtain ⟨i,hi,e⟩:=aq hy
  rw [List.getElem_drop] at e
  rw [List.length_drop] at hi
  exact h.asym _ _ (hs.1 (j+i) y (by omega) (by omega) (by rw [aC (by omega),e]))
 have hlt:∀ y ∈ l.take j,lt x y=false:=fun y hy=>by
  obtain ⟨i,hi,e⟩:=aq hy
  rw [List.getElem_take] at e
  rw [bB] at hi
  obtain ⟨m,rfl⟩:∃ m,j=m+1:=⟨j - 1,by omega⟩
  have h0:=hs.2 m l[m] rfl (aC (by omega))
  rcases aG i m with h1 | h1
  ·have:=bK.1 hl i m (by omega) (by omega) h1
   rw [e] at this
   exact h.trans _ _ _ this h0
  ·obtain rfl:i=m:=by omega
   rw [← e]; exact h0
 refine List.pairwise_append.2 ⟨hl.sublist (List.take_sublist _ _),List.pairwise_cons.2 ⟨hge,hl.sublist (List.drop_sublist _ _)⟩,fun a ha b hb => ?_⟩
 rcases al.1 hb with rfl | hb
 ·exact hlt a ha
 ·have:=List.pairwise_append.1 (by rw [cm]; exact hl:(l.take j++l.drop j).Pairwise fun a b=>lt b a=false)
  exact this.2.2 a ha b hb
theorem jP (h:TotB lt) (l:List α):(lU lt l).Pairwise fun a b=>lt b a=false:=by
 have aux:∀ (l a:List α),a.Pairwise (fun a b=>lt b a=false)→(l.foldl (fun a x=>mj lt x a) a).Pairwise fun a b=>lt b a=false:=by
  intro l
  induction l with
  | nil=>exact fun a ha=>ha
  | cons x l ih=>exact fun a ha=>ih _ (wv h x ha)
 exact aux l [] .nil
end
def gY (a b:K):Bool:=if a.tr≠b.tr then decide (b.tr < a.tr) else if a.suf≠b.suf then decide (a.suf < b.suf) else decide (a.val < b.val)
theorem gy {a b:K}:gY b a=false↔b.tr < a.tr∨b.tr=a.tr∧(a.suf < b.suf∨a.suf=b.suf∧¬ b.val < a.val):=by
 unfold gY
 by_cases h:b.tr=a.tr
 ·rw [if_neg (by simpa using h)]
  by_cases h2:b.suf=a.suf
  ·rw [if_neg (by simpa using h2)]
   simp only [decide_eq_false_iff_not]
   constructor
   ·intro h3; exact .inr ⟨h,.inr ⟨h2.symm,h3⟩⟩
   ·rintro (h3 | ⟨_,h3 | ⟨_,h3⟩⟩)
    ·omega
    ·rw [h2] at h3; exact absurd h3 (bA _)
    ·exact h3
  ·rw [if_pos h2]
   simp only [decide_eq_false_iff_not]
   constructor
   ·intro h3
    rcases gg a.suf b.suf with h4 | h4 | h4
    ·exact .inr ⟨h,.inl h4⟩
    ·exact absurd h4.symm h2
    ·exact absurd h4 h3
   ·rintro (h3 | ⟨_,h3 | ⟨h3,_⟩⟩)
    ·omega
    ·exact gB h3
    ·exact absurd h3.symm h2
 ·rw [if_pos h]
  simp only [decide_eq_false_iff_not]
  omega
theorem pe:TotB gY where
 asym a b h:=by
  rw [gy]
  have:¬ gY a b=false:=by rw [h]; simp
  rw [gy] at this
  rcases dB b.tr a.tr with h1 | h1 | h1
  ·exact .inl h1
  ·refine .inr ⟨h1,?_⟩
   rcases gg a.suf b.suf with h2 | h2 | h2
   ·exact .inl h2
   ·refine .inr ⟨h2,fun h3=>this (.inr ⟨h1.symm,.inr ⟨h2.symm,gB h3⟩⟩)⟩
   ·exact absurd (.inr ⟨h1.symm,.inl h2⟩) this
  ·exact absurd (.inl h1) this
 trans a b c h1 h2:=by
  rw [gy] at h1 h2 ⊢
  rcases h1 with h1 | ⟨h1,h1'⟩
  ·rcases h2 with h2 | ⟨h2,_⟩
   ·exact .inl (by omega)
   ·exact .inl (by omega)
  ·rcases h2 with h2 | ⟨h2,h2'⟩
   ·exact .inl (by omega)
   ·refine .inr ⟨by omega,?_⟩
    rcases h1' with h3 | ⟨h3,h4⟩
    ·rcases h2' with h5 | ⟨h5,_⟩
     ·exact .inl (List.lt_trans h3 h5)
     ·rw [← h5]; exact .inl h3
    ·rcases h2' with h5 | ⟨h5,h6⟩
     ·rw [h3]; exact .inl h5
     ·exact .inr ⟨h3.trans h5,fun h7=>h4 (cz h6 h7)⟩
def eF (ks:List K):List K:=lU gY ks
theorem ef (ks:List K):(eF ks).Perm ks:=lG ks
theorem wx (ks:List K):(eF ks).Pairwise fun a b=>b.tr≤a.tr:=by
 refine (jP pe ks).imp fun {a b} h => ?_
 rcases gy.1 h with h | ⟨h,_⟩ <;> omega
def EF (x y:Bytes):Bool:=decide (¬ y < x)
def jb (b:List Bytes) (x:Bytes):List Bytes:=if b[gN EF x b b.length]? = some x then b else mj EF x b
def cG (l:List Sp):List Bytes:=l.foldl (fun b s=>jb (jb b s.s) s.e) []
theorem tt {b:List Bytes} (hb:b.Pairwise (· < ·)) (x:Bytes):(jb b x).Pairwise (· < ·)∧∀ y,y ∈ jb b x↔y=x∨y ∈ b:=by
 have hs:=sB (lt:=EF) x b (aE _)
 have hle:=wt (lt:=EF) x b b.length
 unfold jb
 split
 ·rename_i he
  exact ⟨hb,fun y=>⟨.inr,fun h=>h.elim (fun h=>h ▸ aK he) id⟩⟩
 ·rename_i he
  refine ⟨?_,fun y=>by rw [(pd x b).mem_iff,al]⟩
  unfold mj
  obtain ⟨j,hj⟩:∃ j,j=gN EF x b b.length:=⟨_,rfl⟩
  rw [← hj] at hs hle he ⊢
  have hp:=bK.1 hb
  have hge:∀ y ∈ b.drop j,x < y:=fun y hy=>by
   obtain ⟨i,hi,e⟩:=aq hy
   rw [List.getElem_drop] at e
   rw [List.length_drop] at hi
   have h1:=hs.1 (j+i) y (by omega) (by omega) (by rw [aC (by omega),e])
   have h1:¬ y < x:=of_decide_eq_true h1
   rcases gg x y with h2 | h2 | h2
   ·exact h2
   ·exfalso
    have hj0:j < b.length:=by omega
    have h3:=hs.1 j b[j] (aE _) hj0 (aC hj0)
    have h3:¬ b[j] < x:=of_decide_eq_true h3
    rcases bE i with rfl | hi0
    ·exact he (by rw [aC hj0,h2,← e]; simp)
    ·have:=hp j (j+i) hj0 (by omega) (by omega)
     rw [e,← h2] at this
     exact h3 this
   ·exact absurd h2 h1
  have hlt:∀ y ∈ b.take j,y < x:=fun y hy=>by
   obtain ⟨i,hi,e⟩:=aq hy
   rw [List.getElem_take] at e
   rw [bB] at hi
   obtain ⟨m,rfl⟩:∃ m,j=m+1:=⟨j - 1,by omega⟩
   have h0:=hs.2 m b[m] rfl (aC (by omega))
   have h0:b[m] < x:=by
    have:=of_decide_eq_false h0
    exact Classical.byContradiction fun h=>this h
   rcases aG i m with h1 | h1
   ·have:=hp i m (by omega) (by omega) h1
    rw [e] at this
    exact List.lt_trans this h0
   ·obtain rfl:i=m:=by omega
    rw [← e]; exact h0
  refine List.pairwise_append.2 ⟨hb.sublist (List.take_sublist _ _),List.pairwise_cons.2 ⟨hge,hb.sublist (List.drop_sublist _ _)⟩,fun a ha c hc => ?_⟩
  rcases al.1 hc with rfl | hc
  ·exact hlt a ha
  ·exact List.lt_trans (hlt a ha) (hge c hc)
theorem lH (l:List Sp):(cG l).Pairwise (· < ·)∧∀ y,y ∈ cG l↔∃ s ∈ l,y=s.s∨y=s.e:=by
 have aux:∀ (l:List Sp) (b:List Bytes),b.Pairwise (· < ·)→(l.foldl (fun b s=>jb (jb b s.s) s.e) b).Pairwise (· < ·)∧∀ y,y ∈ l.foldl (fun b s=>jb (jb b s.s) s.e) b↔y ∈ b∨∃ s ∈ l,y=s.s∨y=s.e:=by
  intro l
  induction l with
  | nil=>exact fun b hb=>⟨hb,fun y=>by simp⟩
  | cons s l ih =>
   intro b hb
   have h1:=tt hb s.s
   have h2:=tt h1.1 s.e
   obtain ⟨a,c⟩:=ih _ h2.1
   refine ⟨a,fun y => ?_⟩
   rw [List.foldl_cons,c,h2.2,h1.2]
   constructor
   ·rintro ((h | h | h) | ⟨t,ht,h⟩)
    ·exact .inr ⟨s,aO,.inr h⟩
    ·exact .inr ⟨s,aO,.inl h⟩
    ·exact .inl h
    ·exact .inr ⟨t,aj _ ht,h⟩
   ·rintro (h | ⟨t,ht,h⟩)
    ·exact .inl (.inr (.inr h))
    ·rcases al.1 ht with rfl | ht
     ·rcases h with h | h
      ·exact .inl (.inr (.inl h))
      ·exact .inl (.inl h)
     ·exact .inr ⟨t,ht,h⟩
 obtain ⟨a,c⟩:=aux l [] .nil
 exact ⟨a,fun y=>by show y ∈ l.foldl _ []↔_; rw [c]; simp⟩
theorem zt {L:List Sp} {x:Bytes}:(∃ p,p < 2 * L.length∧dJ L p=x)↔∃ s ∈ L,x=s.s∨x=s.e:=by
 constructor
 ·rintro ⟨p,hp,rfl⟩
  refine ⟨L[p / 2]!,by rw [aH L (p / 2) (by omega)]; exact ag _,?_⟩
  unfold dJ
  split
  ·exact .inl rfl
  ·exact .inr rfl
 ·rintro ⟨s,hs,h⟩
  obtain ⟨j,hj,rfl⟩:=aq hs
  rcases h with rfl | rfl
  ·exact ⟨2 * j,by omega,by unfold dJ; rw [if_pos (by omega),show 2 * j / 2=j by omega,aH L j hj]⟩
  ·exact ⟨2 * j+1,by omega,by unfold dJ; rw [if_neg (by omega),show (2 * j+1) / 2=j by omega,aH L j hj]⟩
def fY (Lv:List (List Sp)):Nat→List Sp:=fun i=>Lv[i]!
theorem lI {Lv:List (List Sp)} (h:∀ L ∈ Lv,Wf L):Bds Lv.length (fY Lv) (cG Lv.flatten) where
 wf i hi:=by unfold fY; rw [aH Lv i hi]; exact h _ (ag hi)
 sorted:=(lH _).1
 mem x:=by
  rw [(lH _).2]
  constructor
  ·rintro ⟨s,hs,h1⟩
   obtain ⟨L,hL,hs⟩:=cu.1 hs
   obtain ⟨i,hi,rfl⟩:=aq hL
   exact ⟨i,hi,zt.2 ⟨s,by unfold fY; rw [aH Lv i hi]; exact hs,h1⟩⟩
  ·rintro ⟨i,hi,h1⟩
   obtain ⟨s,hs,h1⟩:=zt.1 h1
   unfold fY at hs
   rw [aH Lv i hi] at hs
   exact ⟨s,cu.2 ⟨_,ag hi,hs⟩,h1⟩
def cj (l:List Sp) (s e:Bytes):List K:=l.flatMap fun x=>if ¬ s < x.s∧¬ x.e < e then x.ks else []
def gC (l:List Sp) (b:List Bytes) (i:Nat):List Sp:=if cj l b[i]! b[i+1]! = [] then [] else [⟨b[i]!,b[i+1]!,eF (cj l b[i]! b[i+1]!)⟩]
def dw (l:List Sp):List Sp:=(List.range ((cG l).length - 1)).flatMap (gC l (cG l))
section
variable {n:Nat} {L:Nat→List Sp} {B:List Bytes}
theorem BQ (h:Bds n L B) {i u:Nat} (hi:i < n) (hu:u+1 < B.length) {j:Nat} (hj:j < (L i).length):(¬ B[u]! < (L i)[j]!.s∧¬ (L i)[j]!.e < B[u+1]!)↔cp L B (u+1) i=2 * j+1:=by
 have b0:dJ (L i) (2 * j)=(L i)[j]!.s:=by unfold dJ; rw [if_pos (by omega),show 2 * j / 2=j by omega]
 have b1:dJ (L i) (2 * j+1)=(L i)[j]!.e:=by unfold dJ; rw [if_neg (by omega),show (2 * j+1) / 2=j by omega]
 obtain ⟨x,hx,e0⟩:=h.at (p:=2 * j) hi (by omega)
 obtain ⟨y,hy,e1⟩:=h.at (p:=2 * j+1) hi (by omega)
 have c0:=iG h (t:=u+1) (by omega) hi (by omega:2 * j < 2 * (L i).length) hx e0
 have c1:=iG h (t:=u+1) (by omega) hi (by omega:2 * j+1 < 2 * (L i).length) hy e1
 rw [← b0,← b1,← e0,← e1,h.lt (by omega) hx,h.lt hy (by omega)]
 omega
theorem wy (h:Bds n L B) {i u:Nat} (hi:i < n) (hu:u+1 < B.length):cj (L i) B[u]! B[u+1]! = if cp L B (u+1) i % 2=1 then (L i)[cp L B (u+1) i / 2]!.ks else []:=by
 obtain ⟨c,hc⟩:∃ c,c=cp L B (u+1) i:=⟨_,rfl⟩
 have hle:=jY (L:=L) (B:=B) (u+1) i
 rw [← hc] at hle ⊢
 have key:∀ (A:List Sp) (o:Nat),(∀ j,j < A.length→o+j < (L i).length∧A[j]! = (L i)[o+j]!)→cj A B[u]! B[u+1]! = if c % 2=1∧o≤c / 2∧c / 2 < o+A.length then (L i)[c / 2]!.ks else []:=by
  intro A
  induction A with
  | nil =>
   intro o _
   rw [if_neg (by simp only [List.length_nil]; omega)]
   rfl
  | cons x A ih =>
   intro o hA
   have h0:=hA 0 (by simp)
   have hx:x=(L i)[o]! := by simpa using h0.2
   have ih:=ih (o+1) fun j hj=>by
    have:=hA (j+1) (by simp only [aY]; omega)
    rw [show o+(j+1)=o+1+j by omega] at this
    refine ⟨this.1,?_⟩
    rw [← this.2,aH A j hj,aH (x :: A) (j+1) (by simp only [aY]; omega)]
    rfl
   show (if ¬ B[u]! < x.s∧¬ x.e < B[u+1]! then x.ks else [])++cj A B[u]! B[u+1]! = _
   rw [ih,hx]
   have hc1:=BQ h hi hu (j:=o) (by omega)
   rw [← hc] at hc1
   by_cases hco:c=2 * o+1
   ·rw [if_pos (hc1.2 hco),if_neg (by omega),if_pos (by simp only [aY]; omega),av,show c / 2=o by omega]
   ·rw [if_neg (fun h=>hco (hc1.1 h)),List.nil_append]
    by_cases h5:c % 2=1∧o+1≤c / 2∧c / 2 < o+1+A.length
    ·rw [if_pos h5,if_pos (by simp only [aY]; omega)]
    ·rw [if_neg h5,if_neg (by simp only [aY]; omega)]
 have:=key (L i) 0 fun j hj=>⟨by omega,by rw [Nat.zero_add]⟩
 rw [this]
 by_cases h5:c % 2=1
 ·rw [if_pos (by omega),if_pos h5]
 ·rw [if_neg (by omega),if_neg h5]
end
theorem BR {Lv:List (List Sp)} (h:∀ L ∈ Lv,Wf L) {u:Nat} (hu:u+1 < (cG Lv.flatten).length):cj Lv.flatten (cG Lv.flatten)[u]! (cG Lv.flatten)[u+1]! = dO Lv.length (fY Lv) (cG Lv.flatten) (u+1):=by
 have hB:=lI h
 obtain ⟨B,hBe⟩:∃ B,B=cG Lv.flatten:=⟨_,rfl⟩
 rw [← hBe] at hB hu ⊢
 have e:dO Lv.length (fY Lv) B (u+1)=(List.range Lv.length).flatMap fun i=>cj (fY Lv i) B[u]! B[u+1]! := by
  unfold dO
  refine kR fun i hi => ?_
  rw [List.mem_range] at hi
  exact (wy hB hi hu).symm
 rw [e]
 have key:∀ (A:List (List Sp)) (o:Nat),(∀ j,j < A.length→A[j]! = fY Lv (o+j))→cj A.flatten B[u]! B[u+1]! = (List.range A.length).flatMap fun i=>cj (fY Lv (o+i)) B[u]! B[u+1]! := by
  intro A
  induction A with
  | nil=>intro o _; rfl
  | cons x A ih =>
   intro o hA
   have h0:=hA 0 (by simp)
   have hx:x=fY Lv o:=by simpa using h0
   rw [List.flatten_cons,aY,List.range_succ_eq_map,ax,List.flatMap_map]
   have:cj (x++A.flatten) B[u]! B[u+1]! = cj x B[u]! B[u+1]! ++ cj A.flatten B[u]! B[u+1]! := by unfold cj; rw [bP]
   rw [this,ih (o+1) fun j hj=>by
    have:=hA (j+1) (by simp only [aY]; omega)
    rw [show o+(j+1)=o+1+j by omega] at this
    rw [← this,aH A j hj,aH (x :: A) (j+1) (by simp only [aY]; omega)]
    rfl,hx]
   congr 1
   refine kR fun i _ => ?_
   rw [show o+1+i=o+(i+1) by omega]
 have:=key Lv 0 fun j _=>by rw [Nat.zero_add]; rfl
 rw [this]
 refine kR fun i _ => ?_
 rw [Nat.zero_add]
theorem sD {Lv:List (List Sp)} (h:∀ L ∈ Lv,Wf L) (hf:∀ L ∈ Lv,∀ s ∈ L,s.ks≠[]):dw Lv.flatten=(cM Lv.length (fY Lv) (cG Lv.flatten)).map fun u=>⟨(cG Lv.flatten)[u - 1]!,(cG Lv.flatten)[u]!,eF (dO Lv.length (fY Lv) (cG Lv.flatten) u)⟩:=by
 have hB:=lI h
 obtain ⟨B,hBe⟩:∃ B,B=cG Lv.flatten:=⟨_,rfl⟩
 have hc:=fun {u:Nat} (hu:u+1 < B.length)=>(by rw [hBe] at hu ⊢; exact BR h hu:cj Lv.flatten B[u]! B[u+1]! = dO Lv.length (fY Lv) B (u+1))
 unfold dw
 rw [← hBe] at hB ⊢
 have hk:∀ u,u+1 < B.length→(cj Lv.flatten B[u]! B[u+1]! = []↔mV Lv.length (fY Lv) B (u+1)=false):=fun u hu=>by
  rw [hc hu]
  have:mV Lv.length (fY Lv) B (u+1)=true↔dO Lv.length (fY Lv) B (u+1)≠[]:=by
   rw [oW]
   constructor
   ·rintro ⟨i,hi,h1⟩ h0
    unfold dO at h0
    have:=List.flatMap_eq_nil_iff.1 h0 i (List.mem_range.2 hi)
    rw [if_pos h1] at this
    have hl:cp (fY Lv) B (u+1) i / 2 < (fY Lv i).length:=by have:=jY (L:=fY Lv) (B:=B) (u+1) i; omega
    rw [aH (fY Lv i) _ hl] at this
    refine hf _ ?_ _ (ag hl) this
    unfold fY
    rw [aH Lv i hi]
    exact ag hi
   ·intro h0
    refine Classical.byContradiction fun hn=>h0 ?_
    unfold dO
    refine List.flatMap_eq_nil_iff.2 fun i hi => ?_
    rw [if_neg fun h1=>hn ⟨i,List.mem_range.1 hi,h1⟩]
  rw [← Bool.not_eq_true,this,Decidable.not_not]
 have hcov:cM Lv.length (fY Lv) B=(List.range (B.length - 1)).filterMap fun u=>if mV Lv.length (fY Lv) B (u+1) then some (u+1) else none:=by
  have e0:mV Lv.length (fY Lv) B 0=false:=by
   cases h0:mV Lv.length (fY Lv) B 0 with
   | false=>rfl
   | true=>exact absurd (pU hB (aP _) h0).1 (dP 0)
  have e1:mV Lv.length (fY Lv) B B.length=false:=by
   cases h0:mV Lv.length (fY Lv) B B.length with
   | false=>rfl
   | true=>exact absurd (pU hB (aE _) h0).2 (dP _)
  unfold cM
  cases hl:B.length with
  | zero=>simp [e0]
  | succ m =>
   rw [hl] at e1
   rw [List.range_succ,List.filter_append,List.filter_cons_of_neg (by rw [e1]; simp),List.filter_nil,av,List.range_succ_eq_map,List.filter_cons_of_neg (by rw [e0]; simp),Nat.add_sub_cancel]
   rw [List.filter_map,← List.filterMap_eq_filter,List.map_filterMap]
   refine DG fun u _ => ?_
   simp only [Function.comp,Option.guard]
   split <;> rfl
 rw [hcov,List.map_filterMap]
 have hr:∀ m,m≤B.length - 1→(List.range m).flatMap (gC Lv.flatten B)=(List.range m).filterMap fun x=>(if mV Lv.length (fY Lv) B (x+1) then some (x+1) else none).map fun u=>(⟨B[u - 1]!,B[u]!,eF (dO Lv.length (fY Lv) B u)⟩:Sp):=by
  intro m
  induction m with
  | zero=>intro _; rfl
  | succ m ih =>
   intro hm
   rw [List.range_succ,bP,List.filterMap_append,ih (by omega)]
   congr 1
   have hu:m+1 < B.length:=by omega
   have:=hk m hu
   rw [ax,List.flatMap_nil,av]
   unfold gC
   cases hcv:mV Lv.length (fY Lv) B (m+1) with
   | false=>rw [if_pos (this.2 hcv)]; simp [hcv]
   | true =>
    rw [if_neg (fun h=>by rw [this.1 h] at hcv; cases hcv),hc hu]
    simp [hcv]
 exact hr _ (aE _)
end Go.E
end
section
namespace Go.E
open Go Go.Sort Go.Proofs
abbrev SV:=Bytes × Bytes
def mH (st:List SV) (k:K):List SV :=
 if bI k.tr=19 then [] else st.filter (fun x=>decide (x.1≠k.suf))++if bI k.tr=21 then [(k.suf,k.val)] else []
def uo (a b:SV):Bool:=decide (a.1 < b.1)
def pf (st:List SV) (ks:List K):List SV:=lU uo (ks.reverse.foldl mH st)
theorem yz (l:List K) (hd:l.Pairwise fun x y=>x.tr≤y.tr) (hc:l.Pairwise fun x y=>x.suf=y.suf→x.tr≠y.tr) (hk:∀ x ∈ l,bI x.tr=19∨bI x.tr=20∨bI x.tr=21) :
    (l.foldl mH []).Pairwise (fun a b=>a.1≠b.1)∧∀ p,p ∈ l.foldl mH []↔∃ x ∈ l,bI x.tr=21∧p=x.sv∧∀ y ∈ l,(bI y.tr=19→y.tr < x.tr)∧(bI y.tr≠19→y.suf=x.suf→y.tr≤x.tr):=by
 have aux:∀ (m l:List K),(m++l).Pairwise (fun x y=>x.tr≤y.tr)→(m++l).Pairwise (fun x y=>x.suf=y.suf→x.tr≠y.tr)→(∀ x ∈ m++l,bI x.tr=19∨bI x.tr=20∨bI x.tr=21)→∀ st:List SV,
     st.Pairwise (fun a b=>a.1≠b.1)→(∀ p,p ∈ st↔∃ x ∈ m,bI x.tr=21∧p=x.sv∧∀ y ∈ m,(bI y.tr=19→y.tr < x.tr)∧(bI y.tr≠19→y.suf=x.suf→y.tr≤x.tr)) →
     (l.foldl mH st).Pairwise (fun a b=>a.1≠b.1)∧∀ p,p ∈ l.foldl mH st↔∃ x ∈ m++l,bI x.tr=21∧p=x.sv∧∀ y ∈ m++l,(bI y.tr=19→y.tr < x.tr)∧(bI y.tr≠19→y.suf=x.suf→y.tr≤x.tr):=by
  intro m l
  induction l generalizing m with
  | nil=>intro _ _ _ st h1 h2; rw [av]; exact ⟨h1,h2⟩
  | cons k l ih =>
   intro hd hc hk st h1 h2
   rw [List.foldl_cons]
   have ih:=ih (m++[k]) (by simpa using hd) (by simpa using hc) (by simpa using hk) (mH st k)
   rw [bX,List.singleton_append] at ih
   have hkm:∀ y ∈ m,y.tr≤k.tr∧(y.suf=k.suf→y.tr≠k.tr):=fun y hy=>⟨(List.pairwise_append.1 hd).2.2 y hy k aO,(List.pairwise_append.1 hc).2.2 y hy k aO⟩
   have hkk:=hk k (by simp)
   refine ih ?_ fun p => ?_
   ·unfold mH
    split
    ·exact .nil
    ·refine List.pairwise_append.2 ⟨h1.filter _,by split <;> simp,fun a ha b hb => ?_⟩
     have:=(bp.1 ha).2
     simp only [decide_eq_true_eq] at this
     split at hb
     ·rw [aQ.1 hb]; exact this
     ·simp at hb
   ·unfold mH
    split
    ·rename_i h19
     simp only [List.not_mem_nil,false_iff]
     rintro ⟨x,hx,hx1,hx2,hx3⟩
     have h4:=(hx3 k (by simp)).1 h19
     rcases aV.1 hx with hx | hx
     ·have:=(hkm x hx).1; omega
     ·rw [aQ.1 hx] at h4; omega
    ·rename_i h19
     rw [aV,bp,h2]
     constructor
     ·rintro (⟨⟨x,hx,hx1,rfl,hx3⟩,hne⟩ | h)
      ·simp only [decide_eq_true_eq] at hne
       refine ⟨x,List.mem_append_left _ hx,hx1,rfl,fun y hy => ?_⟩
       rcases aV.1 hy with hy | hy
       ·exact hx3 y hy
       ·rw [aQ.1 hy]
        exact ⟨fun h=>absurd h h19,fun _ h=>absurd h.symm hne⟩
      ·split at h
       ·rename_i h21
        rw [aQ.1 h]
        refine ⟨k,by simp,h21,rfl,fun y hy => ?_⟩
        rcases aV.1 hy with hy | hy
        ·have:=hkm y hy
         refine ⟨fun h9 => ?_,fun _ _=>this.1⟩
         rcases aG y.tr k.tr with h5 | h5
         ·exact h5
         ·have:y.tr=k.tr:=by omega
          rw [this] at h9; omega
        ·rw [aQ.1 hy]
         exact ⟨fun h=>absurd h h19,fun _ _=>aE _⟩
       ·simp at h
     ·rintro ⟨x,hx,hx1,rfl,hx3⟩
      rcases aV.1 hx with hx | hx
      ·refine .inl ⟨⟨x,hx,hx1,rfl,fun y hy=>hx3 y (List.mem_append_left _ hy)⟩,?_⟩
       simp only [decide_eq_true_eq]
       intro he
       have h5:=(hx3 k (by simp)).2 h19 he.symm
       have h6:=hkm x hx
       exact h6.2 he (by omega)
      ·rw [aQ.1 hx] at hx1 ⊢
       rw [if_pos hx1]
       exact .inr (aQ.2 rfl)
 have:=aux [] l (by simpa using hd) (by simpa using hc) (by simpa using hk) [] .nil (by simp)
 simpa using this
theorem DH {a b:List SV} (ha:a.Pairwise fun x y=>x.1 < y.1) (hb:b.Pairwise fun x y=>x.1 < y.1) (h:∀ x,x ∈ a↔x ∈ b):a=b:=by
 induction a generalizing b with
 | nil =>
  cases b with
  | nil=>rfl
  | cons y b=>exact absurd ((h y).2 aO) (by simp)
 | cons x a ih =>
  cases b with
  | nil=>exact absurd ((h x).1 aO) (by simp)
  | cons y b =>
   have ha':=fun {z}=>bJ (a':=z) ha
   have hb':=fun {z}=>bJ (a':=z) hb
   have hxy:x=y:=by
    rcases al.1 ((h x).1 aO) with e | h1
    ·exact e
    ·rcases al.1 ((h y).2 aO) with e | h2
     ·exact e.symm
     ·exact absurd (ha' h2) (gB (hb' h1))
   subst hxy
   congr 1
   refine ih ha.of_cons hb.of_cons fun z => ?_
   have:=h z
   rw [al,al] at this
   constructor
   ·intro hz
    rcases this.1 (.inr hz) with e | h1
    ·subst e; exact absurd (ha' hz) (bA _)
    ·exact h1
   ·intro hz
    rcases this.2 (.inr hz) with e | h1
    ·subst e; exact absurd (hb' hz) (bA _)
    ·exact h1
theorem y6:TotB uo where
 asym a b h:=by
  have h:a.1 < b.1:=of_decide_eq_true h
  exact aF (gB h)
 trans a b c h1 h2:=by
  have h1:¬ b.1 < a.1:=of_decide_eq_false h1
  have h2:¬ c.1 < b.1:=of_decide_eq_false h2
  exact aF fun h3=>h1 (cz h2 h3)
theorem DI {l:List SV} (h:l.Pairwise fun a b=>a.1≠b.1):(lU uo l).Pairwise fun a b=>a.1 < b.1:=by
 have h1:=jP y6 l
 have h2:(lU uo l).Pairwise fun a b=>a.1≠b.1:=(List.Perm.pairwise_iff (fun h=>Ne.symm h) (lG l)).2 h
 refine (h1.and h2).imp fun {a b} h => ?_
 have h3:¬ b.1 < a.1:=of_decide_eq_false h.1
 rcases gg a.1 b.1 with h4 | h4 | h4
 ·exact h4
 ·exact absurd h4 h.2
 ·exact absurd h4 h3
def wz (snap:Nat) (ks:List K):List K:=ks.filter fun x=>ir snap x.tr
theorem sE {snap:Nat} {ks:List K} (h:Cd ks):pf [] (wz snap (eF ks))=(Tf snap ks).map K.sv:=by
 have hm:∀ x,x ∈ (wz snap (eF ks)).reverse↔x ∈ ks∧ir snap x.tr=true:=fun x=>by rw [List.mem_reverse]; unfold wz; rw [bp,(ef ks).mem_iff]
 have hp:(eF ks).Pairwise fun x y=>x.suf=y.suf→x.tr≠y.tr:=(List.Perm.pairwise_iff (fun {x y} h e e2=>h e.symm e2.symm) (ef ks)).2 h.dist
 have fs:=yz (wz snap (eF ks)).reverse (by rw [List.pairwise_reverse]; exact (wx ks).filter _) (by rw [List.pairwise_reverse]; exact (hp.filter _).imp fun {x y} h e e2=>h e.symm e2.symm) fun x hx=>h.kind x ((hm x).1 hx).1
 refine DH (DI fs.1) (by rw [List.pairwise_map]; exact mU h) fun p => ?_
 unfold pf
 rw [(lG _).mem_iff,fs.2,bU]
 constructor
 ·rintro ⟨x,hx,h1,rfl,h2⟩
  refine ⟨x,lC.2 ⟨((hm x).1 hx).1,gS.2 ⟨((hm x).1 hx).2,h1,fun y hy hv=>h2 y ((hm y).2 ⟨hy,hv⟩)⟩⟩,rfl⟩
 ·rintro ⟨x,hx,rfl⟩
  obtain ⟨h1,h2⟩:=lC.1 hx
  obtain ⟨h2,h3,h4⟩:=gS.1 h2
  exact ⟨x,(hm x).2 ⟨h1,h2⟩,h3,rfl,fun y hy=>h4 y ((hm y).1 hy).1 ((hm y).1 hy).2⟩
def iu (p:SV):K:=⟨0,p.1,p.2⟩
theorem xB (l:List SV):(l.map iu).map K.sv=l:=by
 rw [dI]
 exact List.map_id'' (fun _=>rfl) l
theorem BT {l m:List SV} (h:l.map iu=m.map iu):l=m:=by rw [← xB l,h,xB]
def sF (x:Sp):Sp:=⟨x.s,x.e,(pf [] x.ks).map iu⟩
def sG (out:List Sp) (x:Sp):List Sp:=match out.getLast? with
 | some y=>if y.e=x.s∧x.ks≠[]∧y.ks=x.ks then out.dropLast++[⟨y.s,x.e,y.ks⟩] else out++[x]
 | none=>[x]
def EG (lo hi:Option Bytes) (x:Sp):Bool:=(match lo with | some l=>decide (l < x.e) | none=>true) && match hi with | some h=>decide (x.s < h) | none=>true
def jl (l:List Sp) (snap:Nat):List Sp:=(dw l).map fun x=>⟨x.s,x.e,wz snap x.ks⟩
def tu (l:List Sp) (snap:Nat) (lo hi:Option Bytes):List Sp:=(((jl l snap).filter (EG lo hi)).map sF).foldl sG []
def cT (x:Sp):Sp:=⟨x.s,x.e,(x.ks.map K.sv).map iu⟩
def EH (G:List Sp) (m:Nat):List Sp:=(List.range ((List.range m).filter (mD G)).length).map fun p =>
 ⟨G[((List.range m).filter (mD G))[p]!]!.s,G[(if p+1 < ((List.range m).filter (mD G)).length then ((List.range m).filter (mD G))[p+1]! else m) - 1]!.e,G[((List.range m).filter (mD G))[p]!]!.ks⟩
theorem DJ (G:List Sp):EH G G.length=Vw G:=rfl
theorem xC {a b:Sp} (h1:a.s=b.s) (h2:a.e=b.e) (h3:a.ks.map K.sv=b.ks.map K.sv):cT a=cT b:=by unfold cT; rw [h1,h2,h3]
theorem BU (G:List Sp) {m:Nat} (hm:m≤G.length):((G.take m).map cT).foldl sG []=(EH G m).map cT∧(0 < m→∃ j,((List.range m).filter (mD G)).getLast? = some j∧j < m∧G[j]!.ks.map K.sv=G[m - 1]!.ks.map K.sv):=by
 induction m with
 | zero=>exact ⟨rfl,fun h=>absurd h (dP 0)⟩
 | succ m ih =>
  obtain ⟨ih1,ih2⟩:=ih (by omega)
  have hG:G.take (m+1)=G.take m++[G[m]!]:=by rw [List.take_add_one,aC (by omega:m < G.length),aH G m (by omega)]; rfl
  rw [hG,bH,List.foldl_append,ih1,List.map_singleton,List.foldl_cons,List.foldl_nil]
  obtain ⟨S,hS⟩:∃ S,S=(List.range m).filter (mD G):=⟨_,rfl⟩
  have hS1:(List.range (m+1)).filter (mD G)=if mD G m then S++[m] else S:=by
   rw [List.range_succ,List.filter_append,← hS]
   cases h:mD G m with
   | true=>rw [List.filter_cons_of_pos h]; rfl
   | false=>rw [List.filter_cons_of_neg (by rw [h]; simp)]; simp
  have hVm:EH G m=(List.range S.length).map fun p=>⟨G[S[p]!]!.s,G[(if p+1 < S.length then S[p+1]! else m) - 1]!.e,G[S[p]!]!.ks⟩:=by unfold EH; rw [← hS]
  rcases bE m with rfl | hm0
  ·have h0:mD G 0=true:=aU (.inl rfl)
   rw [h0] at hS1
   have hS0:S=[]:=by rw [hS]; rfl
   rw [if_pos rfl,hS0,List.nil_append] at hS1
   refine ⟨?_,fun _=>⟨0,by rw [hS1]; rfl,by omega,rfl⟩⟩
   rw [hVm,hS0]
   show sG [] (cT G[0]!)=_
   unfold EH
   rw [hS1]
   rfl
  ·obtain ⟨j,hj,hjm,hje⟩:=ih2 hm0
   rw [← hS] at hj
   obtain ⟨S',rfl⟩:∃ S',S=S'++[j]:=List.getLast?_eq_some_iff.1 hj
   have hlast:EH G m=((List.range S'.length).map fun p=>(⟨G[(S'++[j])[p]!]!.s,G[(S'++[j])[p+1]! - 1]!.e,G[(S'++[j])[p]!]!.ks⟩:Sp))++[⟨G[j]!.s,G[m - 1]!.e,G[j]!.ks⟩]:=by
    rw [hVm,aJ,ar,List.range_succ,bH]
    congr 1
    ·refine List.map_congr_left fun p hp => ?_
     rw [List.mem_range] at hp
     rw [if_pos (by omega)]
    ·simp only [List.map_cons,List.map_nil]
     rw [if_neg (by omega)]
     have:(S'++[j])[S'.length]! = j:=by rw [aH (S'++[j]) S'.length (by simp)]; simp
     rw [this]
   have hjoin:mD G m=decide (¬ (G[m - 1]!.e=G[m]!.s∧G[m]!.ks≠[]∧G[m - 1]!.ks.map K.sv=G[m]!.ks.map K.sv)):=by
    unfold mD
    refine decide_eq_decide.2 ?_
    have hh:fX G (m - 1)↔m - 1+1 < G.length∧G[m - 1]!.e=G[m - 1+1]!.s∧G[m - 1]!.ks≠[]∧G[m - 1]!.ks.map K.sv=G[m - 1+1]!.ks.map K.sv:=Iff.rfl
    rw [hh,show m - 1+1=m by omega]
    constructor
    ·rintro (h | h)
     ·omega
     ·rintro ⟨h1,h2,h3⟩
      exact h ⟨by omega,h1,fun h4=>h2 (by rw [h4] at h3; simpa using h3.symm),h3⟩
    ·intro h
     refine .inr fun ⟨_,h1,h2,h3⟩=>h ⟨h1,fun h4=>h2 (by rw [h4] at h3; simpa using h3),h3⟩
   rw [hlast,bH,List.map_singleton]
   unfold sG
   rw [List.getLast?_append,List.getLast?_singleton]
   simp only [Option.or_some,Option.some_or]
   have hb1:((cT G[m]!).ks≠[])↔G[m]!.ks≠[]:=by unfold cT; simp
   have hb2:((cT (⟨G[j]!.s,G[m - 1]!.e,G[j]!.ks⟩:Sp)).ks=(cT G[m]!).ks)↔G[m - 1]!.ks.map K.sv=G[m]!.ks.map K.sv:=by
    rw [← hje]
    constructor
    ·intro h; exact BT h
    ·intro h; exact congrArg (List.map iu) h
   by_cases hc:G[m - 1]!.e=G[m]!.s∧G[m]!.ks≠[]∧G[m - 1]!.ks.map K.sv=G[m]!.ks.map K.sv
   ·rw [if_pos (by refine ⟨hc.1,hb1.2 hc.2.1,hb2.2 hc.2.2⟩)]
    have hst:mD G m=false:=by rw [hjoin]; exact aF fun h=>h hc
    rw [hst,if_neg (by simp)] at hS1
    refine ⟨?_,fun _=>⟨j,by rw [hS1]; exact hj,by omega,by rw [show m+1 - 1=m by omega,hje,hc.2.2]⟩⟩
    rw [List.dropLast_concat]
    unfold EH
    rw [hS1,aJ,ar,List.range_succ,bH,bH]
    congr 1
    ·rw [dI,dI]
     refine List.map_congr_left fun p hp => ?_
     rw [List.mem_range] at hp
     simp only [Function.comp]
     rw [if_pos (by omega)]
    ·simp only [List.map_cons,List.map_nil]
     rw [if_neg (by omega)]
     have:(S'++[j])[S'.length]! = j:=by rw [aH (S'++[j]) S'.length (by simp)]; simp
     rw [this,show m+1 - 1=m by omega]
     rfl
   ·rw [if_neg (by rintro ⟨h1,h2,h3⟩; exact hc ⟨h1,hb1.1 h2,hb2.1 h3⟩)]
    have hst:mD G m=true:=by rw [hjoin]; exact aU hc
    rw [hst,if_pos rfl] at hS1
    refine ⟨?_,fun _=>⟨m,by rw [hS1]; simp,by omega,by rw [show m+1 - 1=m by omega]⟩⟩
    rw [show (List.map cT (List.map (fun p=>(⟨G[(S'++[j])[p]!]!.s,G[(S'++[j])[p+1]! - 1]!.e,G[(S'++[j])[p]!]!.ks⟩:Sp)) (List.range S'.length))++[cT ⟨G[j]!.s,G[m - 1]!.e,G[j]!.ks⟩])=(EH G m).map cT by rw [hlast,bH]; rfl]
    have hV1:EH G (m+1)=(List.range (S'++[j]++[m]).length).map fun p=>(⟨G[(S'++[j]++[m])[p]!]!.s,G[(if p+1 < (S'++[j]++[m]).length then (S'++[j]++[m])[p+1]! else m+1) - 1]!.e,G[(S'++[j]++[m])[p]!]!.ks⟩:Sp):=by unfold EH; rw [hS1]
    have hl1:(S'++[j]++[m]).length=(S'++[j]).length+1:=by simp
    rw [hV1,hVm,hl1,List.range_succ,bH,bH]
    congr 1
    ·rw [dI,dI]
     refine List.map_congr_left fun p hp => ?_
     rw [List.mem_range] at hp
     simp only [Function.comp]
     have e1:(S'++[j]++[m])[p]! = (S'++[j])[p]! := by rw [aH (S'++[j]++[m]) p (by simp only [aJ,ar] at hp ⊢; omega),aH (S'++[j]) p hp,List.getElem_append_left hp]
     rw [e1,if_pos (show p+1 < (S'++[j]).length+1 by omega)]
     by_cases hp1:p+1 < (S'++[j]).length
     ·have e2:(S'++[j]++[m])[p+1]! = (S'++[j])[p+1]! := by rw [aH (S'++[j]++[m]) (p+1) (by simp only [aJ,ar] at hp1 ⊢; omega),aH (S'++[j]) (p+1) hp1,List.getElem_append_left hp1]
      rw [if_pos hp1,e2]
     ·have hpe:p+1=(S'++[j]).length:=by omega
      have e2:(S'++[j]++[m])[p+1]! = m:=by rw [hpe,aH (S'++[j]++[m]) _ (by simp only [aJ,ar]; omega)]; simp
      rw [if_neg hp1,e2]
    ·simp only [List.map_cons,List.map_nil]
     rw [if_neg (by omega)]
     have:(S'++[j]++[m])[(S'++[j]).length]! = m:=by rw [aH (S'++[j]++[m]) _ (by simp only [aJ,ar]; omega)]; simp
     rw [this,show m+1 - 1=m by omega]
theorem Ek (G:List Sp):(G.map cT).foldl sG []=(Vw G).map cT:=by
 have:=(BU G (aE G.length)).1
 rwa [ah,DJ] at this
end Go.E
end
section
namespace Go.E
open Go Go.Sort Go.Proofs
theorem y7 {α:Type} (P:α→Bool) (G:List α) (a e:Nat) (h:∀ j (hj:j < G.length),P G[j]=true↔a≤j∧j < e):G.filter P=(G.take e).drop a:=by
 induction G generalizing a e with
 | nil=>simp
 | cons x G ih =>
  have h0:=h 0 (by simp)
  have hs:=fun j (hj:j < G.length)=>h (j+1) (by simp only [aY]; omega)
  simp only [List.getElem_cons_zero] at h0
  simp only [List.getElem_cons_succ] at hs
  cases e with
  | zero =>
   rw [List.filter_cons_of_neg (by rw [h0]; omega),ih 0 0 fun j hj=>by rw [hs j hj]; omega]
   simp
  | succ e =>
   cases a with
   | zero=>rw [List.filter_cons_of_pos (by rw [h0]; omega),ih 0 e fun j hj=>by rw [hs j hj]; omega]; simp
   | succ a=>rw [List.filter_cons_of_neg (by rw [h0]; omega),ih a e fun j hj=>by rw [hs j hj]; omega]; simp
theorem El {lo hi:Option Bytes} {x:Sp}:EG lo hi x=true↔(∀ l,lo=some l→l < x.e)∧∀ h,hi=some h→x.s < h:=by
 unfold EG
 rw [bY]
 cases lo <;> cases hi <;> simp
theorem BV {G:List Sp} (hw:Wf G) (lo hi:Option Bytes):G.filter (EG lo hi)=GB G lo hi:=by
 unfold GB
 refine y7 _ _ _ _ fun j hj => ?_
 rw [El,qS hw hj,qT hw hj,aH G j hj]
theorem xD {Lv:List (List Sp)} {snap:Nat} (h:∀ L ∈ Lv,Wf L) (hf:∀ L ∈ Lv,∀ s ∈ L,s.ks≠[]) (hc:∀ u,Cd (dO Lv.length (fY Lv) (cG Lv.flatten) u)) :
    (jl Lv.flatten snap).map sF=(GL snap Lv.length (fY Lv) (cG Lv.flatten)).map cT:=by
 unfold jl GL
 rw [sD h hf,dI,dI,dI]
 refine List.map_congr_left fun u _ => ?_
 simp only [Function.comp,sF,cT,lP]
 rw [sE (hc u)]
theorem zu {Lv:List (List Sp)} {snap:Nat} (h:∀ L ∈ Lv,Wf L) (hf:∀ L ∈ Lv,∀ s ∈ L,s.ks≠[]) (hc:∀ u,Cd (dO Lv.length (fY Lv) (cG Lv.flatten) u)) (lo hi:Option Bytes) :
    tu Lv.flatten snap lo hi=(Vw (GB (GL snap Lv.length (fY Lv) (cG Lv.flatten)) lo hi)).map cT:=by
 have e1:((jl Lv.flatten snap).filter (EG lo hi)).map sF=((jl Lv.flatten snap).map sF).filter (EG lo hi):=by
  rw [List.filter_map]
  rfl
 have e2:((GL snap Lv.length (fY Lv) (cG Lv.flatten)).map cT).filter (EG lo hi)=((GL snap Lv.length (fY Lv) (cG Lv.flatten)).filter (EG lo hi)).map cT:=by
  rw [List.filter_map]
  rfl
 unfold tu
 rw [e1,xD h hf hc,e2,BV (wM (lI h)),Ek]
theorem zv {G:List Sp} (hw:Wf G):Wf (Vw G):=by
 refine ⟨fun i hi => ?_,fun i j hij hj => ?_⟩
 ·rw [dE] at hi
  rw [gx hi]
  have h1:=dK hi
  have a:=hw.1 _ (fi hi).1
  have b:=hw.ends (i:=(cY G)[i]!) (j:=fk G i - 1) (by omega) (by omega)
  simp only
  exact bm a (by grind)
 ·rw [dE] at hj
  rw [gx hj,gx (by omega:i < (cY G).length)]
  have h1:=dK (show i < (cY G).length by omega)
  have h2:=yu hij hj
  exact hw.2 _ _ (by omega) (fi hj).1
end Go.E
end
