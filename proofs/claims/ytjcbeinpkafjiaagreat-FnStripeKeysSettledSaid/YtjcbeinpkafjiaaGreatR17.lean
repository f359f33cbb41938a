/- Parts of the proof: Dm, Pa, Wa, Wb, Wd. -/
import Derived.Test.YtjcbeinpkafjiaaGreatR16
set_option linter.all false
set_option maxRecDepth 10000
section
namespace Go.E
open Go Go.Sort Go.Proofs
theorem yB (P:Nat→Bool) (N:Nat):qa P N≤N∧(∀ i,i < qa P N→P i=true)∧(qa P N < N→P (qa P N)=false):=by
 induction N generalizing P with
 | zero=>exact ⟨aD _,fun i h=>by simp [qa] at h,fun h=>by simp [qa] at h⟩
 | succ N ih =>
  unfold qa
  split
  ·rename_i h
   obtain ⟨a,b,c⟩:=ih fun i=>P (i+1)
   refine ⟨by omega,fun i hi => ?_,fun hl=>c (by omega)⟩
   cases i with
   | zero=>exact h
   | succ i=>exact b i (by omega)
  ·rename_i h
   exact ⟨aQ _,fun i hi=>by omega,fun _=>by simpa using h⟩
section
variable {β:Type} [DecidableEq β] {π:K→β} {G:List Sp} {key:Bytes}
theorem Bs (G:List Sp) (key:Bytes):gy G key≤G.length∧(∀ i,i < gy G key→¬ key < G[i]!.e)∧(gy G key < G.length→key < G[gy G key]!.e):=by
 obtain ⟨a,b,c⟩:=yB (fun j=>decide (¬ key < G[j]!.e)) G.length
 exact ⟨a,fun i hi=>of_decide_eq_true (b i hi),fun h=>Classical.not_not.1 (of_decide_eq_false (c h))⟩
theorem Bt (G:List Sp) (key:Bytes) : -1≤jT G key∧jT G key < G.length∧(∀ i:Nat,i≤jT G key→G[i]!.s < key)∧(∀ j:Nat,jT G key+1=j→j < G.length→¬ G[j]!.s < key):=by
 obtain ⟨a,b,c⟩:=yB (fun j=>decide (G[j]!.s < key)) G.length
 unfold jT
 refine ⟨by omega,by omega,fun i hi=>by simpa using b i (by omega),fun j e h => ?_⟩
 obtain rfl:qa (fun j=>decide (G[j]!.s < key)) G.length=j:=by omega
 simpa using c h
theorem G8 {i p:Nat} (h:i < p) (hp:p < (cr π G).length):iG π G i≤(cr π G)[p]! := by
 rw [gz (by omega)]
 rcases cj (show i+1≤p from h) with h1 | h1
 ·exact dh ((kE iQ (ju (by omega)) (ju hp)).2 h1)
 ·rw [h1]; exact aD _
end
end Go.E
namespace Go.Proofs
open Go Go.E Go.Sort
section
variable {k:aq} {d w w0:World} {Y:DX} {U Bf C pb po:Nat} {rt:TypeId} {rv:Value} {G:List Sp} {pF pL:Prop} {pK:Bytes→Prop} {T:Nat→Nat→Prop} {R:World→(Nat→Prop)→Int→Prop} {D S D0 S0:Nat→Prop} {Q:Nat→Nat→Prop} {vc vk vb:Value} {xs xb:List Value} {cc:Nat} {lk:List KR} {is:Option Addr} {ps q:Int} {l:Bytes}
theorem Bu {p:Int} (dc:DC d Y U Bf C pb po rt rv G pF pL pK T R) (h:De d Y U Bf C pb po rt rv G T R w D S p) (hp : -1 < p) (hk:G7 d Y U Bf C pb po rt rv G T R w D S (p - 1) k):aX Tryz.prog 246 #[.pointer (some ⟨U,Y.a,none⟩)] k w:=by
 have ne:=dc.ne
 obtain ⟨Q,vc,vk,vb,xs,xb,cc,lk,is,ps,q,st,hd⟩:=h
 have q84:=st.p.d84
 have q85:=st.p.d85
 have q86:=st.p.d86
 have fU:=st.p.fU
 refine ai [.tmp 2] Tryz.func246 ?_
 rcases hd with h2 | ⟨his,⟨i,rfl,hi,hd⟩ | ⟨h3,hps,hq⟩ | ⟨h3,_,_⟩⟩
 ·omega
 ·have hE:=eA hi
  rcases hd with ⟨h0,hps,hq⟩ | ⟨h0,hps,hq⟩ | ⟨h0,hps,hq⟩
  ·subst hps hq
   simp (disch:=first | exact dZ | fail) only [go_sem,Bn,yk,n10,q86,q85,Option.isNone_some,q84]
   refine dc.f.prev st.R (by omega) fun w2 S2 hR2 hS2 k2 => ?_
   obtain ⟨q85',q86',_,fU2,f2⟩:=uf dc st hR2 hS2 k2
   rw [show iP pb po G (((cr Y.π G)[i]! : Nat) - 1) = .pointer (iq pb po G (((cr Y.π G)[i]! : Nat) - 1)) from dR ..]
   by_cases hl:0 < i
   ·have e:=gz (π:=Y.π) (G:=G) (p:=i - 1) (by omega)
    rw [show i - 1+1=i by omega] at e
    have hl2:=eA (π:=Y.π) (G:=G) (p:=i - 1) (by omega)
    have his:iq pb po G (((cr Y.π G)[i]! : Nat) - 1)=some ⟨pb,po,none⟩:=jX ⟨by omega,by omega⟩
    obtain ⟨st2,l2⟩:=f2 _ his
    rw [his]
    simp (disch:=first | exact dZ | fail) only [go_sem,q85',fU2,Option.isNone_some]
    refine rQ (p:=i - 1) dc l2 st2 (by omega) (by omega) fun w3 D3 S3 v r1 r2 r3 => ?_
    refine al ?_
    rw [show ((i - 1:Nat):Int)=i - 1 by omega] at r1 r3
    exact hk w3 D3 S3 v r1 r2 r3
   ·obtain rfl:i=0:=by omega
    have e:=(jU (π:=Y.π) (G:=G) (by omega)).2
    have his:iq pb po G (((cr Y.π G)[0]! : Nat) - 1)=none:=gG (by omega)
    obtain ⟨st2,l2⟩:=f2 _ his
    rw [his]
    simp (disch:=first | exact dZ | fail) only [go_sem,q85',fU2,Option.isNone_none]
    exact yA l2 st2 his.symm (.inr ⟨by omega,by omega⟩) hk
  ·subst hps hq
   refine gH @Bn @yk @n10 @q86 @q84 ?_
   refine dc.f.prev st.R (by omega) fun w2 S2 hR2 hS2 k2 => ?_
   obtain ⟨q85',q86',_,fU2,f2⟩:=uf dc st hR2 hS2 k2
   rw [show iP pb po G ((iG Y.π G i:Nat) - 1) = .pointer (iq pb po G ((iG Y.π G i:Nat) - 1)) from dR ..]
   have his2:iq pb po G ((iG Y.π G i:Nat) - 1)=some ⟨pb,po,none⟩:=jX ⟨by omega,by omega⟩
   obtain ⟨st2,l2⟩:=f2 _ his2
   rw [his2]
   simp (disch:=first | exact dZ | fail) only [go_sem,q85',fU2,Option.isNone_some]
   have hsame:=l8 hi (j:=iG Y.π G i - 1) (by omega) (by omega)
   refine D8 (p:=i) (j:=iG Y.π G i - 1) dc st2 hi (by omega) (by omega) (by omega) (fun h=>h0 (by rw [h] at hsame; simpa using hsame.symm)) fun w3 D3 S3 Q3 vc3 vk3 vb3 xs3 xb3 cc3 lk3 v st3 l3 => ?_
   have r85:=st3.p.d85
   have r86:=st3.p.d86
   have rU:=st3.p.fU
   by_cases hl:0 < i
   ·have e:=gz (π:=Y.π) (G:=G) (p:=i - 1) (by omega)
    rw [show i - 1+1=i by omega] at e
    have hl2:=eA (π:=Y.π) (G:=G) (p:=i - 1) (by omega)
    rw [jX ⟨by omega,by omega⟩] at st3 r85
    simp (disch:=first | exact dZ | fail) only [go_sem,r85,Option.isNone_some]
    refine rQ (p:=i - 1) dc (l2.trans l3) st3 (by omega) (by omega) fun w3 D3 S3 v r1 r2 r3 => ?_
    refine al ?_
    rw [show ((i - 1:Nat):Int)=i - 1 by omega] at r1 r3
    exact hk w3 D3 S3 v r1 r2 r3
   ·obtain rfl:i=0:=by omega
    have e:=(jU (π:=Y.π) (G:=G) (by omega)).2
    rw [gG (by omega)] at st3 r85
    simp (disch:=first | exact dZ | fail) only [go_sem,r86,r85,Option.isNone_none,rU]
    obtain ⟨st4,l4⟩:=D1 dc st3 0
    exact yA (l2.trans (l3.trans l4)) st4 (gG (by omega)).symm (.inr ⟨by omega,by omega⟩) hk
  ·subst hps hq
   by_cases hl:0 < i
   ·have e:=gz (π:=Y.π) (G:=G) (p:=i - 1) (by omega)
    rw [show i - 1+1=i by omega] at e
    have hl2:=eA (π:=Y.π) (G:=G) (p:=i - 1) (by omega)
    rw [jX ⟨by omega,by omega⟩] at his
    subst his
    simp (disch:=first | exact dZ | fail) only [go_sem,Bn,yk,n10,q86,q85,Option.isNone_some]
    refine rQ (p:=i - 1) dc (DLt.refl ..) st (by omega) (by omega) fun w3 D3 S3 v r1 r2 r3 => ?_
    refine al ?_
    rw [show ((i - 1:Nat):Int)=i - 1 by omega] at r1 r3
    exact hk w3 D3 S3 v r1 r2 r3
   ·obtain rfl:i=0:=by omega
    have e:=(jU (π:=Y.π) (G:=G) (by omega)).2
    rw [gG (by omega)] at his
    subst his
    simp (disch:=first | exact dZ | fail) only [go_sem,Bn,yk,n10,q86,q85,Option.isNone_none,fU]
    obtain ⟨st3,l3⟩:=D1 dc st 0
    exact yA l3 st3 (gG (by omega)).symm (.inr ⟨by omega,by omega⟩) hk
 ·subst hps hq
  refine rA @Bn @yk @n10 @q86 @q85 @q84 ?_
  refine dc.f.prev st.R (by omega) fun w2 S2 hR2 hS2 k2 => ?_
  obtain ⟨q85',q86',_,fU2,f2⟩:=uf dc st hR2 hS2 k2
  rw [show iP pb po G ((G.length:Nat) - 1) = .pointer (iq pb po G ((G.length:Nat) - 1)) from dR ..]
  by_cases h0:0 < G.length
  ·obtain ⟨e1,e2⟩:=jU (π:=Y.π) h0
   have e3:iG Y.π G ((cr Y.π G).length - 1)=G.length:=lz (by omega)
   have his:iq pb po G ((G.length:Nat) - 1)=some ⟨pb,po,none⟩:=jX ⟨by omega,by omega⟩
   obtain ⟨st2,l2⟩:=f2 _ his
   rw [his]
   simp (disch:=first | exact dZ | fail) only [go_sem,q85',fU2,Option.isNone_some]
   refine rQ (p:=(cr Y.π G).length - 1) dc l2 st2 (by omega) (by omega) fun w3 D3 S3 v r1 r2 r3 => ?_
   refine al ?_
   rw [show (((cr Y.π G).length - 1:Nat):Int)=p - 1 by omega] at r1 r3
   exact hk w3 D3 S3 v r1 r2 r3
  ·have his:iq pb po G ((G.length:Nat) - 1)=none:=gG (by omega)
   have hz:(cr Y.π G).length=0:=sH (by omega)
   obtain ⟨st2,l2⟩:=f2 _ his
   rw [his]
   simp (disch:=first | exact dZ | fail) only [go_sem,q85',fU2,Option.isNone_none]
   exact yA l2 st2 his.symm (.inr ⟨by omega,by omega⟩) hk
 ·omega
end
end Go.Proofs
end
section
namespace Go.E
open Go Go.Sort Go.Proofs
def str (l:Bytes):Value := .string ⟨l.toArray⟩
abbrev gN (α:Type):=World→List Value→α→Prop
def gi {α:Type} (R:gN α):Prop:=∀ w w2 cs x,bz w w2→R w cs x→R w2 cs x
def Fb {α:Type} (R:gN α) (sz:Nat) (w:World) (b o:Nat) (x:α):Prop:=∃ cs:List Value,cs.length=sz∧(∀ i u,cs[i]? = some u→w.cell? ⟨b,o+i,none⟩=some u)∧R w cs x
theorem Fb.mono {α:Type} {R:gN α} {sz:Nat} (h:gi R):DS (Fb R sz):=fun _ _ _ _ _ hi ⟨cs,h1,h2,h3⟩=>⟨cs,h1,fun i u hu=>hi _ _ _ (h2 i u hu),h _ _ _ _ hi h3⟩
abbrev Sl {α:Type} (R:gN α) (sz:Nat) (w:World) (v:Value) (l:List α):Prop:=fI (Fb R sz) sz w v l
theorem Sl.inc {α:Type} {R:gN α} {sz:Nat} {w w2:World} {v:Value} {l:List α} (hm:gi R) (h:Sl R sz w v l) (hi:bz w w2):Sl R sz w2 v l:=fI.inc (Fb.mono hm) h hi
theorem Sl.nil {α:Type} {R:gN α} {sz:Nat} {w:World} {c:Nat}:Sl R sz w (.slice none 0 c) []:=⟨rfl,rfl⟩
structure OwnL {α:Type} (R:gN α) (sz:Nat) (el:TypeId) (d w:World) (v:Value) (l:List α) (css:List (List Value)):Prop where
 len:css.length=l.length
 own:w.ownsRow 0 el sz v l.length css.flatten
 sz:∀ cs ∈ css,cs.length=sz
 R:∀ (i:Nat) (x:α) (cs:List Value),l[i]? = some x→css[i]? = some cs→R d cs x
 out:∀ g,v.ownBlock=some g→cq d g
section
variable {α:Type} {R:gN α} {sz:Nat} {el:TypeId} {d d2 w w2:World} {v:Value} {l:List α} {css:List (List Value)}
theorem OwnL.nil (h:w.ownsRow 0 el sz (.slice none 0 0) 0 []):OwnL R sz el d w (.slice none 0 0) [] []:=⟨rfl,h,by simp,by simp,by simp [Value.ownBlock]⟩
theorem OwnL.drew (h:OwnL R sz el d w v l css):OwnL R sz el d w.drew v l css:=⟨h.len,h.own.drew,h.sz,h.R,h.out⟩
theorem OwnL.keep {M:Nat→Nat→Prop} (h:OwnL R sz el d w v l css) (hk:Keep M w w2) (hm:∀ g,v.ownBlock=some g→∀ o,¬ M g o):OwnL R sz el d w2 v l css:=⟨h.len,aZ h.own hk hm,h.sz,h.R,h.out⟩
theorem OwnL.ext (h:OwnL R sz el d w v l css) (hk:bY w w2):OwnL R sz el d w2 v l css:=h.keep hk fun _ _ _ h=>h
theorem OwnL.ghost (h:OwnL R sz el d w v l css) (hm:gi R) (hi:bz d d2) (ho:∀ g,v.ownBlock=some g→cq d2 g):OwnL R sz el d2 w v l css:=⟨h.len,h.own,h.sz,fun i x cs h1 h2=>hm _ _ _ _ hi (h.R i x cs h1 h2),ho⟩
theorem OwnL.form (h:OwnL R sz el d w v l css):∃ a c,v = .slice a l.length c∧l.length≤c∧c≤9223372036854775807:=by
 obtain ⟨a,c,h1,h2,h3⟩:=bZ h.own
 exact ⟨a,c,h1,h2,h3⟩
theorem yC {css:List (List Value)} (h:∀ cs ∈ css,cs.length=sz):css.flatten.length=css.length * sz:=by
 induction css with
 | nil=>simp
 | cons c css ih =>
  have h1:=h c aR
  have h2:=ih fun cs hcs=>h cs (aj _ hcs)
  rw [List.flatten_cons,aM,h1,h2,ag,Nat.add_mul]
  omega
theorem sN {css:List (List Value)} (h:∀ cs ∈ css,cs.length=sz) {i j:Nat} {cs:List Value} {u:Value} (hi:css[i]? = some cs) (hj:cs[j]? = some u):css.flatten[i * sz+j]? = some u:=by
 induction css generalizing i with
 | nil=>simp at hi
 | cons c css ih =>
  have h1:=h c aR
  rw [List.flatten_cons]
  cases i with
  | zero =>
   simp only [List.getElem?_cons_zero,aK] at hi
   subst hi
   rw [Nat.zero_mul,Nat.zero_add,bG (aP.1 hj).1]
   exact hj
  | succ i =>
   rw [List.getElem?_cons_succ] at hi
   have:=ih (fun cs hcs=>h cs (aj _ hcs)) hi
   rw [bP (by rw [h1,Nat.add_mul]; omega),h1,show (i+1) * sz+j - sz=i * sz+j by rw [Nat.add_mul]; omega]
   exact this
theorem OwnL.sl (h:OwnL R sz el d w v l css) (hm:gi R) (hi:bz d d2) (hb:∀ g,v.ownBlock=some g→∀ o u,w.cell? ⟨g,o,none⟩=some u→d2.cell? ⟨g,o,none⟩=some u):Sl R sz d2 v l:=by
 have ho:=h.own
 rcases cY ho with ⟨rfl,h0,_⟩ | ⟨g,cap,rfl,hc,hg⟩
 ·exact ⟨rfl,ao.1 h0⟩
 ·refine ⟨fun _=>rfl,rfl,hc,fun i x hx => ?_⟩
  have hlt:=(aP.1 hx).1
  obtain ⟨cs,hcs⟩:∃ cs,css[i]? = some cs:=⟨_,aC (by rw [h.len]; exact hlt)⟩
  refine ⟨cs,h.sz cs (aJ hcs),fun j u hu => ?_,hm _ _ _ _ hi (h.R i x cs hx hcs)⟩
  have:=av ho (sN h.sz hcs hu)
  rw [show 0+i * sz+j=i * sz+j by omega]
  exact hb g rfl _ _ this
theorem OwnL.cell {g cap:Nat} (h:OwnL R sz el d w (.slice (some ⟨g,0,none⟩) l.length cap) l css) {i j:Nat} {cs:List Value} {u:Value} (hi:css[i]? = some cs) (hj:cs[j]? = some u):w.cell? ⟨g,i * sz+j,none⟩=some u:=av h.own (sN h.sz hi hj)
end
structure Gr (d w d2 w2:World):Prop where
 x:bY w w2
 i:bz d d2
 j:bz d2 w2
 o:∀ b,b < w.heap.size→cq d b→cq d2 b
theorem Gr.refl {d w:World} (h:bz d w):Gr d w d w:=⟨bY.refl w,bz.refl d,h,fun _ _ h=>h⟩
theorem Gr.ext {d w w2:World} (h:bz d w) (x:bY w w2):Gr d w d w2:=⟨x,bz.refl d,h.trans x.inc,fun _ _ h=>h⟩
theorem Gr.trans {d w d2 w2 d3 w3:World} (h:Gr d w d2 w2) (h2:Gr d2 w2 d3 w3):Gr d w d3 w3:=⟨h.x.trans h2.x,h.i.trans h2.i,h2.j,fun b hb ho=>h2.o b (aI hb h.x.size) (h.o b hb ho)⟩
theorem Gr.drew {d w d2 w2:World} (h:Gr d w d2 w2):Gr d w d2 w2.drew:=⟨Keep.drew h.x,h.i,h.j,h.o⟩
open Classical in
theorem OwnL.grown {α:Type} {R:gN α} {sz:Nat} {el:TypeId} {d d1 w w1:World} {v:Value} {l:List α} {css:List (List Value)} (h:OwnL R sz el d1 w1 v l css) (hm:gi R) (g:Gr d w d1 w1) (hn:∀ b,v.ownBlock=some b→w.heap.size≤b) :
    ∃ d2,Gr d w d2 w1∧bz d1 d2∧(∀ b,cq d1 b→v.ownBlock≠some b→cq d2 b)∧Sl R sz d2 v l:=by
 let D:Nat→Bool:=fun b=>decide (¬ cq d1 b∨v.ownBlock=some b)
 have hD:∀ b o u,d1.cell? ⟨b,o,none⟩=some u→D b=true:=fun b o u hu=>aO (.inl fun ho=>by rw [ho o] at hu; simp at hu)
 have i2:bz d1 (only w1 D):=sC g.j D hD
 have oo:∀ b,cq d1 b→v.ownBlock≠some b→cq (only w1 D) b:=fun b h1 h2=>sB w1 D (aF fun h=>h.elim (fun h=>h h1) h2)
 refine ⟨only w1 D,⟨g.x,g.i.trans i2,sA w1 D,fun b hb ho=>oo b (g.o b hb ho) fun hv => ?_⟩,i2,oo,h.sl hm i2 fun b hb o u hu => ?_⟩
 ·have:=hn b hv; omega
 ·rw [jK,show D b=true from aO (.inr hb),if_pos rfl]
  exact hu
theorem jI {P:Program} {α:Type} {R:gN α} {sz by_ n:Nat} {t ty el:TypeId} {d w W:World} {v:Value} {l:List α} {css:List (List Value)} {C:Array Value} {q:aq} (x:α) (cs:List Value) (row:gQ P t=some (el,sz,by_)) (h:OwnL R sz el d w v l css)
    (hx:R d cs x) (hC:C=cs.toArray) (hW:W=w.alloc (.cells C el)∨W=(w.alloc (.cells C el)).drew) (hn:n=w.heap.size) (hs:cs.length=sz) (h1:∀ u ∈ cs,u.oneCell'=true) (hb:(l.length+1) * (by_+1)≤140737488355328) (hinc:bz d w)
    (hk:∀ v2 w2,OwnL R sz el d w2 v2 (l++[x]) (css++[cs])→Keep (fun b _=>v.ownBlock=some b) w w2→cZ w v v2→bz d w2→(∃ a c,v2 = .slice a (l.length+1) c)→q v2 w2) :
    pe P #[t,t] ty #[v,.slice (some ⟨n,0,none⟩) 1 1] q W:=by
 subst hC hn
 have k4:bY w W:=by
  rcases hW with rfl | rfl
  ·exact aL _
  ·exact Keep.drew (aL _)
 have c4:∀ o,W.cell? ⟨w.heap.size,o,none⟩=cs.toArray[o]? := fun o=>by
  rcases hW with rfl | rfl
  ·exact aA (aD _) (Nat.lt_succ_self _)
  ·rw [show (w.alloc (Obj.cells cs.toArray el)).drew.cell? ⟨w.heap.size,o,none⟩=(w.alloc (Obj.cells cs.toArray el)).cell? ⟨w.heap.size,o,none⟩ from rfl]
   exact aA (aD _) (Nat.lt_succ_self _)
 simp only [pe]
 refine rB (m:=1) (news:=cs) row (aZ h.own k4 (fun _ _ _ h=>h)) (by rw [Nat.one_mul]; exact hs) ⟨rfl,?_⟩ h1 hb fun v5 w5 o5 k5 n5 _ => ?_
 ·intro j u hj
  rw [dm rfl,Nat.zero_add,c4]
  simpa using hj
 ·have kk5:Keep (fun b _=>v.ownBlock=some b) w w5:=k4.keep.trans (k5 _ fun b o hb _=>hb)
  have nw:cZ w v v5:=fun g hg=>by
   rcases n5 with h | ⟨g2,h,h',_⟩
   ·exact .inl (by rw [← h]; exact hg)
   ·rw [h] at hg
    simp only [aK] at hg
    subst hg
    have:=k4.size
    exact .inr (by omega)
  have i5:bz d w5:=hinc.keep kk5 fun b o hb=>h.out b hb o
  obtain ⟨a5,c5,e5,_⟩:=bZ o5
  refine hk v5 w5 ⟨by simp [h.len],?_,?_,?_,?_⟩ kk5 nw i5 ⟨a5,c5,e5⟩
  ·rw [List.flatten_append,aM]
   simpa using o5
  ·intro c hc
   rcases ax.1 hc with hc | hc
   ·exact h.sz c hc
   ·rw [ae.1 hc]; exact hs
  ·intro i y c hy hc
   rcases cz i l.length with hi | hi | hi
   ·rw [bG hi] at hy
    rw [bG (by rw [h.len]; exact hi)] at hc
    exact h.R i y c hy hc
   ·subst hi
    rw [bP (aD _),Nat.sub_self] at hy
    rw [bP (by rw [h.len]; exact aD _),h.len,Nat.sub_self] at hc
    simp only [List.getElem?_cons_zero,aK] at hy hc
    subst hy hc
    exact hx
   ·have:=(aP.1 hy).1
    rw [aM,aY] at this
    omega
  ·intro g hg
   rcases nw g hg with h' | h'
   ·exact h.out g h'
   ·exact hinc.out h'
theorem bn {α:Type} {l:List α} {i:Nat} {x:α} (h:l[i]? = some x):l.take (i+1)=l.take i++[x]:=by
 rw [List.take_add_one,h]; rfl
theorem dB {α:Type} {l:List α} {i:Nat} (h:i≤l.length):(l.take i).length=i:=by rw [ar]; omega
theorem eK {w:World} {el:TypeId} {sz:Nat}:w.ownsRow 0 el sz (.slice none 0 0) 0 []:=⟨by simp,.inl ⟨rfl,rfl⟩⟩
structure LoopL {α:Type} (R:gN α) (sz:Nat) (el:TypeId) (d w d1 w1:World) (v:Value) (l:List α):Prop where
 g:Gr d w d1 w1
 o:∃ css,OwnL R sz el d1 w1 v l css
 n:∀ b,v.ownBlock=some b→w.heap.size≤b
section
variable {α:Type} {R:gN α} {sz:Nat} {el:TypeId} {d w d1 w1 d2 w2:World} {v v2:Value} {l:List α}
theorem LoopL.nil (h:bz d w):LoopL R sz el d w d w (.slice none 0 0) []:=⟨Gr.refl h,⟨[],OwnL.nil eK⟩,by simp [Value.ownBlock]⟩
theorem LoopL.form (h:LoopL R sz el d w d1 w1 v l):∃ a c,v = .slice a l.length c∧l.length≤c∧c≤9223372036854775807:=by
 obtain ⟨css,o⟩:=h.o
 exact o.form
theorem LoopL.call (h:LoopL R sz el d w d1 w1 v l) (hm:gi R) (g:Gr d1 w1 d2 w2):LoopL R sz el d w d2 w2 v l:=by
 obtain ⟨css,o⟩:=h.o
 exact ⟨h.g.trans g,⟨css,(o.ext g.x).ghost hm g.i fun b hb=>g.o b (o.own.lt _ hb).2 (o.out b hb)⟩,h.n⟩
theorem LoopL.ext (h:LoopL R sz el d w d1 w1 v l) (hm:gi R) (x:bY w1 w2):LoopL R sz el d w d1 w2 v l:=h.call hm (Gr.ext h.g.j x)
theorem LoopL.more (h:LoopL R sz el d w d1 w1 v l) {l2:List α} {css:List (List Value)} (o:OwnL R sz el d1 w2 v2 l2 css) (k:Keep (fun b _=>v.ownBlock=some b) w1 w2) (n:cZ w1 v v2) (j:bz d1 w2):LoopL R sz el d w d1 w2 v2 l2:=by
 have hx:bY w w2:=h.g.x.tr k fun b o hb hm=>by have:=h.n b hm; omega
 refine ⟨⟨hx,h.g.i,j,h.g.o⟩,⟨css,o⟩,fun b hb => ?_⟩
 rcases n b hb with h' | h'
 ·exact h.n b h'
 ·exact aU h.g.x.size h'
theorem LoopL.done (h:LoopL R sz el d w d1 w1 v l) (hm:gi R):∃ d2,Gr d w d2 w1∧bz d1 d2∧(∀ b,cq d1 b→v.ownBlock≠some b→cq d2 b)∧Sl R sz d2 v l:=by
 obtain ⟨css,o⟩:=h.o
 exact o.grown hm h.g h.n
end
theorem Ai (l:Bytes):(str l).oneCell'=true:=rfl
end Go.E
end
section
namespace Go.E
open Go Go.Sort Go.Proofs Go.Proofs.Tryz
def KE:gN K:=fun _ cs x=>cs=[.int .u64 x.tr,str x.suf,str x.val]∧x.tr < 18446744073709551616
theorem KE.mono:gi KE:=fun _ _ _ _ _ h=>h
def dY:gN Sp:=fun w cs x=>∃ v,cs=[str x.s,str x.e,v]∧Sl KE 3 w v x.ks
theorem dY.mono:gi dY:=fun _ _ _ _ hi ⟨v,h1,h2⟩=>⟨v,h1,h2.inc KE.mono hi⟩
theorem bX {w w2:World} {b o:Nat} {v:Value} (h:bY w w2) (hb:w.heap.size≤b):bY w (w2.setCell ⟨b,o,none⟩ v):=Keep.set h fun hb2=>by omega
end Go.E
namespace Go.Proofs
open Go Go.E Go.Sort Go.Proofs.Tryz
section
variable {k:aq} {d w:World}
theorem tV {v:Value} {ks:List K} (hv:fI mh 3 w v ks) (hl:ks.length < 1000000) (hinc:bz d w) (hk:∀ d' w' v',Gr d w d' w'→Sl KE 3 d' v' ks→k v' w'):aX prog 92 #[v] k w:=by
 obtain ⟨ka,kc,rfl⟩:=hv.form
 refine ai [.tmp 2] func92 ?_
 refine al ?_
 refine bO (fun b:Nat × Value=>[(3,b.2),(6,.slice ka ks.length kc),(7,.int .i64 ks.length),(8,.int .i64 b.1)])
  (fun b w'=>b.1≤ks.length∧LoopL KE 3 62 d w d w' b.2 (ks.take b.1)) (fun b _=>ks.length - b.1) (0,.slice none 0 0) (by kernel_rfl) ?_ ⟨aQ _,LoopL.nil hinc⟩ ?_
 ·exact bE
 rintro K2 e ⟨i,v⟩ w1 ⟨i2,i3⟩ hK2
 simp only at i2 i3
 by_cases hi:i < ks.length
 ·have hi':(i:Int) < ks.length:=by omega
  obtain ⟨g,f,c,hv',hc,hat⟩:=(hv.inc mh.mono i3.g.x.inc).at (by omega)
  obtain ⟨rfl,rfl⟩:=sEq hv'
  obtain ⟨x,hx⟩:=gEl hi
  obtain ⟨h1,h2,⟨sv,h3,h4⟩,vv,h5,h6⟩:=hat i x hx
  obtain ⟨sa,sc,rfl⟩:=bI h4
  obtain ⟨va,vc,rfl⟩:=bI h6
  simp (disch:=first | exact dZ | fail) only [go_sem,hi',h1,h3,h5,ig (h4.inc (bY.inc (aL _))),ig (h6.inc (bY.inc (aL _)))]
  obtain ⟨w3,hw3⟩:∃ w3,w3=w1.alloc (.cells #[.int .u64 x.tr,.slice sa x.suf.length sc,.slice va x.val.length vc] 256):=⟨_,rfl⟩
  rw [← hw3]
  have i4:=i3.ext KE.mono (w2:=w3) (by rw [hw3]; exact aL _)
  obtain ⟨css,o4⟩:=i4.o
  refine jI x [.int .u64 x.tr,str x.suf,str x.val] rw54 o4 ⟨rfl,h2⟩ rfl (.inl rfl) (by rw [hw3,World.size_alloc]) rfl (by simp [Value.oneCell',str]) (by rw [dB i2]; omega) i4.g.j fun v2 w2 o2 k2 n2 j2 _ => ?_
  refine al ?_
  refine hK2 _ _ (i+1,v2) ?_ ⟨hi,?_⟩ (by simp only; omega)
  ·exact bE
  ·rw [bn hx]
   exact i4.more o2 k2 n2 j2
 ·have hi':¬ (i:Int) < ks.length:=by omega
  refine bf @hi' ?_
  obtain rfl:i=ks.length:=by omega
  rw [aT] at i3
  obtain ⟨d2,g2,_,_,s2⟩:=i3.done KE.mono
  exact hk d2 w1 v g2 s2
theorem my {sv ev kv tv:Value} {x:Sp} (hs:fV w sv x.s) (he:fV w ev x.e) (hv:fI mh 3 w kv x.ks) (ht:∃ n,tv = .int .i8 n) (hl:x.ks.length < 1000000) (hinc:bz d w)
    (hk:∀ d' w' v',Gr d w d' w'→Sl KE 3 d' v' x.ks→k (.agg #[str x.s,str x.e,v']) w'):aX prog 88 #[.agg #[sv,ev,kv,tv]] k w:=by
 obtain ⟨sa,sc,rfl⟩:=bI hs
 obtain ⟨ea,ec,rfl⟩:=bI he
 obtain ⟨ka,kc,rfl⟩:=hv.form
 obtain ⟨tn,rfl⟩:=ht
 have hx:∀ ob ob2,bz w ((w.alloc ob).alloc ob2).drew:=fun ob ob2=>bY.inc (Keep.drew ((aL ob).trans (aL ob2)))
 refine ai [.cell 2 56] func88 ?_
 refine al ?_
 refine ay (sq [0] (.read 1 (.read 2 (sq [3] (.read 4 (.read 5 (sq [6] (.read 7 (.eff 8 [1,2,4,5] (sq [9] (.eff 10 [] .done))))))))))) ?_
 simp (disch:=first | exact dZ | fail) only [go_sem,ig (hs.inc (hx _ _)),ig (he.inc (hx _ _))]
 obtain ⟨w1,hw1⟩:∃ w1,w1=((w.alloc (.cells #[.slice sa x.s.length sc,.slice ea x.e.length ec,.slice ka x.ks.length kc,.int .i8 tn] 114)).alloc (.cells #[.string .empty,.string .empty,.slice none 0 0] 56)).drew:=⟨_,rfl⟩
 rw [← hw1]
 have k1:bY w w1:=by rw [hw1]; exact Keep.drew ((aL _).trans (aL _))
 have z1:w1.heap.size=w.heap.size+2:=by rw [hw1,World.size_drew,World.size_alloc,World.size_alloc]
 obtain ⟨b,hb⟩:∃ b,b=w.heap.size:=⟨_,rfl⟩
 have a0:w1.cell? ⟨b,0,none⟩=some (.slice sa x.s.length sc):=by rw [hw1,hb]; exact bb @aA
 have a1:w1.cell? ⟨b,1,none⟩=some (.slice ea x.e.length ec):=by rw [hw1,hb]; exact bb @aA
 have a2:w1.cell? ⟨b,2,none⟩=some (.slice ka x.ks.length kc):=by rw [hw1,hb]; exact bb @aA
 have b0:w1.cell? ⟨b+1,0,none⟩=some (.string .empty):=by rw [hw1,hb]; exact bb @aA
 have b1:w1.cell? ⟨b+1,1,none⟩=some (.string .empty):=by rw [hw1,hb]; exact bb @aA
 have b2:w1.cell? ⟨b+1,2,none⟩=some (.slice none 0 0):=by rw [hw1,hb]; exact bb @aA
 have f1:∀ o,w1.frozen? ⟨b+1,o,none⟩=false:=fun o=>by rw [hw1,hb]; simp (disch:=first | exact dZ | fail) only [go_sem]
 rw [← hb]
 refine tV (d:=d) (hv.inc mh.mono k1.inc) hl (hinc.trans k1.inc) fun d2 w2 v2 g2 s2 => ?_
 obtain ⟨va,vc,rfl⟩:=s2.form
 have a0:=g2.x.cell a0
 have a1:=g2.x.cell a1
 have a2:=g2.x.cell a2
 have b0:=g2.x.cell b0
 have b1:=g2.x.cell b1
 have b2:=g2.x.cell b2
 have f2:∀ o,w2.frozen? ⟨b+1,o,none⟩=false:=fun o=>by rw [g2.x.frozen _ o (by omega)]; exact f1 o
 have k2:=k1.trans g2.x
 simp (disch:=first | exact dZ | fail) only [go_sem,ig (hs.inc k2.inc),ig (he.inc k2.inc),a0,a1,a2,b0,b1,b2,f2]
 refine hk d2 _ _ ⟨bX (bX (bX k2 (by omega)) (by omega)) (by omega),g2.i,?_,fun c hc ho=>g2.o c (aI hc k1.size) ho⟩ s2
 have ho:cq d2 (b+1):=g2.o _ (by omega) (hinc.out (by omega))
 exact ((g2.j.set ho).set ho).set ho
end
end Go.Proofs
end
section
namespace Go.E
open Go Go.Sort Go.Proofs Go.Proofs.Tryz
section cuts
variable {N:Nat} {P:Program} {st:List SI} {rs:List ResultVar} {k:aq} {e:du} {w:World}
theorem I4 {a b y:Code} {t:Bool} {id:Nat} {β:Type} (sl:β→List (Nat × Value)) (J:β→World→Prop) (ha:dy N (.block id a)=true) (hb:dy N (.block id b)=true)
    (hx:∀ K:du→World→Prop,(∀ (e:du) w b,iH e (sl b)→J b w→K e w)→rp N P (.bool t) a b (.block id :: .inv K :: st) rs k e w)
    (hy:∀ (e:du) b w,J b w→iF N P y st rs k (qv e (sl b)) w):rp N P (.bool t) a b (.block id :: .code y :: st) rs k e w:=by
 cases t
 ·rw [jd,← iN,← lh]
  exact tK sl J hb (fun K hK=>by have:=hx K hK; rwa [jd,← iN] at this) hy
 ·rw [kU,← iN,← lh]
  exact tK sl J ha (fun K hK=>by have:=hx K hK; rwa [kU,← iN] at this) hy
end cuts
def ug (op:Nat) (got:Bool) (last:Nat):Bool :=
 if op=0∨op=1∨op=4∨op=5 then true else if op=2 then got || decide (last=5) || decide (last=3) else if op=3 then got || decide (last=4) || decide (last=2) else false
def mv (V:List Sp) (p:Int) (op:Nat) (key:Bytes):Int :=
 if op=0 then 0 else if op=1 then V.length - 1 else if op=2 then p+1 else if op=3 then p - 1 else if op=4 then gy V key else jT V key
def Bv (V:List Sp) (p:Int):Bool:=decide (0≤p∧p < V.length)
def qE (V:List Sp):Int→Bool→Nat→List (Nat × Bytes)→List (Option Int)
 | _,_,_,[]=>[]
 | p,got,last,(op,key) :: r=>if ug op got last then some (mv V p op key) :: qE V (mv V p op key) (Bv V (mv V p op key)) op r else none :: qE V p got last r
def Ci:gN (Nat × Bytes):=fun _ cs x=>cs=[.int .u8 x.1,str x.2]∧x.1 < 256
theorem Ci.mono:gi Ci:=fun _ _ _ _ _ h=>h
structure An where
 dn:Bool
 ok:Bool
 sp:Sp
 deriving Inhabited
def zZ:gN An:=fun w cs x=>∃ v,cs=[.bool x.dn,.bool x.ok,str x.sp.s,str x.sp.e,v]∧Sl KE 3 w v x.sp.ks
theorem zZ.mono:gi zZ:=fun _ _ _ _ hi ⟨v,h1,h2⟩=>⟨v,h1,h2.inc KE.mono hi⟩
def mz (V:List Sp) (KS:List K→List K→Prop) (o:Option Int) (a:An):Prop:=match o with
 | none=>a=⟨false,false,⟨[],[],[]⟩⟩
 | some p=>a.dn=true∧a.ok=Bv V p∧(∀ i:Nat,p=i→i < V.length→a.sp.s=V[i]!.s∧a.sp.e=V[i]!.e∧KS a.sp.ks V[i]!.ks)∧(Bv V p=false→a.sp=⟨[],[],[]⟩)
abbrev E1 (KS:List K→Prop):List K→List K→Prop:=fun a b=>a.map K.sv=b.map K.sv∧KS a
def Jn (V:List Sp) (KS:List K→List K→Prop) (w:World) (v:Value) (p:Int):Prop :=
 (∀ i:Nat,p=i→i < V.length→∃ ord b o x,v = .pointer (some ⟨b,o,none⟩)∧dK ord w b o x∧x.s=V[i]!.s∧x.e=V[i]!.e∧KS x.ks V[i]!.ks)∧(¬ (0≤p∧p < V.length)→v = .pointer none)
def WK (V:List Sp) (KS:List K→List K→Prop) (R:World→(Nat→Prop)→Int→Prop) (w:World) (N:Nat→Prop) (p:Int) (k:aq):Prop :=
 ∀ w2 N2 v,R w2 N2 p→(∀ b,N2 b→N b∨w.heap.size≤b)→Keep (fun b _=>N b) w w2→Jn V KS w2 v p→k v w2
structure WI (recv:Value) (d:World) (V:List Sp) (pF pL:Prop) (pK:Bytes→Prop) (KS:List K→List K→Prop) (R:World→(Nat→Prop)→Int→Prop):Prop where
 small:∀ i ks,i < V.length→KS ks V[i]!.ks→ks.length < 1000000
 lt:∀ {w N p},R w N p→∀ b,N b→b < w.heap.size∧cq d b
 inc:∀ {w N p},R w N p→bz d w
 keep:∀ {w w2 N p M},R w N p→Keep M w w2→(∀ b x,b < w.heap.size→M b x→¬ N b∧cq d b)→R w2 N p
 first : ∀ {w N p k}, R w N p → pF → WK V KS R w N 0 k → bu prog recv "First" #[] k w
 last : ∀ {w N p k}, R w N p → pL → WK V KS R w N (V.length - 1) k → bu prog recv "Last" #[] k w
 next : ∀ {w N p k}, R w N p → -1 ≤ p → p < V.length → WK V KS R w N (p + 1) k → bu prog recv "Next" #[] k w
 prev : ∀ {w N p k}, R w N p → -1 < p → p ≤ V.length → WK V KS R w N (p - 1) k → bu prog recv "Prev" #[] k w
 seekGE : ∀ {w N p k kv key}, R w N p → pK key → fV w kv key → Iq kv (fun b => ¬ N b) → WK V KS R w N (gy V key) k → bu prog recv "SeekGE" #[kv] k w
 seekLT : ∀ {w N p k kv key}, R w N p → pK key → fV w kv key → Iq kv (fun b => ¬ N b) → WK V KS R w N (jT V key) k → bu prog recv "SeekLT" #[kv] k w
def Pw {α β:Type} (R:α→β→Prop) (l:List α) (m:List β):Prop:=l.length=m.length∧∀ (i:Nat) (x:α) (y:β),l[i]? = some x→m[i]? = some y→R x y
theorem Pw.snoc {α β:Type} {R:α→β→Prop} {l:List α} {m:List β} {x:α} {y:β} (h:Pw R l m) (hx:R x y):Pw R (l++[x]) (m++[y]):=by
 refine ⟨by simp [h.1],fun i a b ha hb => ?_⟩
 have hl:=(aP.1 ha).1
 rw [aM,aY] at hl
 rcases aH i l.length with hi | hi
 ·rw [bG hi] at ha
  rw [bG (by rw [← h.1]; exact hi)] at hb
  exact h.2 i a b ha hb
 ·obtain rfl:i=l.length:=by omega
  rw [bP (aD _),Nat.sub_self] at ha
  rw [h.1,bP (aD _),Nat.sub_self] at hb
  simp only [List.getElem?_cons_zero,aK] at ha hb
  subst ha hb
  exact hx
theorem sO {d a:World} (h:bz d a) {b:Nat} (ho:cq a b):cq d b:=fun o=>by
 cases hc:d.cell? ⟨b,o,none⟩ with
 | none=>rfl
 | some v=>have:=h b o v hc; rw [ho o] at this; simp at this
open Classical in
theorem _root_.Go.E.OwnL.fin {α:Type} {R:gN α} {sz:Nat} {el:TypeId} {a w:World} {v:Value} {l:List α} {css:List (List Value)} (h:OwnL R sz el a w v l css) (hm:gi R) (hi:bz a w) :
    ∃ a2,bz a a2∧bz a2 w∧(∀ b,cq a b→v.ownBlock≠some b→cq a2 b)∧Sl R sz a2 v l:=by
 let D:Nat→Bool:=fun b=>decide (¬ cq a b∨v.ownBlock=some b)
 have hD:∀ b o u,a.cell? ⟨b,o,none⟩=some u→D b=true:=fun b o u hu=>aO (.inl fun ho=>by rw [ho o] at hu; simp at hu)
 have i2:bz a (only w D):=sC hi D hD
 refine ⟨only w D,i2,sA w D,fun b h1 h2=>sB w D (aF fun h=>h.elim (fun h=>h h1) h2),h.sl hm i2 fun b hb o u hu => ?_⟩
 rw [jK,show D b=true from aO (.inr hb),if_pos rfl]
 exact hu
structure Wsw (d w:World) (R:World→(Nat→Prop)→Int→Prop) (N0:Nat→Prop) (v:Value) (w1 a:World) (N:Nat→Prop) (p:Int) (l:List An) (css:List (List Value)):Prop where
 R:R w1 N p
 da:bz d a
 aw:bz a w1
 No:∀ b,N b→cq a b
 o:OwnL zZ 5 58 a w1 v l css
 on:∀ g,v.ownBlock=some g→¬ N g∧w.heap.size≤g
 k:Keep (fun b _=>N0 b) w w1
 n0:∀ b,N b→N0 b∨w.heap.size≤b
 oa:∀ b,b < w.heap.size→cq d b→cq a b
structure Wsp (V:List Sp) (KS:List K→List K→Prop) (steps:List (Nat × Bytes)) (i:Nat) (got:Bool) (last:Nat) (p:Int) (l:List An) (outs:List (Option Int)):Prop where
 wl:qE V (-2) false 0 steps=outs++qE V p got last (steps.drop i)
 pw:Pw (mz V KS) outs l
 len:l.length=i
 g1:got=true→0≤p∧p < V.length
 g2:got=false→last=5∨last=3→p = -1
 g3:got=false→last=4∨last=2→p=V.length
section
variable {recv:Value} {d w w1 w2 a a2:World} {V:List Sp} {pF pL:Prop} {pK:Bytes→Prop} {KS:List K→List K→Prop} {R:World→(Nat→Prop)→Int→Prop} {N0 N N2:Nat→Prop} {v v2:Value} {p p2:Int} {l:List An} {css:List (List Value)}
theorem Wsw.ext (W:WI recv d V pF pL pK KS R) (s:Wsw d w R N0 v w1 a N p l css) (x:bY w1 w2):Wsw d w R N0 v w2 a N p l css :=
 ⟨W.keep s.R x fun _ _ _ h=>h.elim,s.da,s.aw.trans x.inc,s.No,s.o.ext x,s.on,s.k.tr x fun _ _ _ h=>h.elim,s.n0,s.oa⟩
theorem Wsw.op (W:WI recv d V pF pL pK KS R) (s:Wsw d w R N0 v w1 a N p l css) (h:R w2 N2 p2) (hN:∀ b,N2 b→N b∨w1.heap.size≤b) (hk:Keep (fun b _=>N b) w1 w2):Wsw d w R N0 v w2 a N2 p2 l css where
 R:=h
 da:=s.da
 aw:=s.aw.keep hk fun b o hb=>s.No b hb o
 No b hb:=(hN b hb).elim (s.No b) fun h=>s.aw.out h
 o:=s.o.keep hk fun g hg o h=>(s.on g hg).1 h
 on g hg:=⟨fun h=>(hN g h).elim (s.on g hg).1 fun h=>by have:=(s.o.own.lt g hg).2; omega,(s.on g hg).2⟩
 k:=s.k.tr hk fun b o hb hm=>(s.n0 b hm).elim id fun h=>by omega
 n0 b hb:=(hN b hb).elim (s.n0 b) fun h => .inr (aU s.k.size h)
 oa:=s.oa
theorem Wsw.gr (W:WI recv d V pF pL pK KS R) (s:Wsw d w R N0 v w1 a N p l css) (g:Gr a w1 a2 w2):Wsw d w R N0 v w2 a2 N p l css where
 R:=W.keep s.R g.x fun _ _ _ h=>h.elim
 da:=s.da.trans g.i
 aw:=g.j
 No b hb:=g.o b (W.lt s.R b hb).1 (s.No b hb)
 o:=(s.o.ext g.x).ghost zZ.mono g.i fun b hb=>g.o b (s.o.own.lt b hb).2 (s.o.out b hb)
 on:=s.on
 k:=s.k.tr g.x fun _ _ _ h=>h.elim
 n0:=s.n0
 oa b hb ho:=g.o b (aI hb s.k.size) (s.oa b hb ho)
theorem Wsw.app (W:WI recv d V pF pL pK KS R) (s:Wsw d w R N0 v w1 a N p l css) {l2:List An} {css2:List (List Value)} (o:OwnL zZ 5 58 a w2 v2 l2 css2) (k:Keep (fun b _=>v.ownBlock=some b) w1 w2) (n:cZ w1 v v2) (j:bz a w2):Wsw d w R N0 v2 w2 a N p l2 css2 where
 R:=W.keep s.R k fun b x _ hb=>⟨(s.on b hb).1,sO s.da (s.o.out b hb)⟩
 da:=s.da
 aw:=j
 No:=s.No
 o:=o
 on g hg:=by
  rcases n g hg with h | h
  ·exact s.on g h
  ·exact ⟨fun hn=>by have:=(W.lt s.R g hn).1; omega,aU s.k.size h⟩
 k:=s.k.tr k fun b o hb hm=>by have:=(s.on b hm).2; omega
 n0:=s.n0
 oa:=s.oa
end
end Go.E
namespace Go.Proofs
open Go Go.E Go.Sort Go.Proofs.Tryz
section
variable {k:aq} {d w:World}
theorem Bw {op last:Nat} {got:Bool} (hk:k (.bool (ug op got last)) w):aX prog 96 #[.int .u8 op,.bool got,.int .u8 last] k w:=by
 have e0:((op:Int) == 0)=decide (op=0):=by rw [bJ]; simp
 have e1:((op:Int) == 1)=decide (op=1):=by rw [bJ]; simp; omega
 have e2:((op:Int) == 2)=decide (op=2):=by rw [bJ]; simp; omega
 have e3:((op:Int) == 3)=decide (op=3):=by rw [bJ]; simp; omega
 have e4:((op:Int) == 4)=decide (op=4):=by rw [bJ]; simp; omega
 have e5:((op:Int) == 5)=decide (op=5):=by rw [bJ]; simp; omega
 have f2:((last:Int) == 2)=decide (last=2):=by rw [bJ]; simp; omega
 have f3:((last:Int) == 3)=decide (last=3):=by rw [bJ]; simp; omega
 have f4:((last:Int) == 4)=decide (last=4):=by rw [bJ]; simp; omega
 have f5:((last:Int) == 5)=decide (last=5):=by rw [bJ]; simp; omega
 refine ai [.tmp 6] func96 ?_
 by_cases h0:op=0∨op=1∨op=4∨op=5
 ·have ht:ug op got last=true:=by unfold ug; rw [if_pos h0]
  rw [ht] at hk
  rcases h0 with h | h | h | h
  ·simp (disch:=first | exact dZ | fail) only [go_sem,e0,e1,e2,e3,e4,e5,aO (show op=0 by omega),aF (show ¬ op=1 by omega),aF (show ¬ op=2 by omega),aF (show ¬ op=3 by omega),aF (show ¬ op=4 by omega),aF (show ¬ op=5 by omega)]
   exact hk
  ·simp (disch:=first | exact dZ | fail) only [go_sem,e0,e1,e2,e3,e4,e5,aF (show ¬ op=0 by omega),aO (show op=1 by omega),aF (show ¬ op=2 by omega),aF (show ¬ op=3 by omega),aF (show ¬ op=4 by omega),aF (show ¬ op=5 by omega)]
   exact hk
  ·simp (disch:=first | exact dZ | fail) only [go_sem,e0,e1,e2,e3,e4,e5,aF (show ¬ op=0 by omega),aF (show ¬ op=1 by omega),aF (show ¬ op=2 by omega),aF (show ¬ op=3 by omega),aO (show op=4 by omega),aF (show ¬ op=5 by omega)]
   exact hk
  ·simp (disch:=first | exact dZ | fail) only [go_sem,e0,e1,e2,e3,e4,e5,aF (show ¬ op=0 by omega),aF (show ¬ op=1 by omega),aF (show ¬ op=2 by omega),aF (show ¬ op=3 by omega),aF (show ¬ op=4 by omega),aO (show op=5 by omega)]
   exact hk
 ·by_cases h2:op=2
  ·have ht:ug op got last=(got || decide (last=5) || decide (last=3)):=by unfold ug; rw [if_neg h0,if_pos h2]
   rw [ht] at hk
   cases got <;> cases h5:decide (last=5) <;> cases h3:decide (last=3) <;> simp (disch:=first | exact dZ | fail) only [go_sem,e0,e1,e2,e3,e4,e5,f3,f5,aF (show ¬ op=0 by omega),aF (show ¬ op=1 by omega),aO (show op=2 by omega),aF (show ¬ op=3 by omega),aF (show ¬ op=4 by omega),aF (show ¬ op=5 by omega),h5,h3] <;> simpa [h5,h3] using hk
  ·by_cases h3:op=3
   ·have ht:ug op got last=(got || decide (last=4) || decide (last=2)):=by unfold ug; rw [if_neg h0,if_neg h2,if_pos h3]
    rw [ht] at hk
    cases got <;> cases h5:decide (last=4) <;> cases h3':decide (last=2) <;> simp (disch:=first | exact dZ | fail) only [go_sem,e0,e1,e2,e3,e4,e5,f2,f4,aF (show ¬ op=0 by omega),aF (show ¬ op=1 by omega),aF (show ¬ op=2 by omega),aO (show op=3 by omega),aF (show ¬ op=4 by omega),aF (show ¬ op=5 by omega),h5,h3'] <;> simpa [h5,h3'] using hk
   ·have ht:ug op got last=false:=by unfold ug; rw [if_neg h0,if_neg h2,if_neg h3]
    rw [ht] at hk
    simp (disch:=first | exact dZ | fail) only [go_sem,e0,e1,e2,e3,e4,e5,aF (show ¬ op=0 by omega),aF (show ¬ op=1 by omega),aF (show ¬ op=2 by omega),aF (show ¬ op=3 by omega),aF (show ¬ op=4 by omega),aF (show ¬ op=5 by omega)]
    exact hk
set_option maxHeartbeats 1000000 in
theorem tW {rt:TypeId} {rv sv:Value} {V:List Sp} {pF pL:Prop} {pK:Bytes→Prop} {KS:List K→List K→Prop} {R:World→(Nat→Prop)→Int→Prop} {N0:Nat→Prop} {steps:List (Nat × Bytes)}
    (W:WI (.iface rt rv) d V pF pL pK KS R) (h0:R w N0 (-2)) (hs:Sl Ci 2 d sv steps) (hok:∀ x ∈ steps,(x.1=0→pF)∧(x.1=1→pL)∧(x.1=4∨x.1=5→pK x.2)∧x.2.length≤4294967296) (hlen:steps.length < 1000000)
    (hk:∀ a w' v l,bz d a→bz a w'→(∀ b,b < w.heap.size→cq d b→cq a b)→Keep (fun b _=>N0 b) w w'→Sl zZ 5 a v l→Pw (mz V KS) (qE V (-2) false 0 steps) l→k v w'):aX prog 64 #[.iface rt rv,sv] k w:=by
 have hinc:=W.inc h0
 obtain ⟨ka,kc,rfl⟩:=hs.form
 refine ai [.tmp 4] func64 ?_
 refine al ?_
 refine bO (fun b:Nat × Value × Bool × Nat=>[(0,.iface rt rv),(5,b.2.1),(6,.bool b.2.2.1),(7,.int .u8 b.2.2.2),(12,.slice ka steps.length kc),(13,.int .i64 steps.length),(14,.int .i64 b.1)])
  (fun b w'=>b.1≤steps.length∧∃ a N p l css outs,Wsw d w R N0 b.2.1 w' a N p l css∧Wsp V KS steps b.1 b.2.2.1 b.2.2.2 p l outs) (fun b _=>steps.length - b.1) (0,.slice none 0 0,false,0) (by kernel_rfl) ?_ ⟨aQ _,d,N0,-2,[],[],[],?_⟩ ?_
 ·exact bE
 ·exact ⟨⟨h0,bz.refl d,hinc,fun b hb=>(W.lt h0 b hb).2,OwnL.nil eK,by simp [Value.ownBlock],Keep.refl _ w,fun _ h => .inl h,fun _ _ h=>h⟩,by simp,⟨rfl,by simp⟩,rfl,by simp,by simp,by simp⟩
 rintro K2 e ⟨i,v,got,last⟩ w1 ⟨i2,a,N,p,l,css,outs,s,t⟩ hK2
 simp only at i2 s t
 by_cases hi:i < steps.length
 ·have hi':(i:Int) < steps.length:=by omega
  obtain ⟨g,f,c,hv',hc,hat⟩:=(hs.inc Ci.mono (W.inc s.R)).at (by omega)
  obtain ⟨rfl,rfl⟩:=sEq hv'
  obtain ⟨⟨op,key⟩,hx⟩:∃ x,steps[i]? = some x:=⟨_,aC hi⟩
  obtain ⟨cs,_,hcs,rfl,hop⟩:=hat i _ hx
  have h1:w1.cell? ⟨g,f+i * 2,none⟩=some (.int .u8 op):=hcs 0 _ rfl
  have h2:w1.cell? ⟨g,f+i * 2+1,none⟩=some (.string ⟨key.toArray⟩):=hcs 1 _ rfl
  refine eI @hi' @h1 @h2 ?_
  refine Bw ?_
  obtain ⟨sb,hsb⟩:∃ sb,sb=w1.heap.size:=⟨_,rfl⟩
  obtain ⟨w3,hw3⟩:∃ w3,w3=w1.alloc (.cells #[.int .u8 op,.string ⟨key.toArray⟩] 53):=⟨_,rfl⟩
  have x3:bY w1 w3:=by rw [hw3]; exact aL _
  have z3:w3.heap.size=w1.heap.size+1:=by rw [hw3,World.size_alloc]
  have p0:w3.cell? ⟨sb,0,none⟩=some (.int .u8 op):=by rw [hw3,hsb]; exact bb @aA
  have p1:w3.cell? ⟨sb,1,none⟩=some (.string ⟨key.toArray⟩):=by rw [hw3,hsb]; exact bb @aA
  rw [← hw3,← hsb]
  have hdrop:steps.drop i=(op,key) :: steps.drop (i+1):=by
   rw [cN hi]
   congr 1
   rw [aC hi] at hx
   simpa using hx
  have s3:=s.ext W x3
  have hwl:=t.wl
  rw [hdrop] at hwl
  obtain ⟨va,vcap,rfl,_⟩:=s.o.form
  cases ht:ug op got last with
  | false =>
   refine al ?_
   refine jI ⟨false,false,⟨[],[],[]⟩⟩ [.bool false,.bool false,str [],str [],.slice none 0 0] rw33 s3.o ⟨_,rfl,Sl.nil⟩ rfl (.inl rfl) rfl rfl (by simp [Value.oneCell',str]) (by rw [t.len]; omega) s3.aw fun v2 w2 o2 k2 n2 j2 _ => ?_
   refine al ?_
   refine hK2 _ _ (i+1,v2,got,last) ?_ ⟨hi,a,N,p,_,_,outs++[none],s3.app W o2 k2 n2 j2,?_,t.pw.snoc rfl,by simp [t.len],t.g1,t.g2,t.g3⟩ (by simp only; omega)
   ·exact bE
   ·rw [hwl,bt]
    congr 1
    show qE V p got last ((op,key) :: List.drop (i+1) steps)=none :: qE V p got last (List.drop (i+1) steps)
    rw [qE,ht]
    rfl
  | true =>
   have hp2:op=2 → -1≤p∧p < V.length:=fun h=>by
    cases got
    ·have:=t.g2 rfl (by simpa [ug,h] using ht)
     omega
    ·have:=t.g1 rfl
     omega
   have hp3:op=3 → -1 < p∧p≤V.length:=fun h=>by
    cases got
    ·have:=t.g3 rfl (by simpa [ug,h] using ht)
     omega
    ·have:=t.g1 rfl
     omega
   refine bf @p0 ?_
   refine I4 (fun x:Value=>[(0,.iface rt rv),(5,.slice va l.length vcap),(9,.pointer (some ⟨sb,0,none⟩)),(12,.slice (some ⟨g,f,none⟩) steps.length kc),(13,.int .i64 steps.length),(14,.int .i64 i),(10,x)])
    (fun x w'=>∃ N2,Wsw d w R N0 (.slice va l.length vcap) w' a N2 (mv V p op key) l css∧Jn V KS w' x (mv V p op key)∧w'.cell? ⟨sb,0,none⟩=some (.int .u8 op)) (by kernel_rfl) (by kernel_rfl) (fun K3 hK3 => ?_) ?_
   ·have dummy:=0
    have e0:((op:Int) == 0)=decide (op=0):=by rw [bJ]; simp
    have e1:((op:Int) == 1)=decide (op=1):=by rw [bJ]; simp; omega
    have e2:((op:Int) == 2)=decide (op=2):=by rw [bJ]; simp; omega
    have e3:((op:Int) == 3)=decide (op=3):=by rw [bJ]; simp; omega
    have e4:((op:Int) == 4)=decide (op=4):=by rw [bJ]; simp; omega
    have e5:((op:Int) == 5)=decide (op=5):=by rw [bJ]; simp; omega
    have hok:=hok _ (aJ hx)
    simp only at hok
    have nsb:¬ N sb:=fun hn=>by have:=(W.lt s.R sb hn).1; omega
    have hop6:op=0∨op=1∨op=2∨op=3∨op=4∨op=5:=by
     unfold ug at ht
     (repeat' split at ht) <;> first | omega | simp at ht
    rcases hop6 with h | h | h | h | h | h
    ·have hm:mv V p op key=0:=by simp [mv,h]
     rw [hm] at hK3
     simp (disch:=first | exact dZ | fail) only [go_sem,e0,e1,e2,e3,e4,e5,aO (show op=0 by omega),aF (show ¬ op=1 by omega),aF (show ¬ op=2 by omega),aF (show ¬ op=3 by omega),aF (show ¬ op=4 by omega),aF (show ¬ op=5 by omega)]
     refine W.first s3.R (hok.1 h) fun w4 N4 v4 r4 hn4 k4 rs4 => ?_
     refine al ?_
     refine hK3 _ _ v4 ?_ ⟨N4,s3.op W r4 hn4 k4,rs4,k4.some p0 nsb⟩
     exact bE
    ·have hm:mv V p op key=V.length - 1:=by simp [mv,h]
     rw [hm] at hK3
     simp (disch:=first | exact dZ | fail) only [go_sem,e0,e1,e2,e3,e4,e5,aF (show ¬ op=0 by omega),aO (show op=1 by omega),aF (show ¬ op=2 by omega),aF (show ¬ op=3 by omega),aF (show ¬ op=4 by omega),aF (show ¬ op=5 by omega)]
     refine W.last s3.R (hok.2.1 h) fun w4 N4 v4 r4 hn4 k4 rs4 => ?_
     refine al ?_
     refine hK3 _ _ v4 ?_ ⟨N4,s3.op W r4 hn4 k4,rs4,k4.some p0 nsb⟩
     exact bE
    ·have hm:mv V p op key=p+1:=by simp [mv,h]
     rw [hm] at hK3
     have hpn:=hp2 h
     simp (disch:=first | exact dZ | fail) only [go_sem,e0,e1,e2,e3,e4,e5,aF (show ¬ op=0 by omega),aF (show ¬ op=1 by omega),aO (show op=2 by omega),aF (show ¬ op=3 by omega),aF (show ¬ op=4 by omega),aF (show ¬ op=5 by omega)]
     refine W.next s3.R hpn.1 hpn.2 fun w4 N4 v4 r4 hn4 k4 rs4 => ?_
     refine al ?_
     refine hK3 _ _ v4 ?_ ⟨N4,s3.op W r4 hn4 k4,rs4,k4.some p0 nsb⟩
     exact bE
    ·have hm:mv V p op key=p - 1:=by simp [mv,h]
     rw [hm] at hK3
     have hpp:=hp3 h
     simp (disch:=first | exact dZ | fail) only [go_sem,e0,e1,e2,e3,e4,e5,aF (show ¬ op=0 by omega),aF (show ¬ op=1 by omega),aF (show ¬ op=2 by omega),aO (show op=3 by omega),aF (show ¬ op=4 by omega),aF (show ¬ op=5 by omega)]
     refine W.prev s3.R hpp.1 hpp.2 fun w4 N4 v4 r4 hn4 k4 rs4 => ?_
     refine al ?_
     refine hK3 _ _ v4 ?_ ⟨N4,s3.op W r4 hn4 k4,rs4,k4.some p0 nsb⟩
     exact bE
    ·have hm:mv V p op key=gy V key:=by simp [mv,h]
     rw [hm] at hK3
     simp (disch:=first | exact dZ | fail) only [go_sem,e0,e1,e2,e3,e4,e5,aF (show ¬ op=0 by omega),aF (show ¬ op=1 by omega),aF (show ¬ op=2 by omega),aF (show ¬ op=3 by omega),aO (show op=4 by omega),aF (show ¬ op=5 by omega),p1]
     unfold H0
     refine zI Tryz.underlying9 Tryz.underlying107 Tryz.underlying5 (by simp only [ByteArray.size,List.size_toArray]; omega) fun ka kcap w5 hb5 _ x5 _ => ?_
     have s5:=s3.ext W x5
     refine al ?_
     refine W.seekGE s5.R (hok.2.2.1 (by omega)) (by exact hb5) (fun a' n' c' e' hn => ?_) fun w4 N4 v4 r4 hn4 k4 rs4 => ?_
     ·simp only [aW,aK] at e'
      rw [← e'.1] at hn
      have:=(W.lt s.R _ hn).1
      simp only at this
      omega
     refine al ?_
     refine hK3 _ _ v4 ?_ ⟨N4,s5.op W r4 hn4 k4,rs4,k4.some (x5.cell p0) nsb⟩
     exact bE
    ·have hm:mv V p op key=jT V key:=by simp [mv,h]
     rw [hm] at hK3
     simp (disch:=first | exact dZ | fail) only [go_sem,e0,e1,e2,e3,e4,e5,aF (show ¬ op=0 by omega),aF (show ¬ op=1 by omega),aF (show ¬ op=2 by omega),aF (show ¬ op=3 by omega),aF (show ¬ op=4 by omega),aO (show op=5 by omega),p1]
     unfold H0
     refine zI Tryz.underlying9 Tryz.underlying107 Tryz.underlying5 (by simp only [ByteArray.size,List.size_toArray]; omega) fun ka kcap w5 hb5 _ x5 _ => ?_
     have s5:=s3.ext W x5
     refine al ?_
     refine W.seekLT s5.R (hok.2.2.1 (by omega)) (by exact hb5) (fun a' n' c' e' hn => ?_) fun w4 N4 v4 r4 hn4 k4 rs4 => ?_
     ·simp only [aW,aK] at e'
      rw [← e'.1] at hn
      have:=(W.lt s.R _ hn).1
      simp only at this
      omega
     refine al ?_
     refine hK3 _ _ v4 ?_ ⟨N4,s5.op W r4 hn4 k4,rs4,k4.some (x5.cell p0) nsb⟩
     exact bE
   ·rintro e x w4 ⟨N2,s4,r4,p0'⟩
    obtain ⟨P,hP⟩:∃ P,P=mv V p op key:=⟨_,rfl⟩
    rw [← hP] at s4 r4
    have hwl2:qE V (-2) false 0 steps=(outs++[some P])++qE V P (Bv V P) op (steps.drop (i+1)):=by
     rw [hwl,bt]
     congr 1
     show qE V p got last ((op,key) :: List.drop (i+1) steps)=some P :: qE V P (Bv V P) op (List.drop (i+1) steps)
     rw [qE,ht,hP]
     rfl
    by_cases hin:0≤P∧P < V.length
    ·have hiv:Bv V P=true:=aO hin
     rw [hiv] at hwl2
     obtain ⟨j,hj⟩:∃ j:Nat,P=j:=⟨P.toNat,by omega⟩
     obtain ⟨ord,b,o,x,rfl,⟨⟨sv',q0,m0⟩,⟨ev',q1,m1⟩,⟨kv',q2,m2⟩,q3⟩,xs,xe,xks⟩:=r4.1 j hj (by omega)
     obtain ⟨ssa,ssc,rfl⟩:=bI m0
     obtain ⟨eea,eec,rfl⟩:=bI m1
     obtain ⟨kka,kkc,rfl⟩:=m2.form
     obtain ⟨ab,hab⟩:∃ ab,ab=w4.heap.size:=⟨_,rfl⟩
     obtain ⟨w5,hw5⟩:∃ w5,w5=w4.alloc (.cells #[.bool true,.bool false,.string .empty,.string .empty,.slice none 0 0] 58):=⟨_,rfl⟩
     have x5:bY w4 w5:=by rw [hw5]; exact aL _
     have z5:w5.heap.size=ab+1:=by rw [hw5,World.size_alloc,hab]
     have q0:=x5.cell q0
     have q1:=x5.cell q1
     have q2:=x5.cell q2
     have q3:=x5.cell q3
     have c0:w5.cell? ⟨ab,0,none⟩=some (.bool true):=by rw [hw5,hab]; exact bb @aA
     have c1:w5.cell? ⟨ab,1,none⟩=some (.bool false):=by rw [hw5,hab]; exact bb @aA
     have c2:w5.cell? ⟨ab,2,none⟩=some (.string .empty):=by rw [hw5,hab]; exact bb @aA
     have c3:w5.cell? ⟨ab,3,none⟩=some (.string .empty):=by rw [hw5,hab]; exact bb @aA
     have c4:w5.cell? ⟨ab,4,none⟩=some (.slice none 0 0):=by rw [hw5,hab]; exact bb @aA
     have f5:∀ y,w5.frozen? ⟨ab,y,none⟩=false:=fun y=>by rw [hw5,hab]; simp (disch:=first | exact dZ | fail) only [go_sem]
     simp (disch:=first | exact dZ | fail) only [go_sem,Option.isSome_some]
     rw [← hw5,← hab]
     refine fW @q0 @q1 @q2 @q3 ?_
     have s5:=s4.ext W x5
     refine my (d:=a) (m0.inc x5.inc) (m1.inc x5.inc) (m2.inc mh.mono x5.inc) ⟨ord,rfl⟩ (W.small j _ (by omega) xks) s5.aw fun a6 w6 v6 g6 k6 => ?_
     have s6:=s5.gr W g6
     obtain ⟨k6a,k6c,rfl⟩:=k6.form
     have c0:=g6.x.cell c0
     have c1:=g6.x.cell c1
     have c2:=g6.x.cell c2
     have c3:=g6.x.cell c3
     have c4:=g6.x.cell c4
     have p6:=g6.x.cell (x5.cell p0')
     have f6:∀ y,w6.frozen? ⟨ab,y,none⟩=false:=fun y=>by rw [g6.x.frozen _ y (by omega)]; exact f5 y
     simp (disch:=first | exact dZ | fail) only [go_sem,str,c0,c1,c2,c3,c4,f6]
     obtain ⟨w7,hw7⟩:∃ w7,w7=((((w6.setCell ⟨ab,1,none⟩ (.bool true)).setCell ⟨ab,2,none⟩ (.string ⟨x.s.toArray⟩)).setCell ⟨ab,3,none⟩ (.string ⟨x.e.toArray⟩)).setCell ⟨ab,4,none⟩ (.slice k6a x.ks.length k6c)):=⟨_,rfl⟩
     rw [← hw7]
     have o6:cq a6 ab:=g6.o _ (by omega) (s4.aw.out (by omega))
     have x7:bY w4 w7:=by rw [hw7]; exact bX (bX (bX (bX (x5.trans g6.x) (by omega)) (by omega)) (by omega)) (by omega)
     have s7:=s4.gr W (a2:=a6) (w2:=w7) ⟨x7,g6.i,by rw [hw7]; exact (((g6.j.set o6).set o6).set o6).set o6,fun b' hb' ho=>g6.o b' (by have:=x5.size; omega) ho⟩
     have p7:=x7.cell p0'
     have d0:w7.cell? ⟨ab,0,none⟩=some (.bool true):=by rw [hw7]; exact bb @c0
     have d1:w7.cell? ⟨ab,1,none⟩=some (.bool true):=by rw [hw7]; exact bb @c1
     have d2:w7.cell? ⟨ab,2,none⟩=some (.string ⟨x.s.toArray⟩):=by rw [hw7]; exact bb @c2
     have d3:w7.cell? ⟨ab,3,none⟩=some (.string ⟨x.e.toArray⟩):=by rw [hw7]; exact bb @c3
     have d4:w7.cell? ⟨ab,4,none⟩=some (.slice k6a x.ks.length k6c):=by rw [hw7]; exact bb @c4
     have s8:=s7.ext W (w2:=w7.drew) (Keep.refl _ w7).drew
     refine ay (sq [0,1,2] (.read 3 (sq [4,5] .done))) ?_
     simp (disch:=first | exact dZ | fail) only [go_sem,Option.isSome_some,p7,d0,d1,d2,d3,d4]
     refine jI ⟨true,true,x⟩ [.bool true,.bool true,str x.s,str x.e,.slice k6a x.ks.length k6c] rw33 s8.o ⟨_,rfl,k6⟩ rfl (.inl rfl) rfl rfl (by simp [Value.oneCell',str]) (by rw [t.len]; omega) s8.aw fun v2 w2 o2 k2 n2 j2 _ => ?_
     refine al ?_
     refine hK2 _ _ (i+1,v2,true,op) ?_ ⟨hi,a6,N2,P,_,_,outs++[some P],s8.app W o2 k2 n2 j2,hwl2,t.pw.snoc ?_,by simp [t.len],?_,?_,?_⟩ (by simp only; omega)
     ·exact bE
     ·exact ⟨rfl,hiv.symm,fun i' hi1 hi2=>by obtain rfl:i'=j:=(by omega); exact ⟨xs,xe,xks⟩,fun h=>by rw [hiv] at h; cases h⟩
     ·exact fun _=>hin
     ·intro h; cases h
     ·intro h; cases h
    ·have hiv:Bv V P=false:=aF hin
     rw [hiv] at hwl2
     obtain rfl:=r4.2 hin
     obtain ⟨ab,hab⟩:∃ ab,ab=w4.heap.size:=⟨_,rfl⟩
     obtain ⟨w7,hw7⟩:∃ w7,w7=w4.alloc (.cells #[.bool true,.bool false,.string .empty,.string .empty,.slice none 0 0] 58):=⟨_,rfl⟩
     have x7:bY w4 w7:=by rw [hw7]; exact aL _
     have s7:=s4.ext W x7
     have d0:w7.cell? ⟨ab,0,none⟩=some (.bool true):=by rw [hw7,hab]; exact bb @aA
     have d1:w7.cell? ⟨ab,1,none⟩=some (.bool false):=by rw [hw7,hab]; exact bb @aA
     have d2:w7.cell? ⟨ab,2,none⟩=some (.string .empty):=by rw [hw7,hab]; exact bb @aA
     have d3:w7.cell? ⟨ab,3,none⟩=some (.string .empty):=by rw [hw7,hab]; exact bb @aA
     have d4:w7.cell? ⟨ab,4,none⟩=some (.slice none 0 0):=by rw [hw7,hab]; exact bb @aA
     have p7:=x7.cell p0'
     simp (disch:=first | exact dZ | fail) only [go_sem,Option.isSome_none]
     rw [← hw7,← hab]
     have s8:=s7.ext W (w2:=w7.drew) (Keep.refl _ w7).drew
     refine ay (sq [0,1,2] (.read 3 (sq [4,5] .done))) ?_
     simp (disch:=first | exact dZ | fail) only [go_sem,Option.isSome_none,p7,d0,d1,d2,d3,d4]
     refine jI ⟨true,false,⟨[],[],[]⟩⟩ [.bool true,.bool false,str [],str [],.slice none 0 0] rw33 s8.o ⟨_,rfl,Sl.nil⟩ rfl (.inl rfl) rfl rfl (by simp [Value.oneCell',str]) (by rw [t.len]; omega) s8.aw fun v2 w2 o2 k2 n2 j2 _ => ?_
     refine al ?_
     refine hK2 _ _ (i+1,v2,false,op) ?_ ⟨hi,a,N2,P,_,_,outs++[some P],s8.app W o2 k2 n2 j2,hwl2,t.pw.snoc ?_,by simp [t.len],?_,?_,?_⟩ (by simp only; omega)
     ·exact bE
     ·exact ⟨rfl,hiv.symm,fun i' hi1 hi2=>absurd ⟨by omega,by omega⟩ hin,fun _=>rfl⟩
     ·intro h; cases h
     ·rintro _ (h | h)
      ·have h:op=5:=h
       have hm:mv V p op key=jT V key:=by rw [h]; rfl
       rw [hP,hm] at hin
       rw [hP,hm]
       have:=Bt V key
       omega
      ·have h:op=3:=h
       have hm:mv V p op key=p - 1:=by rw [h]; rfl
       rw [hP,hm] at hin
       rw [hP,hm]
       have:=hp3 h
       omega
     ·rintro _ (h | h)
      ·have h:op=4:=h
       have hm:mv V p op key=gy V key:=by rw [h]; rfl
       rw [hP,hm] at hin
       rw [hP,hm]
       have:=Bs V key
       omega
      ·have h:op=2:=h
       have hm:mv V p op key=p+1:=by rw [h]; rfl
       rw [hP,hm] at hin
       rw [hP,hm]
       have:=hp2 h
       omega
 ·have hi':¬ (i:Int) < steps.length:=by omega
  refine bf @hi' ?_
  have hii:i=steps.length:=by omega
  have hwl:=t.wl
  rw [hii,List.drop_length] at hwl
  rw [show qE V p got last []=[] by cases got <;> rfl,au] at hwl
  have pw:=t.pw
  rw [← hwl] at pw
  obtain ⟨a2,b1,b2,b3,b4⟩:=s.o.fin zZ.mono s.aw
  exact hk a2 w1 v l (s.da.trans b1) b2 (fun b hb ho=>b3 b (s.oa b hb ho) fun hv=>by have:=(s.on b hv).2; omega) s.k b4 pw
end
end Go.Proofs
end
section
namespace Go.E
open Go Go.Sort Go.Proofs
def dN (Y:DX) (U Bf:Nat) (T:Nat→Nat→Prop) (D S:Nat→Prop):Nat→Prop:=fun b=>b=U∨b=Bf∨(∃ x,T b x)∨D b∨S b
theorem I5 {Y:DX} {U Bf:Nat} {T:Nat→Nat→Prop} {D S:Nat→Prop} {b x:Nat} (h:eM Y U Bf T D S b x):dN Y U Bf T D S b:=by
 rcases h with h | h | ⟨h,_⟩ | ⟨h,_⟩ | h
 ·exact .inr (.inr (.inl ⟨x,h⟩))
 ·exact .inr (.inr (.inr (.inr h)))
 ·exact .inl h
 ·exact .inr (.inl h)
 ·exact .inr (.inr (.inr (.inl h)))
def I6 (d:World) (Y:DX) (U Bf C pb po:Nat) (rt:TypeId) (rv:Value) (G:List Sp) (T:Nat→Nat→Prop) (R:World→(Nat→Prop)→Int→Prop) (w:World) (N:Nat→Prop) (p:Int):Prop:=∃ D S,De d Y U Bf C pb po rt rv G T R w D S p∧N=dN Y U Bf T D S
section
variable {d w w2:World} {Y:DX} {U Bf C pb po:Nat} {rt:TypeId} {rv:Value} {G:List Sp} {pF pL:Prop} {pK:Bytes→Prop} {T:Nat→Nat→Prop} {R:World→(Nat→Prop)→Int→Prop} {D S N:Nat→Prop} {p:Int} {k:aq} {KS:List K→List K→Prop}
theorem De.inc (dc:DC d Y U Bf C pb po rt rv G pF pL pK T R) (h:De d Y U Bf C pb po rt rv G T R w D S p):bz d w:=by
 obtain ⟨Q,vc,vk,vb,xs,xb,cc,lk,is,ps,q,st,_⟩:=h
 exact dc.f.inc st.R
theorem De.lt (dc:DC d Y U Bf C pb po rt rv G pF pL pK T R) (hT:∀ b x,T b x→cq d b) (h:De d Y U Bf C pb po rt rv G T R w D S p):∀ b,dN Y U Bf T D S b→b < w.heap.size∧cq d b:=by
 obtain ⟨Q,vc,vk,vb,xs,xb,cc,lk,is,ps,q,st,_⟩:=h
 rintro b (rfl | rfl | ⟨x,h⟩ | h | h)
 ·exact ⟨aE st.p.d81,dc.oU⟩
 ·exact ⟨aE st.r.ch,dc.oB⟩
 ·exact ⟨dc.tl st.R h,hT b x h⟩
 ·exact ⟨(st.r.dD b h).1,(st.r.dD b h).2.2.2.2.2⟩
 ·exact (dc.f.outS st.R b h).symm
theorem De.keep (dc:DC d Y U Bf C pb po rt rv G pF pL pK T R) {M:Nat→Nat→Prop} (h:De d Y U Bf C pb po rt rv G T R w D S p) (hk:Keep M w w2) (hM:∀ b x,b < w.heap.size→M b x→¬ dN Y U Bf T D S b∧cq d b):De d Y U Bf C pb po rt rv G T R w2 D S p:=by
 obtain ⟨Q,vc,vk,vb,xs,xb,cc,lk,is,ps,q,st,hd⟩:=h
 have hU:=aE st.p.d81
 have hB:=aE st.r.ch
 refine ⟨Q,vc,vk,vb,xs,xb,cc,lk,is,ps,q,⟨dc.f.keep st.R hk fun b x hb hm => ?_,st.p.keep hB hk fun x _ _ hm=>(hM _ _ hU hm).1 (.inl rfl),st.r.keep hk (fun x _ _ hm=>(hM _ _ hB hm).1 (.inr (.inl rfl))) fun g hg x hm=>(hM _ _ (st.r.dD g hg).1 hm).1 (.inr (.inr (.inr (.inl hg))))⟩,hd⟩
 obtain ⟨a,b'⟩:=hM b x hb hm
 exact ⟨fun h=>a (.inr (.inr (.inl ⟨x,h⟩))),fun h=>a (.inr (.inr (.inr (.inr h)))),b' x⟩
theorem DLt.dN {w w2:World} {D2 S2:Nat→Prop} (h:DLt w w2 Y U Bf T D S D2 S2):(∀ b,dN Y U Bf T D2 S2 b→dN Y U Bf T D S b∨w.heap.size≤b)∧Keep (fun b _=>dN Y U Bf T D S b) w w2:=by
 refine ⟨fun b hb => ?_,h.k.mono fun b x _ hm=>I5 hm⟩
 rcases hb with h1 | h1 | h1 | h1 | h1
 ·exact .inl (.inl h1)
 ·exact .inl (.inr (.inl h1))
 ·exact .inl (.inr (.inr (.inl h1)))
 ·rcases h.d b h1 with h2 | h2
  ·exact .inl (.inr (.inr (.inr (.inl h2))))
  ·exact .inr h2
 ·rcases h.s b h1 with h2 | h2
  ·exact .inl (.inr (.inr (.inr (.inr h2))))
  ·exact .inr h2
theorem G9 (hKS:∀ j i,j < G.length→i < (cr Y.π G).length→G[j]!.ks.map Y.π=(Vw Y.π G)[i]!.ks.map Y.π→KS G[j]!.ks (Vw Y.π G)[i]!.ks) {v:Value} (h:Rs Y G w v p):Jn (Vw Y.π G) KS w v p:=by
 refine ⟨fun i hi hl => ?_,fun hn=>h.2 fun hh=>hn (by rw [dt]; exact hh)⟩
 rw [dt] at hl
 obtain ⟨b,o,x,e1,e2,e3,e4,e5,j,hj,e6⟩:=h.1 i hi hl
 exact ⟨_,b,o,x,e1,e2,e3,e4,by rw [e6] at e5 ⊢; exact hKS j i hj hl e5⟩
theorem za (hKS:∀ j i,j < G.length→i < (cr Y.π G).length→G[j]!.ks.map Y.π=(Vw Y.π G)[i]!.ks.map Y.π→KS G[j]!.ks (Vw Y.π G)[i]!.ks) (hk:WK (Vw Y.π G) KS (I6 d Y U Bf C pb po rt rv G T R) w (dN Y U Bf T D S) p k):G7 d Y U Bf C pb po rt rv G T R w D S p k :=
 fun w2 D2 S2 v h2 l2 r2=>hk w2 (dN Y U Bf T D2 S2) v ⟨D2,S2,h2,rfl⟩ l2.dN.1 l2.dN.2 (G9 hKS r2)
set_option maxRecDepth 8000 in
theorem K8 (hKL:∀ a b,KS a b→a.length=b.length) (dc:DC d Y U Bf C pb po rt rv G pF pL pK T R) (hT:∀ b x,T b x→cq d b) (hKS:∀ j i,j < G.length→i < (cr Y.π G).length→G[j]!.ks.map Y.π=(Vw Y.π G)[i]!.ks.map Y.π→KS G[j]!.ks (Vw Y.π G)[i]!.ks):WI (.iface 229 (.pointer (some ⟨U,Y.a,none⟩))) d (Vw Y.π G) pF False (fun _=>False) KS (I6 d Y U Bf C pb po rt rv G T R) where
 small i ks hi hks:=by
  rw [hKL _ _ hks]
  rw [dt] at hi
  rw [kF hi]
  have:=(dc.len _ (gF hi).1).2.2.1
  exact aI this (by decide)
 lt h:=by obtain ⟨D,S,h,rfl⟩:=h; exact h.lt dc hT
 inc h:=by obtain ⟨D,S,h,rfl⟩:=h; exact h.inc dc
 keep h hk hM:=by obtain ⟨D,S,h,rfl⟩:=h; exact ⟨D,S,h.keep dc hk hM,rfl⟩
 first h hF hk:=by
  obtain ⟨D,S,h,rfl⟩:=h
  rw [Tryz.iv229_First]
  exact zY dc h hF (za hKS hk)
 last _ h _:=h.elim
 next h h1 h2 hk:=by
  obtain ⟨D,S,h,rfl⟩:=h
  rw [Tryz.iv229_Next]
  exact Bp dc h h1 (by rw [← dt]; exact h2) (za hKS hk)
 prev h h1 _ hk:=by
  obtain ⟨D,S,h,rfl⟩:=h
  rw [Tryz.iv229_Prev]
  exact Bu dc h h1 (za hKS hk)
 seekGE _ h _ _ _:=h.elim
 seekLT _ h _ _ _:=h.elim
end
end Go.E
end
