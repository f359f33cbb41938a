/- Parts of the proof: Fb, Fc, Vm, Vn, Fd. -/
import Derived.Test.YtjcbeinpkafjiaaGreatW24
set_option linter.all false
set_option maxRecDepth 10000
section
namespace Go.E
open Go Go.Sort Go.Proofs Go.Proofs.Tryz
theorem Eo {d:World}:∀ {l:List Sp} {css:List (List Value)},css.length=l.length→(∀ (i:Nat) (x:Sp) (cs:List Value),l[i]? = some x→css[i]? = some cs→xu d cs x)→∃ rs:List SR,rs.map SR.x=l∧css.flatten=jd rs∧∀ r ∈ rs,r.good d:=by
 intro l
 induction l with
 | nil =>
  intro css h _
  obtain rfl:css=[]:=aZ.1 h
  exact ⟨[],rfl,rfl,by simp⟩
 | cons x l ih =>
  intro css h hR
  match css,h with
  | cs :: css,h =>
   obtain ⟨rs,h1,h2,h3⟩:=ih (css:=css) (by simpa using h) fun i y c hy hc=>hR (i+1) y c (by simpa using hy) (by simpa using hc)
   obtain ⟨a,b,v,rfl,q1,q2,q3,q4,q5⟩:=hR 0 x cs rfl rfl
   refine ⟨⟨x,a,b,v⟩ :: rs,by rw [List.map_cons,h1],by rw [List.flatten_cons,h2]; rfl,fun r hr => ?_⟩
   rcases al.1 hr with rfl | hr
   ·exact ⟨q2,q4,q1,q3,q5⟩
   ·exact h3 r hr
theorem LoopL.rows {d w d1 w1:World} {v:Value} {l:List Sp} (h:LoopL xu 4 114 d w d1 w1 v l):∃ rs:List SR,rs.map SR.x=l∧w1.ownsRow 0 114 4 v rs.length (jd rs)∧(∀ r ∈ rs,r.good d1)∧∀ g,v.ownBlock=some g→cx d1 g∧w.heap.size≤g:=by
 obtain ⟨css,o⟩:=h.o
 obtain ⟨rs,h1,h2,h3⟩:=Eo o.len o.R
 refine ⟨rs,h1,?_,h3,fun g hg=>⟨o.out g hg,h.n g hg⟩⟩
 have:=o.own
 rw [h2] at this
 rwa [← h1,aS] at this
theorem AI {d:World} {kv:Value} {ks:List K} (h:Sl KB 3 d kv ks):fC ku 3 d kv ks:=fC.imp h fun _ _ _ _ h=>KB.key h
theorem SR.good.inc {d d2:World} {r:SR} (h:r.good d) (hi:cN d d2):r.good d2:=⟨h.1.inc hi,h.2.1.inc hi,h.2.2.1,h.2.2.2.1,h.2.2.2.2.inc KB.mono hi⟩
end Go.E
namespace Go.Proofs
open Go Go.E Go.Sort Go.Proofs.Tryz
section
variable {k:au} {d w:World}
theorem zM {v:Value} {l:List Sp} (hv:Sl eJ 3 d v l) (hl:l.length < 1000000) (hlen:∀ x ∈ l,wm x) (hinc:cN d w) (hk:∀ d' w' v',LoopL xu 4 114 d w d' w' v' l→k v' w'):aX prog 86 #[v] k w:=by
 obtain ⟨ka,kc,rfl⟩:=hv.form
 refine ae [.tmp 2] func86 ?_
 refine an ?_
 refine bR (fun b:Nat × Value=>[(3,b.2),(6,.slice ka l.length kc),(7,.int .i64 l.length),(8,.int .i64 b.1)])
  (fun b w'=>b.1≤l.length∧∃ d1,LoopL xu 4 114 d w d1 w' b.2 (l.take b.1)) (fun b _=>l.length - b.1) (0,.slice none 0 0) (by kernel_rfl) ?_ ⟨aP _,d,LoopL.nil hinc⟩ ?_
 ·exact bO
 rintro K2 e ⟨i,v⟩ w1 ⟨i2,d1,i3⟩ hK2
 simp only at i2 i3
 rcases aG i l.length with hi | hi
 rotate_left
 ·have hi':¬ (i:Int) < l.length:=by omega
  refine bf @hi' ?_
  obtain rfl:i=l.length:=by omega
  rw [ah] at i3
  exact hk d1 w1 v i3
 have hi':(i:Int) < l.length:=by omega
 obtain ⟨g,f,c,hv',hc,hat⟩:=(hv.inc eJ.mono i3.g.i).at (by omega)
 obtain ⟨rfl,rfl⟩:=sEq hv'
 obtain ⟨x,hx⟩:=gEl hi
 obtain ⟨cs,_,hcs,hR⟩:=hat i x hx
 have hmem:=aK hx
 obtain ⟨kv,rfl,hkv⟩:=hR
 obtain ⟨kva,kvc,rfl⟩:=hkv.form
 have h0:w1.cell? ⟨g,f+i * 3,none⟩=some (.string ⟨x.s.toArray⟩):=i3.g.j _ _ _ (hcs 0 _ rfl)
 have h1:w1.cell? ⟨g,f+i * 3+1,none⟩=some (.string ⟨x.e.toArray⟩):=i3.g.j _ _ _ (hcs 1 _ rfl)
 have h2:w1.cell? ⟨g,f+i * 3+2,none⟩=some (.slice kva x.ks.length kvc):=i3.g.j _ _ _ (hcs 2 _ rfl)
 refine fI @hi' @h0 @h1 @h2 ?_
 have x3:bj w1 (w1.alloc (.cells #[.string ⟨x.s.toArray⟩,.string ⟨x.e.toArray⟩,.slice kva x.ks.length kvc] 56)):=aM _
 have i4:=i3.ext xu.mono x3
 refine r8 hkv (hlen x hmem) i4.g.j fun d4 w4 sa ea v4 g4 s1 s2 s3 s4 s5 => ?_
 have i5:=i4.call xu.mono g4
 obtain ⟨sa',sc',rfl⟩:=ak s2
 obtain ⟨ea',ec',rfl⟩:=ak s4
 obtain ⟨va,vcap,rfl,_⟩:=i5.form
 obtain ⟨k4,c4,rfl⟩:=s5.form
 refine an ?_
 obtain ⟨css,o5⟩:=i5.o
 refine ju x [.slice sa' x.s.length sc',.slice ea' x.e.length ec',.slice k4 x.ks.length c4,.int .i8 0] rw195 o5 ⟨_,_,_,rfl,s1,s2,s3,s4,s5⟩ rfl (.inl rfl) rfl rfl (by simp [Value.oneCell']) (by rw [dS i2]; omega) i5.g.j fun v2 w2 o2 k2 n2 j2 _ => ?_
 refine an ?_
 refine hK2 _ _ (i+1,v2) ?_ ⟨hi,d4,?_⟩ (by simp only; omega)
 ·exact bO
 ·rw [bw hx]
  exact i5.more o2 k2 n2 j2
theorem xX {v:Value} {l:List SR} (h:w.ownsRow 0 114 4 v l.length (jd l)) (hg:∀ r ∈ l,r.good d) (hinc:cN d w) (hne:∀ g,v.ownBlock=some g→cx d g) (hz:l.length < 1000000)
    (hk:∀ w' l',w'.ownsRow 0 114 4 v l'.length (jd l')→l'.Perm l→l'.Pairwise (fun x y=>¬ y.x.s < x.x.s)→Keep (fun b _=>v.ownBlock=some b) w w'→k (.tuple #[]) w') :
    aX prog 87 #[.func (.func 102) #[] #[],v] k w:=by
 obtain ⟨va,vc,rfl,_⟩:=ao h
 have hlt:∀ g,(Value.slice va l.length vc).ownBlock=some g→g < w.heap.size:=fun g hg=>by
  rcases cR h with ⟨e,_,_⟩ | ⟨g2,cap,e,_,hg2⟩
  ·rw [e] at hg; simp [Value.ownBlock] at hg
  ·rw [e] at hg; simp only [Value.ownBlock,aL] at hg; omega
 refine ae [] func87 ?_
 refine dU @aA @dA ?_
 have x1:=aM (w:=w) (.cells #[.func (.func 102) #[] #[],.slice va l.length vc] 247)
 have c0:(w.alloc (.cells #[.func (.func 102) #[] #[],.slice va l.length vc] 247)).cell? ⟨w.heap.size,0,none⟩=some (.func (.func 102) #[] #[]):=by exact bk @aA
 have c1:(w.alloc (.cells #[.func (.func 102) #[] #[],.slice va l.length vc] 247)).cell? ⟨w.heap.size,0+1,none⟩=some (.slice va l.length vc):=by exact bk @aA
 refine xS (d:=d) ⟨c1,h.alloc _,hg⟩ c0 (hinc.trans x1.inc) (fun g hg=>⟨by have:=hlt g hg; omega,hne g hg⟩) hz fun w' l' o hp hs kk => ?_
 refine an ?_
 refine hk w' l' o.own hp (hs.imp fun {a b} h=>of_decide_eq_false h) (x1.keep.trans kk)
theorem vI {v:Value} {l:List Sp} (hv:Sl eJ 3 d v l) (hl:l.length < 1000000) (hlen:∀ x ∈ l,wm x) (hinc:cN d w) (hk:∀ d' w' v' l',Gr d w d' w'→Sl eJ 3 d' v' l'→l'.Perm l→l'.Pairwise (fun a b=>¬ b.s < a.s)→k v' w'):aX prog 52 #[v] k w:=by
 obtain ⟨ka,kc,rfl⟩:=hv.form
 refine ae [.tmp 2] func52 ?_
 refine an ?_
 refine zM hv hl hlen hinc fun d1 w1 v1 i1 => ?_
 obtain ⟨rs,hrs,own1,good1,out1⟩:=i1.rows
 have hrl:rs.length=l.length:=by rw [← hrs,aS]
 obtain ⟨va,vc,rfl,_⟩:=ao own1
 refine an ?_
 refine ez ?_
 have x2:=aM (w:=w1) pZ
 refine an ?_
 have c0:(w1.alloc pZ).cell? ⟨w1.heap.size,0,none⟩=some (.func (.func 102) #[] #[]):=by
  unfold pZ
  exact bk @aA
 refine bf @c0 ?_
 have g12:Gr d w d1 (w1.alloc pZ):=i1.g.trans (Gr.ext i1.g.j x2)
 refine xX (l:=rs) (aT own1 x2 fun _ _ _ h=>h) good1 g12.j (fun g hg=>(out1 g hg).1) (by omega) fun w3 ls own3 hp hs kk => ?_
 have g3:Gr d w d1 w3:=g12.mut kk fun b o hb=>⟨(out1 b hb).2,(out1 b hb).1⟩
 have hlsl:ls.length=l.length:=by rw [hp.length_eq,hrl]
 obtain ⟨L,hL⟩:∃ L,L=ls.map SR.x:=⟨_,rfl⟩
 have hLl:L.length=l.length:=by rw [hL,aS,hlsl]
 have hLp:L.Perm l:=by rw [hL,← hrs]; exact hp.map _
 have hLs:L.Pairwise fun a b=>¬ b.s < a.s:=by rw [hL,List.pairwise_map]; exact hs
 have eva:(.slice va rs.length vc:Value) = .slice va L.length vc:=by rw [hrl,hLl]
 have own3:w3.ownsRow 0 114 4 (.slice va L.length vc) ls.length (jd ls):=by rw [← eva]; exact own3
 rw [eva]
 refine an ?_
 refine bR (fun b:Nat × Value=>[(4,b.2),(15,.slice va L.length vc),(16,.int .i64 L.length),(17,.int .i64 b.1)])
  (fun b w'=>b.1≤L.length∧∃ d2,LoopL eJ 3 56 d1 w3 d2 w' b.2 (L.take b.1)) (fun b _=>L.length - b.1) (0,.slice none 0 0) (by kernel_rfl) ?_ ⟨aP _,d1,LoopL.nil g3.j⟩ ?_
 ·exact bO
 rintro K2 e ⟨i,vo⟩ w4 ⟨i2,d2,i3⟩ hK2
 simp only at i2 i3
 rcases aG i L.length with hi | hi
 rotate_left
 ·have hi':¬ (i:Int) < L.length:=by omega
  refine bf @hi' ?_
  obtain rfl:i=L.length:=by omega
  rw [ah] at i3
  obtain ⟨d5,g5,_,_,s5⟩:=i3.done eJ.mono
  exact hk d5 w4 vo L (g3.trans g5) s5 hLp hLs
 have hi':(i:Int) < L.length:=by omega
 have hlenL:ls.length=L.length:=by rw [hlsl,hLl]
 have hown:=cR own3
 obtain ⟨g,rfl,hgl⟩:∃ g,va=some ⟨g,0,none⟩∧g < w3.heap.size:=by
  rcases hown with ⟨e,h0,_⟩ | ⟨g,cap,e,_,hg⟩
  ·omega
  ·obtain ⟨rfl,_⟩:va=some ⟨g,0,none⟩∧L.length=ls.length∧vc=cap:=by simpa using e
   exact ⟨g,rfl,hg⟩
 obtain ⟨r,hr⟩:∃ r,ls[i]? = some r:=⟨_,aC (by omega)⟩
 have hx:L[i]? = some r.x:=by rw [hL,br,hr]; rfl
 have hrg:=good1 r (hp.mem_iff.1 (aK hr))
 have own3':w3.ownsRow 0 114 4 (.slice (some ⟨g,0,none⟩) ls.length vc) ls.length (jd ls):=by rw [hlenL] at own3 ⊢; exact own3
 obtain ⟨f0,f1,f2,f3⟩:=pq hr
 have h0:=i3.g.x.cell (bL own3' f0)
 have h1:=i3.g.x.cell (bL own3' f1)
 have h2:=i3.g.x.cell (bL own3' f2)
 have h3:=i3.g.x.cell (bL own3' f3)
 obtain ⟨q1,q2,q3,q4,q5⟩:=hrg.inc i3.g.i
 obtain ⟨sa,sc,e1⟩:=ak q1
 obtain ⟨ea,ec,e2⟩:=ak q2
 obtain ⟨na,nc,e3⟩:=q5.form
 rw [e1] at h0 q1
 rw [e2] at h1 q2
 rw [e3] at h2 q5
 obtain ⟨w5,hw5⟩:∃ w5,w5=w4.alloc (.cells #[.slice sa r.x.s.length sc,.slice ea r.x.e.length ec,.slice na r.x.ks.length nc,.int .i8 0] 114):=⟨_,rfl⟩
 have x5:bj w4 w5:=by rw [hw5]; exact aM _
 have i5:=i3.ext eJ.mono x5
 have hlx:=hlen r.x (hLp.mem_iff.1 (aK hx))
 refine pI @hi' @h0 @h1 @h2 @h3 @aA ?_
 rw [← hw5]
 refine jv (x:=r.x) (q1.inc i5.g.j) (q2.inc i5.g.j) (AI (q5.inc KB.mono i5.g.j)) ⟨0,rfl⟩ hlx.2.2.1 i5.g.j fun d6 w6 v6 g6 s6 => ?_
 have i6:=i5.call eJ.mono g6
 obtain ⟨css,o6⟩:=i6.o
 obtain ⟨wa,wcap,rfl,_⟩:=i6.form
 obtain ⟨k6,c6,rfl⟩:=s6.form
 refine an ?_
 refine ju r.x [.string ⟨r.x.s.toArray⟩,.string ⟨r.x.e.toArray⟩,.slice k6 r.x.ks.length c6] rw74 o6 ⟨_,rfl,s6⟩ rfl (.inl rfl) rfl rfl (by simp [Value.oneCell']) (by rw [dS i2]; omega) i6.g.j fun v7 w7 o7 k7 n7 j7 _ => ?_
 refine an ?_
 refine hK2 _ _ (i+1,v7) ?_ ⟨hi,d6,?_⟩ (by simp only; omega)
 ·exact bO
 ·rw [bw hx]
  exact i6.more o7 k7 n7 j7
end
end Go.Proofs
end
section
namespace Go.E
open Go Go.Sort Go.Proofs Go.Proofs.Tryz
structure EmO (d w:World) (O A:Nat) (vo:Value) (out:List Sp):Prop where
 cA:w.cell? ⟨A,0,none⟩=some (.pointer (some ⟨O,0,none⟩))
 cO:w.cell? ⟨O,0,none⟩=some vo
 fO:∀ y,w.frozen? ⟨O,y,none⟩=false
 oo:∃ css,OwnL eJ 3 56 d w vo out css
theorem EmO.keep {d w w2:World} {O A:Nat} {vo:Value} {out:List Sp} {M:Nat→Nat→Prop} (h:EmO d w O A vo out) (k:Keep M w w2) (h1:¬ M A 0) (h2:¬ M O 0) (h3:∀ g,vo.ownBlock=some g→∀ o,¬ M g o):EmO d w2 O A vo out:=by
 obtain ⟨css,o⟩:=h.oo
 exact ⟨k.some h.cA h1,k.some h.cO h2,fun y=>by rw [k.frozen O y (aD h.cO)]; exact h.fO y,css,o.keep k h3⟩
structure Gk (M:Nat→Nat→Prop) (d w d2 w2:World):Prop where
 k:Keep M w w2
 i:cN d d2
 j:cN d2 w2
 o:∀ b,b < w.heap.size→cx d b→cx d2 b
theorem Gk.trans {M M1 M2:Nat→Nat→Prop} {d w d1 w1 d2 w2:World} (h:Gk M1 d w d1 w1) (h2:Gk M2 d1 w1 d2 w2) (m1:∀ b o,b < w.heap.size→M1 b o→M b o) (m2:∀ b o,b < w.heap.size→M2 b o→M b o):Gk M d w d2 w2 :=
 ⟨(h.k.mono m1).tr h2.k m2,h.i.trans h2.i,h2.j,fun b hb ho=>h2.o b (aI hb h.k.size) (h.o b hb ho)⟩
theorem Gk.gr {M:Nat→Nat→Prop} {d w d2 w2:World} (h:Gr d w d2 w2):Gk M d w d2 w2:=⟨h.x.keep,h.i,h.j,h.o⟩
end Go.E
namespace Go.Proofs
open Go Go.E Go.Sort Go.Proofs.Tryz
section
variable {k:au} {d w:World}
theorem Do {O A:Nat} {vo sv ev kv:Value} {out:List Sp} {x:Sp} (e:EmO d w O A vo out) (hinc:cN d w) (hoO:cx d O) (hs:eN w sv x.s) (he:eN w ev x.e) (hv:fC ku 3 w kv x.ks) (hl:x.ks.length < 1000000) (hol:out.length < 100000)
    (nO:vo.ownBlock≠some O) (nA:vo.ownBlock≠some A) (hAO:A≠O)
    (hk:∀ d2 w2 vo2,EmO d2 w2 O A vo2 (out++[x])→Gk (fun b o=>b=O∧o=0∨vo.ownBlock=some b) d w d2 w2→cP w vo vo2→k (.tuple #[]) w2) :
    aX prog 117 #[.agg #[sv,ev,kv,.int .i8 0],.pointer (some ⟨A,0,none⟩)] k w:=by
 obtain ⟨sa,sc,rfl⟩:=ak hs
 obtain ⟨ea,ec,rfl⟩:=ak he
 obtain ⟨na,nc,rfl⟩:=hv.form
 obtain ⟨css,oo⟩:=e.oo
 obtain ⟨oa,oc,rfl,_⟩:=oo.form
 refine ae [] func117 ?_
 refine an ?_
 refine ay (.read 0 (.read 1 (sq [2] (.read 3 (.read 4 (.eff 5 [0,1,3] (.eff 6 [0,1,3] (.eff 7 [0] (sq [8] (.eff 9 [] .done)))))))))) ?_
 obtain ⟨W,hW⟩:∃ W,W=(w.alloc (.cells #[.slice sa x.s.length sc,.slice ea x.e.length ec,.slice na x.ks.length nc,.int .i8 0] 114)).drew:=⟨_,rfl⟩
 have xW:bj w W:=by rw [hW]; exact bj.drew' (aM _)
 have cA:=xW.cell e.cA
 have cO:=xW.cell e.cO
 have fO:∀ y,W.frozen? ⟨O,y,none⟩=false:=fun y=>by rw [xW.frozen O y (aD e.cO)]; exact e.fO y
 have a0:W.cell? ⟨w.heap.size,0,none⟩=some (.slice sa x.s.length sc):=by rw [hW]; exact bk @aA
 have a1:W.cell? ⟨w.heap.size,1,none⟩=some (.slice ea x.e.length ec):=by rw [hW]; exact bk @aA
 have a2:W.cell? ⟨w.heap.size,2,none⟩=some (.slice na x.ks.length nc):=by rw [hW]; exact bk @aA
 have a3:W.cell? ⟨w.heap.size,3,none⟩=some (.int .i8 0):=by rw [hW]; exact bk @aA
 rw [← hW]
 refine pI @cA @cO @a0 @a1 @a2 @a3 ?_
 refine jv (x:=x) (hs.inc xW.inc) (he.inc xW.inc) (hv.inc ku.mono xW.inc) ⟨0,rfl⟩ hl (hinc.trans xW.inc) fun d1 w1 v1 g1 s1 => ?_
 have x1:=xW.trans g1.x
 have e1:EmO d w1 O A (.slice oa out.length oc) out:=e.keep x1 (fun h=>h) (fun h=>h) fun _ _ _ h=>h
 obtain ⟨css1,oo1⟩:=e1.oo
 have oo1:=oo1.ghost eJ.mono g1.i fun g hg=>g1.o g (by have:=oo.own.lt _ hg; exact aI this.2 xW.size) (oo.out g hg)
 obtain ⟨k1,c1,rfl⟩:=s1.form
 have cA:=e1.cA
 have cO:=e1.cO
 have cA3:∀ c t,(w1.alloc (.cells c t)).cell? ⟨A,0,none⟩=some (.pointer (some ⟨O,0,none⟩)):=fun c t=>(aM _).cell cA
 have cO3:∀ c t,(w1.alloc (.cells c t)).cell? ⟨O,0,none⟩=some (.slice oa out.length oc):=fun c t=>(aM _).cell cO
 refine fI @cA @cO @cA3 @cO3 ?_
 refine ju x [.string ⟨x.s.toArray⟩,.string ⟨x.e.toArray⟩,.slice k1 x.ks.length c1] rw74 oo1 ⟨_,rfl,s1⟩ rfl (.inl rfl) rfl rfl (by simp [Value.oneCell']) (by omega) g1.j fun v2 w2 o2 k2 n2 j2 _ => ?_
 have hOs:=aD e1.cO
 have cA2:=k2.some e1.cA nA
 have cO2:=k2.some e1.cO nO
 have fO2:∀ y,w2.frozen? ⟨O,y,none⟩=false:=fun y=>by rw [k2.frozen O y hOs]; exact e1.fO y
 obtain ⟨va,vc,rfl,_⟩:=o2.form
 refine eA @cA2 @cO2 @fO2 ?_
 have k3:Keep (fun b y=>b=O∧y=0) w2 (w2.setCell ⟨O,0,none⟩ (.slice va (out++[x]).length vc)):=bW ⟨rfl,rfl⟩
 have hO1:cx d1 O:=g1.o O (aI (aD e.cO) xW.size) hoO
 have nv:∀ g,(Value.slice va (out++[x]).length vc).ownBlock=some g→g≠O:=fun g hg h=>by
  subst h
  rcases n2 g hg with h | h
  ·exact nO h
  ·omega
 refine hk d1 _ (.slice va (out++[x]).length vc) ⟨k3.some cA2 fun h=>hAO h.1,by rw [bu,cO2]; rfl,fun y=>by rw [World.frozen?_setCell]; exact fO2 y,_,o2.keep k3 fun g hg o h=>nv g hg h.1⟩ ⟨?_,g1.i,?_,fun b hb ho=>g1.o b (aI hb xW.size) ho⟩ fun g hg => ?_
 ·exact (x1.keep.tr k2 fun b o hb h => .inr h).tr k3 fun b o hb h => .inl h
 ·exact j2.keep k3 fun b o hm=>by
    obtain ⟨rfl,_⟩:=hm
    exact hO1 o
 ·rcases n2 g hg with h | h
  ·exact .inl h
  ·exact .inr (ai x1.size h)
end
end Go.Proofs
end
section
namespace Go.E
open Go Go.Sort Go.Proofs
def bq (l:List Sp):List K:=l.flatMap Sp.ks
def sU (b:Sp) (l:List Sp):List Sp:=(l.drop (l.countP fun x=>decide (x.e=b.e))).map fun x=>⟨b.e,x.e,x.ks⟩
def qv (l:List K):Prop:=l.Pairwise fun x y=>y.tr≤x.tr
inductive FlR:List Sp→List Sp→Prop
 | nil:FlR [] []
 | cons {b f:Sp} {r out:List Sp} (h1:f.s=b.s) (h2:f.e=b.e) (h3:f.ks.Perm (bq (b :: r))) (h5:qv f.ks) (h4:FlR (sU b (b :: r)) out):FlR (b :: r) (f :: out)
structure Alike (q:Bytes) (l:List Sp):Prop where
 s:∀ x ∈ l,x.s=q
 lt:∀ x ∈ l,x.s < x.e
 ne:∀ x ∈ l,x.ks≠[]
def px (l:List Sp):Prop:=l.Pairwise fun a b=>¬ b.e < a.e
theorem pE (a:Sp) (l:List Sp) (x:Bytes):fZ (a :: l) x=(if eK x a then a.ks else [])++fZ l x:=by unfold fZ; rw [ax]
theorem mK {a b:List Sp} (h:a.Perm b) (x:Bytes):(fZ a x).Perm (fZ b x):=h.flatMap_right _
theorem kV {l:List Sp} {x:Bytes} (h:∀ s ∈ l,eK x s=false):fZ l x=[]:=by
 unfold fZ
 exact List.flatMap_eq_nil_iff.2 fun s hs=>by rw [h s hs]; rfl
theorem AJ {l:List Sp} {x:Bytes} (h:∀ s ∈ l,eK x s=true):fZ l x=bq l:=by
 unfold fZ bq
 exact kR fun s hs=>by rw [h s hs]; rfl
theorem xY {b:Sp}:∀ {l:List Sp},px l→(∀ x ∈ l,¬ x.e < b.e)→(∀ x ∈ l.take (l.countP fun x=>decide (x.e=b.e)),x.e=b.e)∧∀ x ∈ l.drop (l.countP fun x=>decide (x.e=b.e)),b.e < x.e:=by
 intro l
 induction l with
 | nil=>intro _ _; exact ⟨by simp,by simp⟩
 | cons a l ih =>
  intro hs hb
  have hs':=hs.of_cons
  obtain ⟨i1,i2⟩:=ih hs' fun x hx=>hb x (aj _ hx)
  by_cases ha:a.e=b.e
  ·rw [List.countP_cons_of_pos (by simpa using ha),List.take_succ_cons,List.drop_succ_cons]
   refine ⟨fun x hx => ?_,i2⟩
   rcases al.1 hx with rfl | hx
   ·exact ha
   ·exact i1 x hx
  ·have hba:b.e < a.e:=by
     rcases gg a.e b.e with h | h | h
     ·exact absurd h (hb a aO)
     ·exact absurd h ha
     ·exact h
   have h0:l.countP (fun x=>decide (x.e=b.e))=0:=by
    rw [List.countP_eq_zero]
    intro x hx he
    have he:=of_decide_eq_true he
    have:=bJ hs hx
    rw [he] at this
    exact this hba
   rw [List.countP_cons_of_neg (by simpa using ha),h0]
   refine ⟨by simp,fun x hx => ?_⟩
   rcases al.1 hx with rfl | hx
   ·exact hba
   ·exact bm hba (bJ hs hx)
theorem Bi {b:Sp} {l:List Sp} (hs:px l) (hb:∀ x ∈ l,¬ x.e < b.e) (hn:∀ x ∈ l,x.ks≠[]):Alike b.e (sU b l)∧px (sU b l):=by
 obtain ⟨_,h2⟩:=xY hs hb
 unfold sU
 refine ⟨⟨fun x hx => ?_,fun x hx => ?_,fun x hx => ?_⟩,?_⟩
 ·obtain ⟨y,hy,rfl⟩:=bU.1 hx; rfl
 ·obtain ⟨y,hy,rfl⟩:=bU.1 hx; exact h2 y hy
 ·obtain ⟨y,hy,rfl⟩:=bU.1 hx; exact hn y (List.mem_of_mem_drop hy)
 ·unfold px
  rw [List.pairwise_map]
  exact List.Pairwise.sublist (List.drop_sublist _ _) hs
theorem xZ {l out:List Sp} (h:FlR l out):∀ {q:Bytes},Alike q l→px l→Ch out∧(∀ f ∈ out,¬ f.s < q∧(f.ks≠[]∧qv f.ks)∧(f.s=q∨∃ y ∈ l,f.s=y.e)∧∃ y ∈ l,f.e=y.e)∧(∀ x,(fZ out x).Perm (fZ l x))∧out.length≤l.length∧∀ f ∈ out,∀ k ∈ f.ks,∃ y ∈ l,k ∈ y.ks:=by
 induction h with
 | nil=>intro q _ _; exact ⟨⟨by simp,.nil⟩,by simp,fun x => .refl _,aE _,by simp⟩
 | @cons b f r out h1 h2 h3 h5 h4 ih =>
  intro q ha hs
  have hb:∀ x ∈ b :: r,¬ x.e < b.e:=fun x hx=>by
   rcases al.1 hx with rfl | hx
   ·exact bA _
   ·exact bJ hs hx
  obtain ⟨n1,n2⟩:=Bi hs hb ha.ne
  obtain ⟨e1,e2⟩:=xY hs hb
  obtain ⟨c1,c2,c3,c4,c5⟩:=ih n1 n2
  have hbq:=ha.s b aO
  have hlt:=ha.lt b aO
  rw [hbq] at hlt
  have hmem:∀ y ∈ sU b (b :: r),∃ z ∈ b :: r,y.e=z.e∧y.ks=z.ks:=fun y hy=>by
   unfold sU at hy
   obtain ⟨z,hz,rfl⟩:=bU.1 hy
   exact ⟨z,List.mem_of_mem_drop hz,rfl,rfl⟩
  refine ⟨⟨fun x hx => ?_,List.pairwise_cons.2 ⟨fun x hx=>by rw [h2]; exact (c2 x hx).1,c1.2⟩⟩,fun x hx => ?_,fun x => ?_,?_,fun x hx k hk => ?_⟩
  ·rcases al.1 hx with rfl | hx
   ·rw [h1,h2,hbq]; exact hlt
   ·exact c1.1 x hx
  ·rcases al.1 hx with rfl | hx
   ·refine ⟨by rw [h1,hbq]; exact bA _,⟨fun h0 => ?_,h5⟩,.inl (by rw [h1,hbq]),b,aO,h2⟩
    have h5:=h3.length_eq
    rw [h0] at h5
    have h6:bq (b :: r)=b.ks++bq r:=by unfold bq; rw [ax]
    rw [h6,aJ] at h5
    exact ha.ne b aO (aZ.1 (by simp at h5; omega))
   ·obtain ⟨d1,d2,d3,y,hy,d4⟩:=c2 x hx
    obtain ⟨z,hz,e3,_⟩:=hmem y hy
    refine ⟨fun h=>d1 (List.lt_trans h hlt),d2,.inr ?_,z,hz,by rw [d4,e3]⟩
    rcases d3 with d3 | ⟨y2,hy2,d3⟩
    ·exact ⟨b,aO,d3⟩
    ·obtain ⟨z2,hz2,e4,_⟩:=hmem y2 hy2
     exact ⟨z2,hz2,by rw [d3,e4]⟩
  ·rw [pE]
   have hf:eK x f=true↔¬ x < q∧x < b.e:=by rw [dz,h1,h2,hbq]
   by_cases g1:x < q
   ·have z1:eK x f=false:=Bool.eq_false_iff.2 fun h=>(hf.1 h).1 g1
    rw [z1,if_neg (by decide),List.nil_append,kV (l:=b :: r) fun s hs=>Bool.eq_false_iff.2 fun h=>(dz.1 h).1 (by rw [ha.s s hs]; exact g1)]
    rw [kV (l:=out) fun s hs=>Bool.eq_false_iff.2 fun h=>(dz.1 h).1 (bm (List.lt_trans g1 hlt) (c2 s hs).1)]
   by_cases g2:x < b.e
   ·have z1:eK x f=true:=hf.2 ⟨g1,g2⟩
    rw [z1,if_pos rfl,kV (l:=out) fun s hs=>Bool.eq_false_iff.2 fun h=>(dz.1 h).1 (bm g2 (c2 s hs).1),av]
    rw [AJ (l:=b :: r) fun s hs=>dz.2 ⟨by rw [ha.s s hs]; exact g1,bm g2 (hb s hs)⟩]
    exact h3
   ·have z1:eK x f=false:=Bool.eq_false_iff.2 fun h=>g2 (hf.1 h).2
    rw [z1,if_neg (by decide),List.nil_append]
    refine (c3 x).trans (.of_eq ?_)
    have hsp:fZ (b :: r) x=fZ ((b :: r).take ((b :: r).countP fun x=>decide (x.e=b.e))) x++fZ ((b :: r).drop ((b :: r).countP fun x=>decide (x.e=b.e))) x:=by rw [← dW,cm]
    rw [hsp,kV (l:=(b :: r).take _) fun s hs=>Bool.eq_false_iff.2 fun h=>g2 (by rw [← e1 s hs]; exact (dz.1 h).2),List.nil_append]
    unfold sU fZ
    rw [List.flatMap_map]
    refine kR fun s hs => ?_
    have:eK x ⟨b.e,s.e,s.ks⟩=eK x s:=by
     rw [bF,dz,dz,ha.s s (List.mem_of_mem_drop hs)]
     exact ⟨fun h=>⟨g1,h.2⟩,fun h=>⟨g2,h.2⟩⟩
    rw [this]
  ·have hn:(sU b (b :: r)).length≤r.length:=by
     unfold sU
     rw [aS,List.length_drop,List.countP_cons_of_pos (by simp),aY]
     omega
   rw [aY,aY]
   omega
  ·rcases al.1 hx with rfl | hx
   ·have:=h3.mem_iff.1 hk
    unfold bq at this
    exact dX.1 this
   ·obtain ⟨y,hy,hky⟩:=c5 x hx k hk
    obtain ⟨z,hz,_,e5⟩:=hmem y hy
    exact ⟨z,hz,by rw [← e5]; exact hky⟩
end Go.E
end
section
namespace Go.E
open Go Go.Sort Go.Proofs
def jJ (key:Bytes) (P:List Sp):List Sp:=P.flatMap fun p=>if key < p.e then (if p.s < key then [⟨p.s,key,p.ks⟩] else []) else [p]
def iz (key:Bytes) (P:List Sp):List Sp:=P.flatMap fun p=>if key < p.e then [⟨key,p.e,p.ks⟩] else []
structure FrJ (l P out:List Sp) (q:Bytes):Prop where
 pa:Alike q P
 ch:Ch out
 oe:∀ f ∈ out,¬ q < f.e
 on:∀ f ∈ out,f.ks≠[]∧qv f.ks
 str:∀ f ∈ out++P,(∃ y ∈ l,f.s=y.s∨f.s=y.e)∧∃ y ∈ l,f.e=y.s∨f.e=y.e
 key:∀ f ∈ out++P,∀ k ∈ f.ks,∃ y ∈ l,k ∈ y.ks
structure FrI (l P out:List Sp) (q:Bytes):Prop where
 j:FrJ l P out q
 pt:∀ x,(fZ out x++fZ P x).Perm (fZ l x)
 len:P.length≤l.length
theorem AK (q:Bytes):FrI [] [] [] q:=⟨⟨⟨by simp,by simp,by simp⟩,⟨by simp,.nil⟩,by simp,by simp,by simp,by simp⟩,fun x => .refl _,aE _⟩
section
variable {l P out:List Sp} {q:Bytes} {s:Sp}
theorem xd (h:FrI l P out q) (hs:s.s=q) (hl:s.s < s.e) (hn:s.ks≠[]):FrI (l++[s]) (P++[s]) out q:=by
 have m1:∀ y ∈ l,y ∈ l++[s]:=fun y hy=>List.mem_append_left _ hy
 have m2:s ∈ l++[s]:=by simp
 refine ⟨⟨⟨fun x hx => ?_,fun x hx => ?_,fun x hx => ?_⟩,h.j.ch,h.j.oe,h.j.on,fun f hf => ?_,fun f hf k hk => ?_⟩,fun x => ?_,by have:=h.len; simp; omega⟩
 ·rcases aV.1 hx with hx | hx
  ·exact h.j.pa.s x hx
  ·rw [aQ.1 hx]; exact hs
 ·rcases aV.1 hx with hx | hx
  ·exact h.j.pa.lt x hx
  ·rw [aQ.1 hx]; exact hl
 ·rcases aV.1 hx with hx | hx
  ·exact h.j.pa.ne x hx
  ·rw [aQ.1 hx]; exact hn
 ·rw [← bX] at hf
  rcases aV.1 hf with hf | hf
  ·obtain ⟨⟨y,hy,e⟩,z,hz,e2⟩:=h.j.str f hf
   exact ⟨⟨y,m1 y hy,e⟩,z,m1 z hz,e2⟩
  ·rw [aQ.1 hf]
   exact ⟨⟨s,m2,.inl rfl⟩,s,m2,.inr rfl⟩
 ·rw [← bX] at hf
  rcases aV.1 hf with hf | hf
  ·obtain ⟨y,hy,e⟩:=h.j.key f hf k hk
   exact ⟨y,m1 y hy,e⟩
  ·rw [aQ.1 hf] at hk
   exact ⟨s,m2,hk⟩
 ·rw [dW,dW,← bX]
  exact (h.pt x).append_right _
theorem Bj (h:FrJ l P out q) {D o2:List Sp} {key:Bytes} (hk:∀ p ∈ D,¬ key < p.e) (hkey:∃ y ∈ l,key=y.s∨key=y.e) (hD:Alike q D) (hs:px D) (hf:FlR D o2) (hm:∀ p ∈ D,(p.e=key∨∃ y ∈ P,p.e=y.e)∧∃ y ∈ P,p.ks=y.ks) :
    Ch (out++o2)∧(∀ f ∈ out++o2,f.ks≠[]∧qv f.ks)∧(∀ f ∈ o2,¬ key < f.e)∧(∀ x,(fZ o2 x).Perm (fZ D x))∧(∀ f ∈ o2,(∃ y ∈ l,f.s=y.s∨f.s=y.e)∧∃ y ∈ l,f.e=y.s∨f.e=y.e)∧∀ f ∈ o2,∀ k ∈ f.ks,∃ y ∈ l,k ∈ y.ks:=by
 obtain ⟨c1,c2,c3,c4,c5⟩:=xZ hf hD hs
 have hst:∀ p ∈ D,∃ y ∈ l,p.e=y.s∨p.e=y.e:=fun p hp=>by
  rcases (hm p hp).1 with e | ⟨y,hy,e⟩
  ·rw [e]; exact hkey
  ·rw [e]; exact (h.str y (List.mem_append_right _ hy)).2
 refine ⟨⟨fun f hf => ?_,List.pairwise_append.2 ⟨h.ch.2,c1.2,fun a ha b hb => ?_⟩⟩,fun f hf => ?_,fun f hf => ?_,c3,fun f hf => ?_,fun f hf k hk => ?_⟩
 ·rcases aV.1 hf with hf | hf
  ·exact h.ch.1 f hf
  ·exact c1.1 f hf
 ·exact fun h3=>(c2 b hb).1 (bm h3 (h.oe a ha))
 ·rcases aV.1 hf with hf | hf
  ·exact h.on f hf
  ·exact (c2 f hf).2.1
 ·obtain ⟨_,_,_,y,hy,e⟩:=c2 f hf
  rw [e]; exact hk y hy
 ·obtain ⟨_,_,e1,y,hy,e2⟩:=c2 f hf
  refine ⟨?_,by rw [e2]; exact hst y hy⟩
  rcases e1 with e1 | ⟨z,hz,e1⟩
  ·obtain ⟨p,hp,_⟩:=(hm y hy).2
   obtain ⟨a,_⟩:=h.str p (List.mem_append_right _ hp)
   rw [h.pa.s p hp] at a
   rw [e1]; exact a
  ·rw [e1]; exact hst z hz
 ·obtain ⟨y,hy,hky⟩:=c5 f hf k hk
  obtain ⟨p,hp,e⟩:=(hm y hy).2
  rw [e] at hky
  exact h.key p (List.mem_append_right _ hp) k hky
theorem Dp (h:FrI l P out q) (hq:q < s.s) (hl:s.s < s.e) (hn:s.ks≠[]) {D o2:List Sp} (hD:D.Perm (jJ s.s P)) (hs:px D) (hf:FlR D o2):FrI (l++[s]) (iz s.s P++[s]) (out++o2) s.s:=by
 have m1:∀ y ∈ l,y ∈ l++[s]:=fun y hy=>List.mem_append_left _ hy
 have m2:s ∈ l++[s]:=by simp
 have hd:∀ p ∈ D,p.s=q∧¬ s.s < p.e∧q < p.e∧(p.e=s.s∨∃ y ∈ P,p.e=y.e)∧∃ y ∈ P,p.ks=y.ks:=fun p hp=>by
  have hp:=hD.mem_iff.1 hp
  unfold jJ at hp
  obtain ⟨y,hy,hp⟩:=dX.1 hp
  split at hp
  ·split at hp
   ·rw [aQ.1 hp]
    exact ⟨h.j.pa.s y hy,bA _,hq,.inl rfl,y,hy,rfl⟩
   ·simp at hp
  ·rename_i hlt
   rw [aQ.1 hp]
   exact ⟨h.j.pa.s y hy,hlt,by rw [← h.j.pa.s y hy]; exact h.j.pa.lt y hy,.inr ⟨y,hy,rfl⟩,y,hy,rfl⟩
 have hr:∀ p ∈ iz s.s P,p.s=s.s∧s.s < p.e∧∃ y ∈ P,p.e=y.e∧p.ks=y.ks:=fun p hp=>by
  unfold iz at hp
  obtain ⟨y,hy,hp⟩:=dX.1 hp
  split at hp
  ·rename_i hlt
   rw [aQ.1 hp]
   exact ⟨rfl,hlt,y,hy,rfl,rfl⟩
  ·simp at hp
 have hA:Alike q D:=⟨fun p hp=>(hd p hp).1,fun p hp=>by rw [(hd p hp).1]; exact (hd p hp).2.2.1,fun p hp=>by
  obtain ⟨y,hy,e⟩:=(hd p hp).2.2.2.2
  rw [e]; exact h.j.pa.ne y hy⟩
 have h':FrJ (l++[s]) P out q:=⟨h.j.pa,h.j.ch,h.j.oe,h.j.on,fun f hf=>by
     obtain ⟨⟨y,hy,e⟩,z,hz,e2⟩:=h.j.str f hf
     exact ⟨⟨y,m1 y hy,e⟩,z,m1 z hz,e2⟩,fun f hf k hk=>by
     obtain ⟨y,hy,e⟩:=h.j.key f hf k hk
     exact ⟨y,m1 y hy,e⟩⟩
 obtain ⟨c1,c2,c3,c4,c5,c6⟩:=Bj h' (fun p hp=>(hd p hp).2.1) ⟨s,m2,.inl rfl⟩ hA hs hf fun p hp=>(hd p hp).2.2.2
 have hsplit:∀ x,(fZ (jJ s.s P) x++fZ (iz s.s P) x).Perm (fZ P x):=fun x=>by
  have hps:=h.j.pa.s
  generalize P=Q at hps
  induction Q with
  | nil=>exact .refl _
  | cons p Q ih =>
   have ih:=ih fun y hy=>hps y (aj _ hy)
   have hp:=hps p aO
   have e1:jJ s.s (p :: Q)=(if s.s < p.e then (if p.s < s.s then [⟨p.s,s.s,p.ks⟩] else []) else [p])++jJ s.s Q:=by unfold jJ; rw [ax]
   have e2:iz s.s (p :: Q)=(if s.s < p.e then [⟨s.s,p.e,p.ks⟩] else [])++iz s.s Q:=by unfold iz; rw [ax]
   rw [e1,e2,dW,dW,pE p Q]
   have swap:∀ (a b c d:List K),((a++b)++(c++d)).Perm ((a++c)++(b++d)):=fun a b c d=>by
    rw [bX,bX]
    refine List.Perm.append_left a ?_
    rw [← bX,← bX]
    exact List.Perm.append_right d List.perm_append_comm
   refine (swap _ _ _ _).trans ((List.Perm.of_eq ?_).append ih)
   have one:∀ y:Sp,fZ [y] x=if eK x y then y.ks else []:=fun y=>by rw [pE]; simp [fZ]
   by_cases g:s.s < p.e
   ·rw [if_pos g,if_pos g,if_pos (by rw [hp]; exact hq),one,one]
    have A:eK x ⟨p.s,s.s,p.ks⟩=true↔¬ x < p.s∧x < s.s:=dz
    have B:eK x ⟨s.s,p.e,p.ks⟩=true↔¬ x < s.s∧x < p.e:=dz
    have C:eK x p=true↔¬ x < p.s∧x < p.e:=dz
    by_cases h5:eK x p=true
    ·rw [if_pos h5]
     have h5:=C.1 h5
     by_cases h6:x < s.s
     ·rw [if_pos (A.2 ⟨h5.1,h6⟩),if_neg fun h7=>(B.1 h7).1 h6,av]
     ·rw [if_neg fun h7=>h6 (A.1 h7).2,if_pos (B.2 ⟨h6,h5.2⟩),List.nil_append]
    ·rw [if_neg h5,if_neg fun h6=>h5 (C.2 ⟨(A.1 h6).1,List.lt_trans (A.1 h6).2 g⟩),if_neg fun h6=>h5 (C.2 ⟨fun h7=>(B.1 h6).1 (List.lt_trans (by rw [hp] at h7; exact h7) hq),(B.1 h6).2⟩)]
     rfl
   ·rw [if_neg g,if_neg g,one,show fZ [] x=[] from rfl,av]
 refine ⟨⟨⟨fun x hx => ?_,fun x hx => ?_,fun x hx => ?_⟩,c1,fun f hf => ?_,c2,fun f hf => ?_,fun f hf k hk => ?_⟩,fun x => ?_,?_⟩
 ·rcases aV.1 hx with hx | hx
  ·exact (hr x hx).1
  ·rw [aQ.1 hx]
 ·rcases aV.1 hx with hx | hx
  ·rw [(hr x hx).1]; exact (hr x hx).2.1
  ·rw [aQ.1 hx]; exact hl
 ·rcases aV.1 hx with hx | hx
  ·obtain ⟨_,_,y,hy,_,e⟩:=hr x hx
   rw [e]; exact h.j.pa.ne y hy
  ·rw [aQ.1 hx]; exact hn
 ·rcases aV.1 hf with hf | hf
  ·exact fun h3=>h.j.oe f hf (List.lt_trans hq h3)
  ·exact c3 f hf
 ·rcases aV.1 hf with hf | hf
  ·rcases aV.1 hf with hf | hf
   ·exact h'.str f (List.mem_append_left _ hf)
   ·exact c5 f hf
  ·rcases aV.1 hf with hf | hf
   ·obtain ⟨e1,_,y,hy,e2,_⟩:=hr f hf
    refine ⟨⟨s,m2,.inl e1⟩,?_⟩
    rw [e2]
    exact (h'.str y (List.mem_append_right _ hy)).2
   ·rw [aQ.1 hf]
    exact ⟨⟨s,m2,.inl rfl⟩,s,m2,.inr rfl⟩
 ·rcases aV.1 hf with hf | hf
  ·rcases aV.1 hf with hf | hf
   ·exact h'.key f (List.mem_append_left _ hf) k hk
   ·exact c6 f hf k hk
  ·rcases aV.1 hf with hf | hf
   ·obtain ⟨_,_,y,hy,_,e2⟩:=hr f hf
    rw [e2] at hk
    exact h'.key y (List.mem_append_right _ hy) k hk
   ·rw [aQ.1 hf] at hk
    exact ⟨s,m2,hk⟩
 ·rw [dW,dW,dW,← bX]
  refine List.Perm.append_right _ (.trans ?_ (h.pt x))
  rw [bX]
  refine List.Perm.append_left _ (.trans ?_ (hsplit x))
  exact List.Perm.append_right _ ((c4 x).trans (mK hD x))
 ·rw [aJ,aJ,ar]
  have:(iz s.s P).length≤P.length:=by
   unfold iz
   generalize P=Q
   induction Q with
   | nil=>simp
   | cons p Q ih =>
    rw [ax,aJ,aY]
    split
    ·rw [ar]; omega
    ·rw [List.length_nil]; omega
  have:=h.len
  omega
theorem Ep (h:FrI l P out q) {D o2:List Sp} (hD:D.Perm P) (hs:px D) (hf:FlR D o2):Ch (out++o2)∧(∀ f ∈ out++o2,f.ks≠[]∧qv f.ks)∧(∀ x,(fZ (out++o2) x).Perm (fZ l x)) ∧
    (∀ f ∈ out++o2,(∃ y ∈ l,f.s=y.s∨f.s=y.e)∧∃ y ∈ l,f.e=y.s∨f.e=y.e)∧∀ f ∈ out++o2,∀ k ∈ f.ks,∃ y ∈ l,k ∈ y.ks:=by
 have hA:Alike q D:=⟨fun p hp=>h.j.pa.s p (hD.mem_iff.1 hp),fun p hp=>h.j.pa.lt p (hD.mem_iff.1 hp),fun p hp=>h.j.pa.ne p (hD.mem_iff.1 hp)⟩
 obtain ⟨c1,c2,c3,c4,c5⟩:=xZ hf hA hs
 have hst:∀ p ∈ D,∃ y ∈ l,p.e=y.s∨p.e=y.e:=fun p hp=>(h.j.str p (List.mem_append_right _ (hD.mem_iff.1 hp))).2
 refine ⟨⟨fun f hf => ?_,List.pairwise_append.2 ⟨h.j.ch.2,c1.2,fun a ha b hb => ?_⟩⟩,fun f hf => ?_,fun x => ?_,fun f hf => ?_,fun f hf k hk => ?_⟩
 ·rcases aV.1 hf with hf | hf
  ·exact h.j.ch.1 f hf
  ·exact c1.1 f hf
 ·exact fun h3=>(c2 b hb).1 (bm h3 (h.j.oe a ha))
 ·rcases aV.1 hf with hf | hf
  ·exact h.j.on f hf
  ·exact (c2 f hf).2.1
 ·rw [dW]
  exact (List.Perm.append_left _ ((c3 x).trans (mK hD x))).trans (h.pt x)
 ·rcases aV.1 hf with hf | hf
  ·exact h.j.str f (List.mem_append_left _ hf)
  ·obtain ⟨_,_,e1,y,hy,e2⟩:=c2 f hf
   refine ⟨?_,by rw [e2]; exact hst y hy⟩
   rcases e1 with e1 | ⟨z,hz,e1⟩
   ·have hp:=hD.mem_iff.1 hy
    obtain ⟨a,_⟩:=h.j.str y (List.mem_append_right _ hp)
    rw [h.j.pa.s y hp] at a
    rw [e1]; exact a
   ·rw [e1]; exact hst z hz
 ·rcases aV.1 hf with hf | hf
  ·exact h.j.key f (List.mem_append_left _ hf) k hk
  ·obtain ⟨y,hy,hky⟩:=c5 f hf k hk
   exact h.j.key y (List.mem_append_right _ (hD.mem_iff.1 hy)) k hky
end
end Go.E
end
section
namespace Go.E
open Go Go.Sort Go.Proofs Go.Proofs.Tryz
structure FrC (c:Nat→Nat) (d w:World) (F O A:Nat) (vo:Value) (out:List Sp) (vf:Value) (lf:List KR):Prop where
 em:EmO d w O A vo out
 f0:w.cell? ⟨F,0,none⟩=some (.func (.func 102) #[] #[])
 f2:w.cell? ⟨F,2,none⟩=some (.func (.func 117) #[] #[.pointer (some ⟨A,0,none⟩)])
 f5:(w.cell? ⟨F,5,none⟩).isSome=true
 f6:(w.cell? ⟨F,6,none⟩).isSome=true
 f7:KOwn d w F 7 vf lf
 fz:∀ y,w.frozen? ⟨F,y,none⟩=false
 oF:cx d F
 oO:cx d O
 cF:c F=0
 cO:c O=1
 cA:c A=2
 c3:∀ g,vo.ownBlock=some g→c g=3
 c4:∀ g,vf.ownBlock=some g→c g=4∧cx d g
theorem Dq {l:List SR} {i:Nat} {r:SR} (h:l[i]? = some r) (y:Sp) (v:Value):(jd l).set (i * 4) v=jd (l.set i ⟨y,v,r.ev,r.kv⟩):=by
 induction l generalizing i with
 | nil=>simp at h
 | cons z l ih =>
  rw [iy]
  cases i with
  | zero =>
   simp only [List.getElem?_cons_zero,aL] at h
   subst h
   rfl
  | succ i =>
   have:=ih (i:=i) (by simpa using h)
   have e:(z :: l).set (i+1) ⟨y,v,r.ev,r.kv⟩=z :: l.set i ⟨y,v,r.ev,r.kv⟩:=rfl
   rw [show (i+1) * 4=i * 4+4 by omega,e,iy,← this]
   rfl
theorem Er {α:Type} {a b:List α} {i:Nat} {x y:α} (ha:a[i]? = some y) (hb:b[i]? = some x):(a.take i++b.drop i).set i y=a.take (i+1)++b.drop (i+1):=by
 obtain ⟨h1,rfl⟩:=aR.1 hb
 obtain ⟨h2,rfl⟩:=aR.1 ha
 rw [cw h1,bw ha,List.set_append_right _ _ (by rw [bB]; omega),bB,Nat.min_eq_left (by omega),Nat.sub_self,bX]
 rfl
def fM (c:Nat→Nat):Nat→Nat→Prop:=fun b o=>c b=0∧5≤o∧o≤7∨c b=1∧o=0∨c b=3∨c b=4∨c b=5
section
variable {c:Nat→Nat} {d w w2:World} {F O A:Nat} {vo vf:Value} {out:List Sp} {lf:List KR}
theorem FrC.keep' (h:FrC c d w F O A vo out vf lf) {M:Nat→Nat→Prop} (k:Keep M w w2) (h0:∀ b o,M b o→c b=0∧(o=5∨o=6)∨5≤c b) (h5:(w2.cell? ⟨F,5,none⟩).isSome=true) (h6:(w2.cell? ⟨F,6,none⟩).isSome=true):FrC c d w2 F O A vo out vf lf:=by
 have n:∀ {b o},c b < 5→(c b=0→o≠5∧o≠6)→¬ M b o:=fun {b o} hb hn hm=>by have:=h0 b o hm; omega
 have hF:=h.cF
 have hO:=h.cO
 have hA:=h.cA
 exact ⟨h.em.keep k (n (by omega) (by omega)) (n (by omega) (by omega)) (fun g hg o=>n (by rw [h.c3 g hg]; omega) (by rw [h.c3 g hg]; omega)),k.some h.f0 (n (by omega) (by omega)),k.some h.f2 (n (by omega) (by omega)),h5,h6,⟨k.some h.f7.hd (n (by omega) (by omega)),aT h.f7.own k (fun g hg o=>n (by rw [(h.c4 g hg).1]; omega) (by rw [(h.c4 g hg).1]; omega)),h.f7.good⟩,fun y=>by rw [k.frozen F y (aD h.f0)]; exact h.fz y,h.oF,h.oO,hF,hO,hA,h.c3,h.c4⟩
theorem FrC.keep (h:FrC c d w F O A vo out vf lf) {M:Nat→Nat→Prop} (k:Keep M w w2) (h0:∀ b o,M b o→5≤c b):FrC c d w2 F O A vo out vf lf:=by
 have hF:=h.cF
 have n:∀ {b o},c b < 5→¬ M b o:=fun {b o} hb hm=>by have:=h0 b o hm; omega
 refine h.keep' k (fun b o hm => .inr (h0 b o hm)) ?_ ?_
 ·obtain ⟨v,hv⟩:=bZ.1 h.f5
  rw [k.some hv (n (by omega))]; rfl
 ·obtain ⟨v,hv⟩:=bZ.1 h.f6
  rw [k.some hv (n (by omega))]; rfl
theorem FrC.keys (h:FrC c d w F O A vo out vf lf) {M:Nat→Nat→Prop} (k:Keep M w w2) (h0:∀ b o,M b o→c b=0∧o=7∨c b=4∨5≤c b) {v:Value} {l:List KR} (hv:KOwn d w2 F 7 v l) (hc:∀ g,v.ownBlock=some g→vf.ownBlock=some g∨w.heap.size≤g) (hinc:cN d w) :
    ∃ c2:Nat→Nat,FrC c2 d w2 F O A vo out v l∧∀ b,b < w.heap.size→c2 b=c b:=by
 have n:∀ {b o},c b < 4→(c b=0→o≠7)→¬ M b o:=fun {b o} hb hn hm=>by have:=h0 b o hm; omega
 have hF:=h.cF
 have hO:=h.cO
 have hA:=h.cA
 have lF:=aD h.f0
 have lO:=aD h.em.cO
 have lA:=aD h.em.cA
 have i5:∀ {o},o≠7→(w.cell? ⟨F,o,none⟩).isSome=true→(w2.cell? ⟨F,o,none⟩).isSome=true:=fun ho hi=>by
  obtain ⟨u,hu⟩:=bZ.1 hi
  rw [k.some hu (n (by omega) fun _=>ho)]; rfl
 refine ⟨fun b=>if b < w.heap.size then c b else 4,⟨h.em.keep k (n (by omega) (by omega)) (n (by omega) (by omega)) (fun g hg o=>n (by rw [h.c3 g hg]; omega) (by rw [h.c3 g hg]; omega)),k.some h.f0 (n (by omega) (by omega)),k.some h.f2 (n (by omega) (by omega)),i5 (by omega) h.f5,i5 (by omega) h.f6,hv,fun y=>by rw [k.frozen F y lF]; exact h.fz y,h.oF,h.oO,by rw [if_pos lF]; exact hF,by rw [if_pos lO]; exact hO,by rw [if_pos lA]; exact hA,fun g hg => ?_,fun g hg => ?_⟩,fun b hb=>if_pos hb⟩
 ·obtain ⟨css,oo⟩:=h.em.oo
  rw [if_pos (oo.own.lt _ hg).2]; exact h.c3 g hg
 ·rcases hc g hg with h1 | h1
  ·obtain ⟨h2,h3⟩:=h.c4 g h1
   exact ⟨by rw [if_pos (h.f7.own.lt _ h1).2]; exact h2,h3⟩
  ·exact ⟨if_neg (by omega),hinc.out h1⟩
theorem FrC.emit (h:FrC c d w F O A vo out vf lf) {d2:World} {vo2:Value} {out2:List Sp} (G:Gk (fun b o=>b=O∧o=0∨vo.ownBlock=some b) d w d2 w2) (em:EmO d2 w2 O A vo2 out2) (nw:cP w vo vo2):∃ c2:Nat→Nat,FrC c2 d2 w2 F O A vo2 out2 vf lf∧∀ b,b < w.heap.size→c2 b=c b:=by
 have hF:=h.cF
 have hO:=h.cO
 have hA:=h.cA
 have lF:=aD h.f0
 have lO:=aD h.em.cO
 have lA:=aD h.em.cA
 have n:∀ {b o},c b≠1→c b≠3→¬ (b=O∧o=0∨vo.ownBlock=some b):=fun {b o} h1 h3 hm=>by
  rcases hm with ⟨rfl,_⟩ | hm
  ·exact h1 hO
  ·exact h3 (h.c3 b hm)
 have nF:∀ {o},¬ (F=O∧o=0∨vo.ownBlock=some F):=n (by omega) (by omega)
 have iF:∀ {o},(w.cell? ⟨F,o,none⟩).isSome=true→(w2.cell? ⟨F,o,none⟩).isSome=true:=fun hi=>by
  obtain ⟨u,hu⟩:=bZ.1 hi
  rw [G.k.some hu nF]; rfl
 refine ⟨fun b=>if b < w.heap.size then c b else 3,⟨em,G.k.some h.f0 nF,G.k.some h.f2 nF,iF h.f5,iF h.f6,⟨G.k.some h.f7.hd nF,aT h.f7.own G.k fun g hg o=>n (by rw [(h.c4 g hg).1]; omega) (by rw [(h.c4 g hg).1]; omega),fun x hx => ?_⟩,fun y=>by rw [G.k.frozen F y lF]; exact h.fz y,G.o F lF h.oF,G.o O lO h.oO,by rw [if_pos lF]; exact hF,by rw [if_pos lO]; exact hO,by rw [if_pos lA]; exact hA,fun g hg => ?_,fun g hg => ?_⟩,fun b hb=>if_pos hb⟩
 ·obtain ⟨g1,g2,g3⟩:=h.f7.good x hx
  exact ⟨g1,g2.inc G.i,g3.inc G.i⟩
 ·rcases nw g hg with h1 | h1
  ·obtain ⟨css,oo⟩:=h.em.oo
   rw [if_pos (oo.own.lt _ h1).2]; exact h.c3 g h1
  ·exact if_neg (by omega)
 ·have hl:=(h.f7.own.lt _ hg).2
  rw [if_pos hl]
  exact ⟨(h.c4 g hg).1,G.o g hl (h.c4 g hg).2⟩
end
end Go.E
namespace Go.Proofs
open Go Go.E Go.Sort Go.Proofs.Tryz
section
variable {k:au} {d w:World}
theorem vJ {q:au} {vf kv:Value} {acc:List KR} {ks:List K} (o:w.ownsRow 0 256 3 vf acc.length (flat acc)) (hkv:Sl KB 3 d kv ks) (hne:ks≠[]) (hinc:cN d w) (hb:acc.length+ks.length < 100000000)
    (hk:∀ v2 w2 xs,w2.ownsRow 0 256 3 v2 (acc++xs).length (flat (acc++xs))→xs.map KR.k=ks→(∀ x ∈ xs,x.good d)→Keep (fun b _=>vf.ownBlock=some b) w w2→cP w vf v2→q v2 w2):lY prog #[159,110] 159 #[vf,kv] q w:=by
 obtain ⟨xs,x1,x2,x3⟩:=pW (AI hkv) hne
 have hxl:xs.length=ks.length:=by rw [← x1,aS]
 obtain ⟨va,vc,rfl,_⟩:=ao o
 rw [yd]
 refine lW (m:=ks.length) (news:=flat xs) rw159 o (by rw [gw,hxl]) (x3 w hinc) (jO x2) (by omega) fun v2 w2 o2 k2 n2 _ => ?_
 refine hk v2 w2 xs (by rw [gv,aJ,hxl]; exact o2) x1 x2 (k2 _ fun b o hb _=>hb) fun g hg => ?_
 rcases n2 with h | ⟨g2,h,h',_⟩
 ·exact .inl (by rw [← h]; exact hg)
 ·rw [h] at hg
  simp only [aL] at hg
  subst hg
  exact .inr h'
theorem GW {a:Option Addr} {n c:Nat} {x:Value} {q:au}:lY prog #[110,159] 110 #[.slice a n c,x] q w=du prog (Builtin.append_ #[110,110] 110 #[.slice a n c,x]) q w:=by
 have h2:prog.underlying 110=some (.slice 256):=by kernel_rfl
 have h1:prog.underlying 159=some (.slice 256):=by kernel_rfl
 have:=Cr (P:=prog) (t:=110) (t2:=159) (ty:=110) (a:=a) (n:=n) (c:=c) (x:=x) (w:=w) h2 h1
 have e:lY prog #[110,159] 110 #[.slice a n c,x] q w=du prog (Builtin.append_ #[110,159] 110 #[.slice a n c,x]) q w:=by simp only [lY]
 rw [e]
 simp only [du,this]
theorem Dr {q:au} {v:Value} {l:List KR} (o:w.ownsRow 0 256 3 v l.length (flat l)) (hg:∀ x ∈ l,x.good d) (hinc:cN d w) (hb:l.length < 100000000) (hk:∀ v2 w2,fC ku 3 w2 v2 (l.map KR.k)→bj w w2→q v2 w2):lY prog #[110,159] 110 #[.slice none 0 0,v] q w:=by
 have hl:rW w v l.length (flat l):=by
  rcases cR o with ⟨rfl,h0,hf⟩ | ⟨g,cap,rfl,_,_⟩
  ·exact ⟨h0.symm,h0,hf⟩
  ·refine ⟨rfl,fun j u hj => ?_⟩
   rw [df rfl,Nat.zero_add]
   exact bL o hj
 rw [GW]
 refine lW (n:=0) (xs:=[]) (m:=l.length) (news:=flat l) rw110 dq (gw l) hl (jO hg) (by omega) fun v2 w2 o2 k2 _ _ => ?_
 have x2:bj w w2:=k2 _ fun b o hb _=>by simp [Value.ownBlock] at hb
 rw [Nat.zero_add,List.nil_append] at o2
 obtain ⟨a,c,rfl,_⟩:=ao o2
 exact hk _ w2 (lD (d:=d) o2 rfl (ah) hg (hinc.trans x2.inc)) x2
end
end Go.Proofs
end
