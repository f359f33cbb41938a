/- Parts of the proof: Xd, Xc, Xe, Xg, Xf. -/
import Derived.Test.YtjcbeinpkafjiaaGreatR22
import Derived.Test.YtjcbeinpkafjiaaGreatR23
set_option linter.all false
set_option maxRecDepth 10000
section
namespace Go.E
open Go Go.Sort Go.Proofs
structure OwnC {α:Type} (ce:α→List Value) (sz:Nat) (el:TypeId) (w:World) (v:Value) (l:List α):Prop where
 own:w.ownsRow 0 el sz v l.length (l.flatMap ce)
 sz:∀ x,(ce x).length=sz
section
variable {α:Type} {ce:α→List Value} {sz:Nat} {el:TypeId} {w w2:World} {v:Value} {l:List α}
theorem ic {a:Addr} (h:a.spot=none) (m:Nat):a.add m=⟨a.block,a.off+m,none⟩:=by
 obtain ⟨b,o,s⟩:=a
 simp only at h
 subst h
 cases m <;> rfl
theorem OwnC.nil (h:∀ x,(ce x).length=sz):OwnC ce sz el w (.slice none 0 0) []:=⟨eK,h⟩
theorem OwnC.keep {M:Nat→Nat→Prop} (h:OwnC ce sz el w v l) (hk:Keep M w w2) (hm:∀ g,v.ownBlock=some g→∀ o,¬ M g o):OwnC ce sz el w2 v l:=⟨aZ h.own hk hm,h.sz⟩
theorem OwnC.ext (h:OwnC ce sz el w v l) (x:bY w w2):OwnC ce sz el w2 v l:=h.keep x fun _ _ _ h=>h
theorem OwnC.form (h:OwnC ce sz el w v l):∃ a c,v = .slice a l.length c∧l.length≤c∧c≤9223372036854775807:=by
 obtain ⟨a,c,h1,h2,h3⟩:=bZ h.own
 exact ⟨a,c,h1,h2,h3⟩
theorem wM (h:∀ x,(ce x).length=sz) (l:List α):(l.flatMap ce).length=l.length * sz:=by
 induction l with
 | nil=>simp
 | cons x l ih=>rw [bj,aM,h,ih,ag,Nat.add_mul]; omega
theorem wN (h:∀ x,(ce x).length=sz) {l:List α} {i j:Nat} {x:α} {u:Value} (hi:l[i]? = some x) (hj:(ce x)[j]? = some u):(l.flatMap ce)[i * sz+j]? = some u:=by
 induction l generalizing i with
 | nil=>simp at hi
 | cons y l ih =>
  rw [bj]
  cases i with
  | zero =>
   simp only [List.getElem?_cons_zero,aK] at hi
   subst hi
   rw [Nat.zero_mul,Nat.zero_add,bG (aP.1 hj).1]
   exact hj
  | succ i =>
   rw [List.getElem?_cons_succ] at hi
   rw [bP (by rw [h,Nat.add_mul]; omega),h,show (i+1) * sz+j - sz=i * sz+j by rw [Nat.add_mul]; omega]
   exact ih hi
theorem OwnC.block (h:OwnC ce sz el w v l) {i:Nat} (hi:i < l.length):∃ g c,v = .slice (some ⟨g,0,none⟩) l.length c∧g < w.heap.size:=by
 rcases cY h.own with ⟨rfl,h0,_⟩ | ⟨g,cap,rfl,_,hg⟩
 ·omega
 ·exact ⟨g,cap,rfl,hg⟩
theorem OwnC.cell {g c:Nat} (h:OwnC ce sz el w (.slice (some ⟨g,0,none⟩) l.length c) l) {i j:Nat} {x:α} {u:Value} (hi:l[i]? = some x) (hj:(ce x)[j]? = some u):w.cell? ⟨g,i * sz+j,none⟩=some u:=av h.own (wN h.sz hi hj)
theorem OwnC.sl {R:gN α} (h:OwnC ce sz el w v l) (hR:∀ x ∈ l,R w (ce x) x):Sl R sz w v l:=by
 rcases cY h.own with ⟨rfl,h0,_⟩ | ⟨g,cap,rfl,hc,_⟩
 ·exact ⟨rfl,ao.1 h0⟩
 ·refine ⟨fun _=>rfl,rfl,hc,fun i x hx=>⟨ce x,h.sz x,fun j u hu => ?_,hR x (aJ hx)⟩⟩
  have:=h.cell hx hu
  rwa [show 0+i * sz+j=i * sz+j by omega]
theorem EZ (h:∀ x,(ce x).length=sz) {l:List α} {i:Nat} (hi:i < l.length) (y:α) (m:List Value) (hm:m.length=l.length * sz) (hs:∀ j,j < i * sz∨(i+1) * sz≤j→m[j]? = (l.flatMap ce)[j]?) (hy:∀ j u,(ce y)[j]? = some u→m[i * sz+j]? = some u):m=(l.set i y).flatMap ce:=by
 refine List.ext_getElem? fun p => ?_
 rcases aH p (l.length * sz) with hp | hp
 ·have hsz:0 < sz:=by rcases bB sz with h0 | h0; (rw [h0,Nat.mul_zero] at hp; omega); exact h0
  obtain ⟨q,r,hr,rfl⟩:∃ q r,r < sz∧p=q * sz+r:=⟨p / sz,p % sz,Nat.mod_lt _ hsz,by rw [Nat.mul_comm]; exact (Nat.div_add_mod p sz).symm⟩
  have hq:q < l.length:=by
   rcases aH q l.length with h1 | h1
   ·exact h1
   ·have:=bK sz h1; omega
  by_cases hqi:q=i
  ·subst hqi
   have hl:(ce y)[r]? = some ((ce y)[r]'(by rw [h]; exact hr)):=aC _
   rw [hy r _ hl,wN h (l:=l.set q y) (i:=q) (by rw [List.getElem?_set_self hq]) hl]
  ·have hx:l[q]? = some l[q]:=aC hq
   have hl:(ce l[q])[r]? = some ((ce l[q])[r]'(by rw [h]; exact hr)):=aC _
   rw [hs _ ?_,wN h hx hl,wN h (l:=l.set i y) (i:=q) (by rw [List.getElem?_set_ne (Ne.symm hqi)]; exact hx) hl]
   rcases aH q i with h1 | h1
   ·left
    have:=bK sz (show q+1≤i by omega)
    rw [Nat.add_mul] at this; omega
   ·right
    have:=bK sz (show i+1≤q by omega)
    omega
 ·rw [List.getElem?_eq_none (by rw [hm]; exact hp),List.getElem?_eq_none (by rw [wM h,bk]; exact hp)]
theorem OwnC.set3 {g c:Nat} (h:OwnC ce 3 el w (.slice (some ⟨g,0,none⟩) l.length c) l) {i:Nat} (hi:i < l.length) (y:α) {a b e:Value} (hy:ce y=[a,b,e]):OwnC ce 3 el (((w.setCell ⟨g,i * 3,none⟩ a).setCell ⟨g,i * 3+1,none⟩ b).setCell ⟨g,i * 3+2,none⟩ e) (.slice (some ⟨g,0,none⟩) l.length c) (l.set i y):=by
 have o:=bp (bp (bp h.own (i * 3) a) (i * 3+1) b) (i * 3+2) e
 refine ⟨?_,h.sz⟩
 rw [bk]
 have hl:=wM h.sz l
 rw [← EZ (sz:=3) h.sz hi y (((l.flatMap ce).set (i * 3) a).set (i * 3+1) b |>.set (i * 3+2) e) (by simp [hl]) (fun j hj=>by rw [List.getElem?_set_ne (by omega),List.getElem?_set_ne (by omega),List.getElem?_set_ne (by omega)]) fun j u hj => ?_]
 ·exact o
 ·rw [hy] at hj
  match j,hj with
  | 0,hj=>rw [List.getElem?_set_ne (by omega),List.getElem?_set_ne (by omega),Nat.add_zero,List.getElem?_set_self (by rw [hl]; omega)]; exact hj
  | 1,hj=>rw [List.getElem?_set_ne (by omega),List.getElem?_set_self (by rw [bk,hl]; omega)]; exact hj
  | 2,hj=>rw [List.getElem?_set_self (by rw [bk,bk,hl]; omega)]; exact hj
theorem OwnC.set2 {g c:Nat} (h:OwnC ce 2 el w (.slice (some ⟨g,0,none⟩) l.length c) l) {i:Nat} (hi:i < l.length) (y:α) {a b:Value} (hy:ce y=[a,b]):OwnC ce 2 el ((w.setCell ⟨g,i * 2,none⟩ a).setCell ⟨g,i * 2+1,none⟩ b) (.slice (some ⟨g,0,none⟩) l.length c) (l.set i y):=by
 have o:=bp (bp h.own (i * 2) a) (i * 2+1) b
 refine ⟨?_,h.sz⟩
 rw [bk]
 have hl:=wM h.sz l
 rw [← EZ (sz:=2) h.sz hi y (((l.flatMap ce).set (i * 2) a).set (i * 2+1) b) (by simp [hl]) (fun j hj=>by rw [List.getElem?_set_ne (by omega),List.getElem?_set_ne (by omega)]) fun j u hj => ?_]
 ·exact o
 ·rw [hy] at hj
  match j,hj with
  | 0,hj=>rw [List.getElem?_set_ne (by omega),Nat.add_zero,List.getElem?_set_self (by rw [hl]; omega)]; exact hj
  | 1,hj=>rw [List.getElem?_set_self (by rw [bk,hl]; omega)]; exact hj
theorem Fs {P:Program} {q:aq} {t ty:TypeId} {by_:Nat} {m:List α} {u:Value} (row:gQ P t=some (el,sz,by_)) (h:OwnC ce sz el w v l) (hu:tP w u m.length (m.flatMap ce)) (h1:∀ x ∈ m,∀ y ∈ ce x,y.oneCell'=true) (hb:(l.length+m.length) * (by_+1)≤140737488355328)
    (hk:∀ v2 w2,OwnC ce sz el w2 v2 (l++m)→Keep (fun b _=>v.ownBlock=some b) w w2→cZ w v v2→q v2 w2):pe P #[t,t] ty #[v,u] q w:=by
 refine rB row h.own (wM h.sz m) hu (fun y hy=>by obtain ⟨x,hx,h2⟩:=db.1 hy; exact h1 x hx y h2) hb fun v2 w2 o2 k2 n2 _=>hk v2 w2 ⟨?_,h.sz⟩ (k2 _ fun b _ hb _=>hb) fun g hg => ?_
 ·rw [aM,cV]; exact o2
 ·rcases n2 with h | ⟨g',h,h',_⟩
  ·left; rw [← h]; exact hg
  ·right; rw [h] at hg; cases hg; exact h'
theorem sd {P:Program} {q:aq} {t ty:TypeId} {by_ n:Nat} {W:World} {C:Array Value} (x:α) (row:gQ P t=some (el,sz,by_)) (h:OwnC ce sz el w v l) (hC:C=(ce x).toArray) (hW:W=w.alloc (.cells C el)∨W=(w.alloc (.cells C el)).drew) (hn:n=w.heap.size) (h1:∀ y ∈ ce x,y.oneCell'=true) (hb:(l.length+1) * (by_+1)≤140737488355328)
    (hk:∀ v2 w2,OwnC ce sz el w2 v2 (l++[x])→Keep (fun b _=>v.ownBlock=some b) w w2→cZ w v v2→q v2 w2):pe P #[t,t] ty #[v,.slice (some ⟨n,0,none⟩) 1 1] q W:=by
 subst hC hn
 have k4:bY w W:=by
  rcases hW with rfl | rfl
  ·exact aL _
  ·exact Keep.drew (aL _)
 have hc:∀ j u,(ce x)[j]? = some u→W.cell? ⟨w.heap.size,j,none⟩=some u:=fun j u hu=>by
  have:(w.alloc (.cells (ce x).toArray el)).cell? ⟨w.heap.size,j,none⟩=some u:=by rw [aA (aD _) (by omega)]; simpa using hu
  rcases hW with rfl | rfl
  ·exact this
  ·exact this
 refine Fs (m:=[x]) row (h.ext k4) ⟨rfl,fun j u hu => ?_⟩ (fun y hy=>by rw [ae.1 hy]; exact h1) hb fun v2 w2 o2 k2 n2=>hk v2 w2 o2 (k4.keep.trans k2) fun g hg => ?_
 ·rw [ic rfl]
  have:=hc j u (by simpa using hu)
  simpa using this
 ·rcases n2 g hg with h | h
  ·exact .inl h
  ·exact .inr (aU k4.size h)
end
end Go.E
end
section
namespace Go.Proofs
open Go Go.E Go.Sort Go.Proofs.Tryz
section
variable {k:aq} {d w:World}
theorem eW {w:World} {g o:Nat} {x:K} (h:Fb KE 3 w g o x):w.cell? ⟨g,o,none⟩=some (.int .u64 x.tr)∧w.cell? ⟨g,o+1,none⟩=some (.string ⟨x.suf.toArray⟩)∧w.cell? ⟨g,o+2,none⟩=some (.string ⟨x.val.toArray⟩)∧x.tr < 18446744073709551616:=by
 obtain ⟨cs,_,hcs,rfl,h⟩:=h
 exact ⟨hcs 0 _ rfl,hcs 1 _ rfl,hcs 2 _ rfl,h⟩
theorem dI {w:World} {g o:Nat} {x:Sp} (h:Fb dY 3 w g o x):w.cell? ⟨g,o,none⟩=some (.string ⟨x.s.toArray⟩)∧w.cell? ⟨g,o+1,none⟩=some (.string ⟨x.e.toArray⟩)∧∃ a c,w.cell? ⟨g,o+2,none⟩=some (.slice a x.ks.length c)∧Sl KE 3 w (.slice a x.ks.length c) x.ks:=by
 obtain ⟨cs,_,hcs,v,rfl,h⟩:=h
 obtain ⟨a,c,rfl⟩:=h.form
 exact ⟨hcs 0 _ rfl,hcs 1 _ rfl,a,c,hcs 2 _ rfl,h⟩
theorem sf {v:Value} {l:List K} (hv:Sl KE 3 w v l) (hl:l.length≤2147483647) (hk:wK True k w):aX prog 159 #[v] k w:=by
 obtain ⟨ka,kc,rfl⟩:=hv.form
 refine ai [.tmp 2] func159 ?_
 refine al ?_
 refine bO (fun i:Nat=>[(0,.slice ka l.length kc),(2,.bool false),(3,.int .i64 i)])
  (fun i w'=>1≤i∧bY w w') (fun i _=>l.length - i) 1 (by kernel_rfl) ?_ ⟨aD _,bY.refl _⟩ ?_
 ·exact bE
 rintro K2 e i w1 ⟨i2,i3⟩ hK2
 rcases aH i l.length with hi | hi
 rotate_left
 ·have hi':¬ (i:Int) < l.length:=by omega
  refine bf @hi' ?_
  exact hk.yes i3 trivial
 have hi':(i:Int) < l.length:=by omega
 obtain ⟨g,f,c,hv',hc,hat⟩:=(hv.inc KE.mono i3.inc).at (by omega)
 obtain ⟨rfl,rfl⟩:=sEq hv'
 obtain ⟨x,hx⟩:=gEl hi
 obtain ⟨y,hy⟩:∃ y,l[i - 1]? = some y:=⟨_,aC (by omega)⟩
 have h0:=(eW (hat i x hx)).1
 have h1:=(eW (hat (i - 1) y hy)).1
 have e1:(i:Int) - 1=((i - 1:Nat):Int):=by omega
 refine dV @hi' @e1 ?_
 refine ay (sq [0,1,2,3,4] (.read 5 (sq [6,7,8,9] (.read 10 (sq [11] .done))))) ?_
 refine eI @h0 @h1 @e1 ?_
 by_cases hlt:(y.tr:Int) < x.tr
 ·refine bf @hlt ?_
  exact hk.no (Keep.drew i3)
 ·refine bf @hlt ?_
  refine hK2 _ _ (i+1) ?_ ⟨by omega,Keep.drew i3⟩ (by omega)
  exact bE
theorem Ea {kv:Value} {x:Sp} (hv:Sl KE 3 w kv x.ks) (hl:x.ks.length≤2147483647) (hk:wK (x.s < x.e∧x.ks≠[]) k w):aX prog 143 #[.agg #[.string ⟨x.s.toArray⟩,.string ⟨x.e.toArray⟩,kv]] k w:=by
 obtain ⟨ka,kc,rfl⟩:=hv.form
 refine ai [.tmp 2] func143 ?_
 by_cases h1:x.s < x.e
 ·by_cases h2:(0:Int) < x.ks.length
  ·refine eI @aA @h1 @h2 ?_
   refine sf (hv.inc KE.mono (aL _).inc) hl fun b w2 x2 _ => ?_
   have x3:=(aL _).trans x2
   refine al ?_
   exact hk _ _ x3 fun _=>⟨h1,List.length_pos_iff.1 (by omega)⟩
  ·refine eI @aA @h1 @h2 ?_
   exact hk.no (aL _)
 ·refine dV @aA @h1 ?_
  exact hk.no (aL _)
theorem Eb {v:Value} {l:List Sp} {n:Nat} (hv:Sl dY 3 w v l) (hl:l.length≤2147483647) (hk:wK (l.length≤n∧∀ x ∈ l,x.ks.length≤40) k w):aX prog 128 #[v,.int .i64 n] k w:=by
 obtain ⟨ka,kc,rfl⟩:=hv.form
 refine ai [.tmp 4] func128 ?_
 refine al ?_
 refine bO (fun i:Nat=>[(0,.slice ka l.length kc),(1,.int .i64 n),(4,.bool false),(7,.slice ka l.length kc),(7+1,.int .i64 l.length),(7+2,.int .i64 i)])
  (fun i w'=>i≤l.length∧bY w w'∧∀ x ∈ l.take i,x.ks.length≤40) (fun i _=>l.length - i) 0 (by kernel_rfl) ?_ ⟨aQ _,bY.refl _,by simp⟩ ?_
 ·exact bE
 rintro K2 e i w1 ⟨i2,i3,i4⟩ hK2
 rcases aH i l.length with hi | hi
 rotate_left
 ·have hi':¬ (i:Int) < l.length:=by omega
  obtain rfl:i=l.length:=by omega
  rw [aT] at i4
  by_cases hln:(l.length:Int)≤n; (simp (disch:=first | exact dZ | fail) only [go_sem,hi',hln]; exact hk.yes i3 ⟨by omega,i4⟩); (simp (disch:=first | exact dZ | fail) only [go_sem,hi',hln]; exact hk.no i3)
 have hi':(i:Int) < l.length:=by omega
 obtain ⟨g,f,c,hv',hc,hat⟩:=(hv.inc dY.mono i3.inc).at (by omega)
 obtain ⟨rfl,rfl⟩:=sEq hv'
 obtain ⟨x,hx⟩:=gEl hi
 obtain ⟨cs,_,hcs,hR⟩:=hat i x hx
 have hA:=hat i x hx
 obtain ⟨h0,h1,a,cc,h2,_⟩:=dI hA
 by_cases h40:40 < (x.ks.length:Int)
 ·refine rA @hi' @h0 @h1 @h2 @aA @h40 ?_
  exact hk.no (i3.trans (aL _))
 ·refine rA @hi' @h0 @h1 @h2 @aA @h40 ?_
  refine hK2 _ _ (i+1) ?_ ⟨hi,i3.trans (aL _),ey i4 hx (by omega)⟩ (by omega)
  exact bE
theorem Ec {v:Value} {l:List Sp} (hv:Sl dY 3 w v l) (hl:l.length≤2147483647) (hks:∀ x ∈ l,x.ks.length≤2147483647) (hk:wK (Wf l∧∀ x ∈ l,x.ks≠[]) k w):aX prog 129 #[v] k w:=by
 obtain ⟨ka,kc,rfl⟩:=hv.form
 refine ai [.tmp 2] func129 ?_
 refine al ?_
 refine bO (fun i:Nat=>[(0,.slice ka l.length kc),(2,.bool false),(5,.slice ka l.length kc),(6,.int .i64 l.length),(7,.int .i64 i)])
  (fun i w'=>i≤l.length∧bY w w'∧(∀ j (h:j < l.length),j < i→l[j].s < l[j].e∧l[j].ks≠[])∧∀ j (h:j+1 < l.length),j+1 < i→¬ l[j+1].s < l[j].e) (fun i _=>l.length - i) 0 (by kernel_rfl) ?_ ⟨aQ _,bY.refl _,fun _ _ h=>by omega,fun _ _ h=>by omega⟩ ?_
 ·exact bE
 rintro K2 e i w1 ⟨i2,i3,i4,i5⟩ hK2
 rcases aH i l.length with hi | hi
 rotate_left
 ·have hi':¬ (i:Int) < l.length:=by omega
  obtain rfl:i=l.length:=by omega
  refine bf @hi' ?_
  refine hk.yes i3 ⟨HM (fun j h=>(i4 j h h).1) fun j h=>i5 j h h,fun x hx => ?_⟩
  obtain ⟨j,hj,rfl⟩:=aV hx
  exact (i4 j hj hj).2
 have hi':(i:Int) < l.length:=by omega
 obtain ⟨g,f,c,hv',hc,hat⟩:=(hv.inc dY.mono i3.inc).at (by omega)
 obtain ⟨rfl,rfl⟩:=sEq hv'
 have hx:l[i]? = some l[i]:=aC hi
 obtain ⟨x,hxe⟩:∃ x,x=l[i]:=⟨_,rfl⟩
 rw [← hxe] at hx
 obtain ⟨h0,h1,a,cc,h2,hks2⟩:=dI (hat i x hx)
 refine fW @hi' @h0 @h1 @h2 ?_
 obtain ⟨O,hO⟩:∃ O,O=Obj.cells #[.string ⟨x.s.toArray⟩,.string ⟨x.e.toArray⟩,.slice a x.ks.length cc] 46:=⟨_,rfl⟩
 obtain ⟨B,hB⟩:∃ B,B=w1.heap.size:=⟨_,rfl⟩
 rw [← hO,← hB]
 have c0:(w1.alloc O).cell? ⟨B,0,none⟩=some (.string ⟨x.s.toArray⟩):=by rw [hO,hB]; exact bb @aA
 have c1:(w1.alloc O).cell? ⟨B,1,none⟩=some (.string ⟨x.e.toArray⟩):=by rw [hO,hB]; exact bb @aA
 have c2:(w1.alloc O).cell? ⟨B,2,none⟩=some (.slice a x.ks.length cc):=by rw [hO,hB]; exact bb @aA
 refine ay (.read 0 (.eff 1 [] (sq [2,3,4,5,6,7,8,9,10,11] (.read 12 (sq [13] (.read 14 (sq [15,16,17] .done))))))) ?_
 refine eI @c0 @c1 @c2 ?_
 refine Ea (hks2.inc KE.mono (bY.drew' (aL O)).inc) (hks _ (aJ hx)) fun b w2 x2 hb => ?_
 have x3:bY w1 w2:=(Keep.drew (aL O)).trans x2
 have x4:=i3.trans x3
 cases b with
 | false =>
  refine al ?_
  exact hk.no x4
 | true =>
  obtain ⟨f1,f2⟩:=hb rfl
  have c0:=x2.cell (show (w1.alloc O).drew.cell? _=_ from c0)
  rcases bB i with hz | hz
  ·have hz':¬ (0:Int) < (i:Int):=by omega
   refine bf @hz' ?_
   refine hK2 _ _ (i+1) ?_ ⟨hi,x4,fun j h hj => ?_,fun j h hj=>by omega⟩ (by omega)
   ·exact bE
   ·obtain rfl:j=i:=by omega
    rw [← hxe]; exact ⟨f1,f2⟩
  ·have hz':(0:Int) < (i:Int):=by omega
   obtain ⟨y,hy⟩:∃ y,l[i - 1]? = some y:=⟨_,aC (by omega)⟩
   have e1:(i:Int) - 1=((i - 1:Nat):Int):=by omega
   have g1:=x3.cell (dI (hat (i - 1) y hy)).2.1
   have hye:y=l[i - 1]:=by rw [aC (by omega)] at hy; cases hy; rfl
   by_cases hlt:x.s < y.e
   ·refine gH @hz' @e1 @g1 @c0 @hlt ?_
    exact hk.no x4
   ·refine gH @hz' @e1 @g1 @c0 @hlt ?_
    refine hK2 _ _ (i+1) ?_ ⟨hi,x4,fun j h hj => ?_,fun j h hj => ?_⟩ (by omega)
    ·exact bE
    ·rcases aH j i with h3 | h3
     ·exact i4 j h h3
     ·obtain rfl:j=i:=by omega
      rw [← hxe]; exact ⟨f1,f2⟩
    ·rcases aH (j+1) i with h3 | h3
     ·exact i5 j h h3
     ·obtain rfl:j=i - 1:=by omega
      rw [← hye]
      simp only [show i - 1+1=i by omega]
      rw [← hxe]
      exact hlt
def KQ (n:Nat) (l:List Sp):Prop:=l.length≤n∧Wf l∧∀ x ∈ l,x.ks≠[]∧x.ks.length≤40
theorem wO {v:Value} {l:List Sp} {n:Nat} (hv:Sl dY 3 w v l) (hl:l.length≤2147483647) (hks:∀ x ∈ l,x.ks.length≤2147483647) (hk:wK (KQ n l) k w):aX prog 94 #[v,.int .i64 n] k w:=by
 obtain ⟨ka,kc,rfl⟩:=hv.form
 refine ai [.tmp 4] func94 ?_
 refine al ?_
 refine Eb hv hl fun b w2 x2 hb => ?_
 cases b with
 | false =>
  refine al ?_
  exact hk.no x2
 | true =>
  refine al ?_
  refine Ec (hv.inc dY.mono x2.inc) hl hks fun b w3 x3 hc => ?_
  refine al ?_
  exact hk _ _ (x2.trans x3) fun h=>⟨(hb rfl).1,(hc h).1,fun x hx=>⟨(hc h).2 x hx,(hb rfl).2 x hx⟩⟩
theorem sg {v:Value} {l:List (List Sp)} {n:Nat} (hv:Sl jx 1 w v l) (hl:l.length≤2147483647) (hs:∀ x ∈ l,x.length≤2147483647∧∀ y ∈ x,y.ks.length≤2147483647) (hk:wK (l.length≤6∧∀ x ∈ l,KQ n x) k w):aX prog 57 #[v,.int .i64 n] k w:=by
 obtain ⟨ka,kc,rfl⟩:=hv.form
 refine ai [.tmp 4] func57 ?_
 refine al ?_
 refine bO (fun i:Nat=>[(0,.slice ka l.length kc),(1,.int .i64 n),(4,.bool false),(7,.slice ka l.length kc),(7+1,.int .i64 l.length),(7+2,.int .i64 i)])
  (fun i w'=>i≤l.length∧bY w w'∧∀ x ∈ l.take i,KQ n x) (fun i _=>l.length - i) 0 (by kernel_rfl) ?_ ⟨aQ _,bY.refl _,by simp⟩ ?_
 ·exact bE
 rintro K2 e i w1 ⟨i2,i3,i4⟩ hK2
 rcases aH i l.length with hi | hi
 rotate_left
 ·have hi':¬ (i:Int) < l.length:=by omega
  obtain rfl:i=l.length:=by omega
  rw [aT] at i4
  by_cases hln:(l.length:Int)≤6; (simp (disch:=first | exact dZ | fail) only [go_sem,hi',hln]; exact hk.yes i3 ⟨by omega,i4⟩); (simp (disch:=first | exact dZ | fail) only [go_sem,hi',hln]; exact hk.no i3)
 have hi':(i:Int) < l.length:=by omega
 obtain ⟨g,f,c,hv',hc,hat⟩:=(hv.inc jx.mono i3.inc).at (by omega)
 obtain ⟨rfl,rfl⟩:=sEq hv'
 obtain ⟨x,hx⟩:=gEl hi
 obtain ⟨cs,_,hcs,hR⟩:=hat i x hx
 obtain ⟨kv,rfl,hkv⟩:=hR
 obtain ⟨kva,kvc,rfl⟩:=hkv.form
 have h0:w1.cell? ⟨g,f+i * 1,none⟩=some (.slice kva x.length kvc):=hcs 0 _ rfl
 obtain ⟨s1,s2⟩:=hs x (aJ hx)
 refine dV @hi' @h0 ?_
 refine wO hkv s1 s2 fun b w2 x2 hb => ?_
 have x3:=i3.trans x2
 cases b with
 | false =>
  refine al ?_
  exact hk.no (x3)
 | true =>
  refine al ?_
  refine hK2 _ _ (i+1) ?_ ⟨hi,x3,ey i4 hx (hb rfl)⟩ (by omega)
  exact bE
end
end Go.Proofs
end
section
namespace Go.E
open Go Go.Sort Go.Proofs Go.Proofs.Tryz
def wq (x:K):List Value:=[.int .u64 x.tr,str x.suf,str x.val]
theorem pS (x:K):(wq x).length=3:=rfl
theorem pT (x:K):∀ y ∈ wq x,y.oneCell'=true:=by simp [wq,Value.oneCell',str]
def dC {α:Type} (x:α) (a:List α) (j:Nat):List α:=a.take j++x :: a.drop j
theorem si {α:Type} (x:α) {a:List α} {j:Nat} (h:j≤a.length):(dC x a j).length=a.length+1:=by unfold dC; simp; omega
theorem yS {α:Type} (x:α) (a:List α):a++[x]=dC x a a.length:=by unfold dC; simp
theorem uu {α:Type} (x:α) {a:List α} {j:Nat} (h:j≤a.length):(dC x a j)[j]? = some x:=by
 unfold dC
 rw [bP (by rw [ar]; omega),ar,Nat.min_eq_left h,Nat.sub_self]
 rfl
theorem yT {α:Type} (x:α) {a:List α} {j i:Nat} (h:j≤a.length) (hi:i < j):(dC x a j)[i]? = a[i]? := by
 unfold dC
 rw [bG (by rw [ar]; omega),List.getElem?_take_of_lt hi]
theorem uv {α:Type} (x y:α) {a:List α} {j:Nat} (h:j+1≤a.length) (hy:a[j]? = some y):((dC x a (j+1)).set (j+1) y).set j x=dC x a j:=by
 have hj:j < a.length:=by omega
 have hy':a[j]=y:=by rw [aC hj] at hy; simpa using hy
 unfold dC
 rw [List.take_add_one,hy,cN hj,hy']
 have e1:(a.take j++(some y).toList++x :: a.drop (j+1))=a.take j++y :: x :: a.drop (j+1):=by simp
 have hl:(a.take j).length=j:=by rw [ar]; omega
 rw [e1,List.set_append_right _ _ (by omega),List.set_append_right _ _ (by omega),hl]
 simp
theorem gU {α:Type} {lt:α→α→Bool} {x y:α} {l:List α} {i:Nat} (hy:l[i]? = some y):fS lt x l (i+1)=if lt x y then fS lt x l i else i+1:=by
 conv=>lhs; unfold fS
 rw [hy]
theorem lE {α:Type} {lt:α→α→Bool} {l:List α} {i:Nat} {x:α} (h:l[i]? = some x):iw lt (l.take (i+1))=lR lt x (iw lt (l.take i)):=by
 rw [bn h]
 unfold iw
 rw [List.foldl_append]
 rfl
section
variable {α:Type} {ce:α→List Value} {el:TypeId} {w:World} {l:List α} {g n c i:Nat} {a b e:Value}
theorem OwnC.set3' (h:OwnC ce 3 el w (.slice (some ⟨g,0,none⟩) n c) l) (hn:l.length=n) (hi:i < l.length) (y:α) (hy:ce y=[a,b,e]):OwnC ce 3 el (((w.setCell ⟨g,i * 3,none⟩ a).setCell ⟨g,i * 3+1,none⟩ b).setCell ⟨g,i * 3+2,none⟩ e) (.slice (some ⟨g,0,none⟩) n c) (l.set i y):=by
 subst hn; exact h.set3 hi y hy
theorem OwnC.set2' (h:OwnC ce 2 el w (.slice (some ⟨g,0,none⟩) n c) l) (hn:l.length=n) (hi:i < l.length) (y:α) (hy:ce y=[a,b]):OwnC ce 2 el ((w.setCell ⟨g,i * 2,none⟩ a).setCell ⟨g,i * 2+1,none⟩ b) (.slice (some ⟨g,0,none⟩) n c) (l.set i y):=by
 subst hn; exact h.set2 hi y hy
end
end Go.E
namespace Go.Proofs
open Go Go.E Go.Sort Go.Proofs.Tryz
section
variable {k:aq} {d w:World}
set_option maxHeartbeats 1000000 in
theorem qL {v:Value} {l:List K} (hv:Sl KE 3 w v l) (hl:l.length < 100000) (hk:∀ v' w',bY w w'→OwnC wq 3 88 w' v' (cH l)→(∀ g,v'.ownBlock=some g→w.heap.size≤g)→k v' w'):aX prog 75 #[v] k w:=by
 obtain ⟨ka,kc,rfl⟩:=hv.form
 refine ai [.tmp 2] func75 ?_
 refine al ?_
 refine bO (fun b:Nat × Value=>[(3,b.2),(7,.slice ka l.length kc),(8,.int .i64 l.length),(9,.int .i64 b.1)])
  (fun b w'=>b.1≤l.length∧bY w w'∧OwnC wq 3 88 w' b.2 (iw gO (l.take b.1))∧∀ g,b.2.ownBlock=some g→w.heap.size≤g) (fun b _=>l.length - b.1) (0,.slice none 0 0) (by kernel_rfl) ?_ ⟨aQ _,bY.refl _,OwnC.nil pS,by simp [Value.ownBlock]⟩ ?_
 ·exact bE
 rintro K2 e ⟨i,v⟩ w1 ⟨i2,i3,i4,i5⟩ hK2
 simp only at i2 i4 i5
 rcases aH i l.length with hi | hi
 rotate_left
 ·have hi':¬ (i:Int) < l.length:=by omega
  refine bf @hi' ?_
  obtain rfl:i=l.length:=by omega
  rw [aT] at i4
  exact hk v w1 i3 i4 i5
 have hi':(i:Int) < l.length:=by omega
 obtain ⟨g,f,c,hv',hc,hat⟩:=(hv.inc KE.mono i3.inc).at (by omega)
 obtain ⟨rfl,rfl⟩:=sEq hv'
 obtain ⟨x,hx⟩:=gEl hi
 obtain ⟨h0,h1,h2,htr⟩:=eW (hat i x hx)
 obtain ⟨a,ha⟩:∃ a,a=iw gO (l.take i):=⟨_,rfl⟩
 have hal:a.length=i:=by rw [ha,lB,dB i2]
 rw [← ha] at i4
 obtain ⟨va,vcap,rfl,_,hcm⟩:=i4.form
 refine gH @hi' @h0 @h1 @h2 @aA ?_
 refine sd x rw44 (i4.ext (aL _)) rfl (.inl rfl) (by rw [World.size_alloc]) (pT x) (by omega) fun v2 w2 o2 k2 n2 => ?_
 have x2:bY w w2:=(i3.trans (aL _)).tr k2 fun b o hb h=>by have:=i5 b h; omega
 have new2:∀ g,v2.ownBlock=some g→w.heap.size≤g:=fun g hg=>by
  rcases n2 g hg with h | h
  ·exact i5 g h
  ·rw [World.size_alloc] at h
   have:=i3.size
   omega
 rw [yS] at o2
 obtain ⟨g2,c2,rfl,_⟩:=o2.block (i:=0) (by rw [si x (aD _)]; omega)
 have hlen:∀ j,j≤a.length→(dC x a j).length=a.length+1:=fun j hj=>si x hj
 rw [hlen _ (aD _)] at o2 ⊢
 have e1:IntKind.i64.wrap ((a.length:Int)+1 - 1)=a.length:=by rw [jo (by omega) (by omega)]; omega
 have e2:((a.length+1:Nat):Int) - 1=a.length:=by omega
 refine bf @e2 ?_
 refine bO (fun j:Nat=>[(3,.slice (some ⟨g2,0,none⟩) (a.length+1) c2),(6,.int .i64 j),(7,.slice (some ⟨g,f,none⟩) l.length kc),(8,.int .i64 l.length),(9,.int .i64 i)])
  (fun j w'=>j≤a.length∧bY w w'∧OwnC wq 3 88 w' (.slice (some ⟨g2,0,none⟩) (a.length+1) c2) (dC x a j)∧fS gO x a a.length=fS gO x a j) (fun j _=>j) a.length (by kernel_rfl) ?_ ⟨aD _,x2,o2,rfl⟩ ?_
 ·exact bE
 rintro K3 e3 j w3 ⟨j1,j2,j3,j4⟩ hK3
 have j3':OwnC wq 3 88 w3 (.slice (some ⟨g2,0,none⟩) (dC x a j).length c2) (dC x a j):=by rw [hlen _ j1]; exact j3
 rcases j with _ | j
 ·have hz:¬ (0:Int) < ((0:Nat):Int):=by omega
  refine al ?_
  refine ay (sq [0,1,2,3,4,5] (.read 6 (sq [7,8,9,10] (.read 11 (.eff 12 [] (sq [13] .done)))))) ?_
  refine bf @hz ?_
  have j3:=j3.ext (bY.drew' (bY.refl w3))
  have j2:=bY.drew' j2
  have hj:fS gO x a a.length=0:=by
   rw [j4]
   first | rfl | (rw [gU hy,if_neg (by rw [hlt]; simp)])
  have hins:lR gO x a=dC x a (0):=by
   unfold lR dC
   rw [hj]
  refine hK2 _ _ (i+1,.slice (some ⟨g2,0,none⟩) (a.length+1) c2) ?_ ⟨hi,j2,?_,new2⟩ (by simp only; omega)
  ·exact bE
  ·simp only
   rw [lE hx,← ha,hins]
   exact j3
 have hz:(0:Int) < ((j+1:Nat):Int):=by omega
 have e3:((j+1:Nat):Int) - 1=(j:Nat):=by omega
 obtain ⟨y,hy⟩:∃ y,a[j]? = some y:=⟨_,aC (by omega)⟩
 have hx1:=uu x j1
 have hy1:(dC x a (j+1))[j]? = some y:=by rw [yT x j1 (by omega)]; exact hy
 have p0:=j3'.cell hx1 (j:=0) rfl
 have p1:=j3'.cell hx1 (j:=1) rfl
 have p2:=j3'.cell hx1 (j:=2) rfl
 have q0:=j3'.cell hy1 (j:=0) rfl
 have q1:=j3'.cell hy1 (j:=1) rfl
 have q2:=j3'.cell hy1 (j:=2) rfl
 simp only [str,Nat.add_zero] at p0 p1 p2 q0 q1 q2
 refine al ?_
 refine ay (sq [0,1,2,3,4,5] (.read 6 (sq [7,8,9,10] (.read 11 (.eff 12 [] (sq [13] .done)))))) ?_
 refine xS @hz @e3 @p0 @p1 @p2 @q0 @q1 @q2 ?_
 refine yR (x:=x) (y:=y) fun w4 x4 => ?_
 have x5:bY w3 w4:=(Keep.refl _ w3).drew.trans x4
 cases hlt:gO x y with
 | false =>
  refine al ?_
  have j3:=j3.ext x5
  have j2:=j2.trans x5
  have hj:fS gO x a a.length=j+1:=by
   rw [j4]
   first | rfl | (rw [gU hy,if_neg (by rw [hlt]; simp)])
  have hins:lR gO x a=dC x a (j+1):=by
   unfold lR dC
   rw [hj]
  refine hK2 _ _ (i+1,.slice (some ⟨g2,0,none⟩) (a.length+1) c2) ?_ ⟨hi,j2,?_,new2⟩ (by simp only; omega)
  ·exact bE
  ·simp only
   rw [lE hx,← ha,hins]
   exact j3
 | true =>
  have o4:=j3.ext x5
  have p0:=x5.cell p0
  have p1:=x5.cell p1
  have p2:=x5.cell p2
  have q0:=x5.cell q0
  have q1:=x5.cell q1
  have q2:=x5.cell q2
  have f4:∀ o,w4.frozen? ⟨g2,o,none⟩=false:=fun o=>cS o4.own rfl o
  refine al ?_
  refine ay (sq [0,1,2,3,4,5,6,7,8] (.read 9 (sq [10,11,12] (.read 13 (sq [14] (.eff 15 [] (sq [16] (.eff 17 [] .done)))))))) ?_
  refine xS @e3 @p0 @p1 @p2 @q0 @q1 @q2 @f4 ?_
  have o6:=(o4.set3' (hlen _ j1) (i:=j+1) (by rw [hlen _ j1]; omega) y rfl).set3' (by rw [bk]; exact hlen _ j1) (i:=j) (by rw [bk,hlen _ j1]; omega) x rfl
  rw [uv x y j1 hy] at o6
  have hg2:=new2 g2 rfl
  refine hK3 _ _ j ?_ ⟨by omega,bY.drew' (bX (bX (bX (bX (bX (bX (j2.trans x5) hg2) hg2) hg2) hg2) hg2) hg2),o6.ext (bY.drew' (bY.refl _)),?_⟩ (by omega)
  ·exact bE
  ·rw [j4]
   rw [gU hy,if_pos hlt]
end
end Go.Proofs
end
section
namespace Go.E
open Go Go.Sort Go.Proofs Go.Proofs.Tryz
def Ap (x:Bytes):List Value:=[str x]
theorem wP (x:Bytes):(Ap x).length=1:=rfl
theorem GN {P:Program} {k:aq} {w:World} {dT sT ty el:TypeId} {by_:Nat} {b o n c m cc:Nat} {a:Addr} {l:List Value} (h:gQ P dT=some (el,1,by_)) (hl:l.length=n) (hn:n≤m) (hv:∀ j u,l[j]? = some u→w.cell? (a.add j)=some u) (h1:∀ u ∈ l,u.oneCell'=true) (hc:∀ j,j < n→(w.cell? ⟨b,o+j,none⟩).isSome=true) (hf:∀ j,w.frozen? ⟨b,j,none⟩=false)
    (hk:k (.int .i64 n) (w.setCells b o l)):FP P #[dT,sT] ty #[.slice (some ⟨b,o,none⟩) n c,.slice (some a) m cc] k w:=by
 obtain ⟨i,z,e1,e2,e3,e4,e5,e6,e7⟩:=je h
 have:=run_copy_cells (P:=P) w dT sT ty el b o n c a m cc l e1 (by rw [e2]; simpa using e4) (by rw [hl]; exact (Nat.min_eq_right hn).symm) hv (fun j hj=>hc j (by omega)) (fun j _=>hf _) h1
 simp only [FP,dw,this,hl]
 exact hk
def HN (xs:List Value) (o:Nat):List Value→List Value
 | []=>xs
 | v :: l=>HN (xs.set o v) (o+1) l
theorem uw {w:World} {g n cap o:Nat} {xs:List Value} {e:TypeId} {sz:Nat} (l:List Value) (h:w.ownsRow 0 e sz (.slice (some ⟨g,0,none⟩) n cap) n xs):(w.setCells g o l).ownsRow 0 e sz (.slice (some ⟨g,0,none⟩) n cap) n (HN xs o l):=by
 induction l generalizing w o xs with
 | nil=>exact h
 | cons v l ih=>exact ih (bp h o v)
theorem wQ (xs:List Value) (o:Nat) (l:List Value):(HN xs o l).length=xs.length:=by
 induction l generalizing xs o with
 | nil=>rfl
 | cons v l ih=>unfold HN; rw [ih,bk]
theorem Ft (xs:List Value) (o:Nat) (l:List Value) (h:o+l.length≤xs.length) (p:Nat):(HN xs o l)[p]? = if o≤p∧p < o+l.length then l[p - o]? else xs[p]? := by
 induction l generalizing xs o with
 | nil=>rw [if_neg (by simp only [List.length_nil]; omega)]; rfl
 | cons v l ih =>
  simp only [ag] at h ⊢
  unfold HN
  rw [ih _ _ (by rw [bk]; omega)]
  by_cases hp:p=o
  ·subst hp
   rw [if_neg (by omega),if_pos (by omega),List.getElem?_set_self (by omega),Nat.sub_self]
   rfl
  ·by_cases hp2:o+1≤p∧p < o+1+l.length
   ·rw [if_pos hp2,if_pos (by omega),show p - o=p - (o+1)+1 by omega,List.getElem?_cons_succ]
   ·rw [if_neg hp2,if_neg (by omega),List.getElem?_set_ne (by omega)]
theorem wR (b:List Bytes):b.flatMap Ap=b.map str:=by
 induction b with
 | nil=>rfl
 | cons x b ih=>rw [bj,ih]; rfl
theorem ux (b:List Bytes) (key:Bytes) {i:Nat} (h:i≤b.length):(HN ((b++[[]]).map str) (i+1) ((b.drop i).map str)).set i (str key)=(b.take i++key :: b.drop i).map str:=by
 refine List.ext_getElem? fun p => ?_
 have hl:((b++[[]]).map str).length=b.length+1:=by simp
 by_cases hp:p=i
 ·subst hp
  rw [List.getElem?_set_self (by rw [wQ,hl]; omega),bq,bP (by simp; omega)]
  simp [Nat.min_eq_left h]
 ·rw [List.getElem?_set_ne (by omega),Ft _ _ _ (by rw [hl]; simp; omega),bq]
  rcases aH p i with h1 | h1
  ·rw [if_neg (by omega),bq,bq,bG (by omega),bG (by rw [ar]; omega),List.getElem?_take_of_lt h1]
  ·rw [bq (l:=b.take i++key :: b.drop i),bP (by rw [ar]; omega)]
   obtain ⟨q,rfl⟩:∃ q,p=i+1+q:=⟨p - (i+1),by omega⟩
   rw [show i+1+q - (b.take i).length=q+1 by rw [ar]; omega,List.getElem?_cons_succ]
   by_cases hq:q < (b.drop i).length
   ·rw [if_pos (by simp only [ah]; omega),show i+1+q - (i+1)=q by omega]
   ·rw [if_neg (by simp only [ah]; omega),List.getElem?_eq_none (by rw [hl]; rw [List.length_drop] at hq; omega),List.getElem?_eq_none (by omega)]
    rfl
end Go.E
namespace Go.Proofs
open Go Go.E Go.Sort Go.Proofs.Tryz
section
variable {k:aq} {d w:World}
set_option maxHeartbeats 1000000 in
theorem yU {B:Nat} {v:Value} {b:List Bytes} {key:Bytes} (hc:w.cell? ⟨B,0,none⟩=some v) (hf:∀ x,w.frozen? ⟨B,x,none⟩=false) (o:OwnC Ap 1 9 w v b) (hB:v.ownBlock≠some B) (hl:b.length < 100000)
    (hk:∀ v2 w2,OwnC Ap 1 9 w2 v2 (jY b key)→w2.cell? ⟨B,0,none⟩=some v2→Keep (fun x _=>x=B∨v.ownBlock=some x) w w2→cZ w v v2→k (.tuple #[]) w2):aX prog 130 #[.string ⟨key.toArray⟩,.pointer (some ⟨B,0,none⟩)] k w:=by
 obtain ⟨va,vc,rfl,hcl,hcm⟩:=o.form
 refine ai [] func130 ?_
 refine bf @hc ?_
 refine gm (fun i:Nat=>[(0,.string ⟨key.toArray⟩),(1,.pointer (some ⟨B,0,none⟩)),(3,.int .i64 i)]) (fun i w'=>i≤b.length∧w'=w∧fS E3 key b b.length=i) (by kernel_rfl) (fun K hK => ?_) ?_
 ·refine bO (fun i:Nat=>[(0,.string ⟨key.toArray⟩),(1,.pointer (some ⟨B,0,none⟩)),(3,.int .i64 i)])
    (fun i w'=>i≤b.length∧w'=w∧fS E3 key b b.length=fS E3 key b i) (fun i _=>i) b.length (by kernel_rfl) ?_ ⟨aD _,rfl,rfl⟩ ?_
  ·exact bE
  rintro K2 e i w' ⟨i1,rfl,i3⟩ hK2
  rcases i with _ | i
  ·have hz:¬ (0:Int) < ((0:Nat):Int):=by omega
   refine dV @hc @hz ?_
   refine hK _ _ 0 ?_ ⟨aQ _,rfl,by rw [i3]; rfl⟩
   exact bE
  have hz:(0:Int) < ((i+1:Nat):Int):=by omega
  have e1:((i+1:Nat):Int) - 1=(i:Nat):=by omega
  obtain ⟨y,hy⟩:∃ y,b[i]? = some y:=⟨_,aC (by omega)⟩
  obtain ⟨g,c,hve,_⟩:=o.block (show i < b.length by omega)
  obtain ⟨rfl,rfl⟩:va=some ⟨g,0,none⟩∧vc=c:=by simpa using hve
  have p0:=o.cell hy (j:=0) rfl
  simp only [str,Nat.add_zero] at p0
  by_cases hge:y < key
  ·refine rA @hc @hz @e1 @p0 @hge @not_true_eq_false ?_
   refine hK _ _ (i+1) ?_ ⟨i1,rfl,by rw [i3,gU hy,if_neg (by unfold E3; simpa using hge)]⟩
   exact bE
  ·refine rA @hc @hz @e1 @p0 @hge @not_false_eq_true ?_
   refine hK2 _ _ i ?_ ⟨by omega,rfl,by rw [i3,gU hy,if_pos (by unfold E3; exact aO hge)]⟩ (by omega)
   exact bE
 rintro e i w' ⟨i1,rfl,hidx⟩
 by_cases he:b[i]? = some key
 ·have ha:jY b key=b:=by unfold jY; rw [hidx,if_pos he]
  rw [ha] at hk
  have hlt:i < b.length:=(aP.1 he).1
  have hlt':(i:Int) < b.length:=by omega
  obtain ⟨g,c,hve,_⟩:=o.block hlt
  obtain ⟨rfl,rfl⟩:va=some ⟨g,0,none⟩∧vc=c:=by simpa using hve
  have p0:=o.cell he (j:=0) rfl
  simp only [str,Nat.add_zero] at p0
  refine eI @hc @hlt' @p0 ?_
  exact hk _ w' o hc (Keep.refl _ w') (cZ.refl _ _)
 have ha:jY b key=b.take i++key :: b.drop i:=by unfold jY lR; rw [hidx,if_neg he]
 rw [ha] at hk
 obtain ⟨vn,hvn⟩:∃ vn:Value,vn = .slice va b.length vc:=⟨_,rfl⟩
 rw [← hvn] at o hc hk hB
 have next:∀ (v2:Value) (w2:World),OwnC Ap 1 9 w2 v2 (b++[[]])→Keep (fun x _=>vn.ownBlock=some x) w' w2→cZ w' vn v2→∃ g c,v2 = .slice (some ⟨g,0,none⟩) (b.length+1) c∧b.length+1≤c∧c≤9223372036854775807∧g≠B:=by
  intro v2 w2 o2 k2 n2
  obtain ⟨a,c,e1,e2,e3⟩:=o2.form
  obtain ⟨g,c',e4,_⟩:=o2.block (i:=0) (by simp)
  rw [e1] at e4
  obtain ⟨rfl,rfl⟩:a=some ⟨g,0,none⟩∧c=c':=by simpa using e4
  refine ⟨g,c,by rw [e1]; simp,by simpa using e2,e3,fun hg => ?_⟩
  rcases n2 g (by rw [e1]; rfl) with h | h
  ·exact hB (by rw [h,hg])
  ·have:=aE hc; omega
 by_cases hlt:i < b.length
 ·have hlt':(i:Int) < b.length:=by omega
  obtain ⟨y,hy⟩:=gEl hlt
  have hyk:¬ y=key:=fun h=>he (by rw [hy,h])
  obtain ⟨g,c,hve,_⟩:=o.block hlt
  rw [hvn] at hve
  obtain ⟨rfl,rfl⟩:va=some ⟨g,0,none⟩∧vc=c:=by simpa using hve
  have p0:=(by rw [← hvn]; exact o:OwnC Ap 1 9 w' (.slice (some ⟨g,0,none⟩) b.length vc) b).cell hy (j:=0) rfl
  simp only [str,Nat.add_zero] at p0
  refine gH @hc @hvn @hlt' @p0 @hyk ?_
  rw [← hvn]
  refine sd ([]:Bytes) rw66 o rfl (.inl rfl) rfl (by simp [Ap,str,Value.oneCell']) (by omega) fun v2 w2 o2 k2 n2 => ?_
  obtain ⟨g2,c2,rfl,c3,c4,hgB⟩:=next v2 w2 o2 k2 n2
  have hc2:=k2.some hc fun h=>hB h
  have hBl:=aE hc
  have f2:∀ x,w2.frozen? ⟨B,x,none⟩=false:=fun x=>by rw [k2.frozen B x hBl]; exact hf x
  refine dV @hc2 @f2 ?_
  obtain ⟨w3,hw3⟩:∃ w3,w3=w2.setCell ⟨B,0,none⟩ (.slice (some ⟨g2,0,none⟩) (b.length+1) c2):=⟨_,rfl⟩
  rw [← hw3]
  have hc3:w3.cell? ⟨B,0,none⟩=some (.slice (some ⟨g2,0,none⟩) (b.length+1) c2):=by rw [hw3,cC,hc2]; rfl
  have o3:OwnC Ap 1 9 w3 (.slice (some ⟨g2,0,none⟩) (b.length+1) c2) (b++[[]]):=by rw [hw3]; exact o2.keep (bR (M:=fun x _=>x=B) rfl) fun g hg _ h=>hgB (by cases hg; exact h)
  have k3:Keep (fun x _=>x=B∨vn.ownBlock=some x∨x=g2) w' w3:=by rw [hw3]; exact (k2.mono fun x _ _ h => .inr (.inl h)).set fun _ => .inl rfl
  have f3:∀ x,w3.frozen? ⟨g2,x,none⟩=false:=fun x=>cS o3.own rfl x
  have ew:IntKind.i64.wrap ((i:Int)+1)=((i+1:Nat):Int):=by rw [jo (by omega) (by omega)]; omega
  have s1:∀ q,dW prog 66 (.slice (some ⟨g2,0,none⟩) (b.length+1) c2) (some (.int .i64 ((i+1:Nat):Int))) none none q=q (.slice (if (c2:Int)=((i+1:Nat):Int) then some ⟨g2,0,none⟩ else some ⟨g2,i+1,none⟩) (b.length - i) (c2 - (i+1))):=fun q=>by
   rw [fj Tryz.es66 rfl rfl (by omega) (by simp [bd]; omega) (by simp [bd]; omega) (by simp [bd]) (by simp)]
   simp only [oR,bm,Nat.mul_one,Option.map_some,ic,Nat.zero_add]
   rw [show b.length+1 - (i+1)=b.length - i by omega]
  have s2:∀ q,dW prog 66 (.slice (some ⟨g2,0,none⟩) (b.length+1) c2) (some (.int .i64 (i:Int))) none none q=q (.slice (some ⟨g2,i,none⟩) (b.length+1 - i) (c2 - i)):=fun q=>by
   rw [fj Tryz.es66 rfl rfl (by omega) (by simp [bd]; omega) (by simp [bd]; omega) (by simp [bd]) (by simp)]
   simp only [oR,bm,Nat.mul_one,Option.map_some,ic,Nat.zero_add]
   rw [if_neg (by omega)]
  refine ay (.read 0 (sq [1,2,3] (.read 4 (sq [5,6] (.eff 7 [] .done))))) ?_
  refine fW @hc3 @ew @s1 @s2 ?_
  obtain ⟨l4,hl4⟩:∃ l4,l4=(b.drop i).map str:=⟨_,rfl⟩
  have hll:l4.length=b.length - i:=by rw [hl4,ah,List.length_drop]
  have hcell:∀ (p:Nat) (x:Bytes),(b++[[]])[p]? = some x→w3.cell? ⟨g2,p,none⟩=some (str x):=fun p x hx=>by
   have o3':OwnC Ap 1 9 w3 (.slice (some ⟨g2,0,none⟩) (b++[[]]).length c2) (b++[[]]):=by rw [aM]; exact o3
   have:=o3'.cell hx (j:=0) rfl
   rwa [Nat.mul_one,Nat.add_zero] at this
  have cp:∀ q:aq,q (.int .i64 ((b.length - i:Nat):Int)) (w3.drew.setCells g2 (i+1) l4)→FP prog #[66,66] 3 #[.slice (if (c2:Int)=((i+1:Nat):Int) then some ⟨g2,0,none⟩ else some ⟨g2,i+1,none⟩) (b.length - i) (c2 - (i+1)),.slice (some ⟨g2,i,none⟩) (b.length+1 - i) (c2 - i)] q w3.drew:=fun q hq=>by
   rcases aH i b.length with h1 | h1
   ·rw [if_neg (by omega)]
    refine GN rw66 hll (by omega) (fun j u hu => ?_) (fun u hu => ?_) (fun j hj => ?_) f3 hq
    ·rw [ic rfl]
     rw [hl4,bq,List.getElem?_drop] at hu
     obtain ⟨x,hx,rfl⟩:=Option.map_eq_some_iff.1 hu
     exact hcell _ x (by rw [bG (aP.1 hx).1]; exact hx)
    ·rw [hl4] at hu
     obtain ⟨x,_,rfl⟩:=bV.1 hu
     exact Ai x
    ·have:(w3.cell? ⟨g2,i+1+j,none⟩).isSome=true:=by rw [hcell (i+1+j) _ (aC (by simp; omega))]; rfl
     exact this
   ·have hz:b.length - i=0:=by omega
    have hl0:l4=[]:=ao.1 (by omega)
    rw [hz,hl0] at hq
    rw [hz]
    exact zX rw66 hq
  refine cp _ ?_
  obtain ⟨w4,hw4⟩:∃ w4,w4=w3.drew.setCells g2 (i+1) l4:=⟨_,rfl⟩
  rw [← hw4]
  have k4:Keep (fun x _=>x=g2) w3 w4:=by rw [hw4]; exact me l4 (i+1) (Keep.refl _ w3).drew fun j _=>rfl
  have hc4:=k4.some hc3 fun h=>hgB h.symm
  have o4:=uw (n:=b.length+1) (o:=i+1) l4 (by have:=o3.own.drew; rwa [aM] at this)
  rw [← hw4,wR,hl4] at o4
  have q4:∃ u,w4.cell? ⟨g2,i,none⟩=some u:=⟨_,av o4 (aC (by rw [wQ]; simp; omega))⟩
  obtain ⟨u4,q4⟩:=q4
  have f4:∀ x,w4.frozen? ⟨g2,x,none⟩=false:=fun x=>cS o4 rfl x
  refine fW @hc4 @Nat.mul_one @q4 @f4 ?_
  have o5:=bp o4 i (str key)
  rw [ux b key i1] at o5
  refine hk _ _ ⟨?_,wP⟩ ((xJ hgB).trans hc4) ?_ n2
  ·rw [wR,show (b.take i++key :: b.drop i).length=b.length+1 by simp; omega]
   exact o5
  ·refine ((k3.tr k4 fun x _ _ h => .inr (.inr h)).set fun _ => .inr (.inr rfl)).mono fun x _ hx h => ?_
   rcases h with h | h | h
   ·exact .inl h
   ·exact .inr h
   ·rcases n2 g2 rfl with h2 | h2
    ·exact .inr (by rw [h]; exact h2)
    ·omega
 ·have hlt':¬ (i:Int) < b.length:=by omega
  refine eI @hc @hvn @hlt' ?_
  rw [← hvn]
  refine sd ([]:Bytes) rw66 o rfl (.inl rfl) rfl (by simp [Ap,str,Value.oneCell']) (by omega) fun v2 w2 o2 k2 n2 => ?_
  obtain ⟨g2,c2,rfl,c3,c4,hgB⟩:=next v2 w2 o2 k2 n2
  have hc2:=k2.some hc fun h=>hB h
  have hBl:=aE hc
  have f2:∀ x,w2.frozen? ⟨B,x,none⟩=false:=fun x=>by rw [k2.frozen B x hBl]; exact hf x
  refine dV @hc2 @f2 ?_
  obtain ⟨w3,hw3⟩:∃ w3,w3=w2.setCell ⟨B,0,none⟩ (.slice (some ⟨g2,0,none⟩) (b.length+1) c2):=⟨_,rfl⟩
  rw [← hw3]
  have hc3:w3.cell? ⟨B,0,none⟩=some (.slice (some ⟨g2,0,none⟩) (b.length+1) c2):=by rw [hw3,cC,hc2]; rfl
  have o3:OwnC Ap 1 9 w3 (.slice (some ⟨g2,0,none⟩) (b.length+1) c2) (b++[[]]):=by rw [hw3]; exact o2.keep (bR (M:=fun x _=>x=B) rfl) fun g hg _ h=>hgB (by cases hg; exact h)
  have k3:Keep (fun x _=>x=B∨vn.ownBlock=some x∨x=g2) w' w3:=by rw [hw3]; exact (k2.mono fun x _ _ h => .inr (.inl h)).set fun _ => .inl rfl
  have f3:∀ x,w3.frozen? ⟨g2,x,none⟩=false:=fun x=>cS o3.own rfl x
  have ew:IntKind.i64.wrap ((i:Int)+1)=((i+1:Nat):Int):=by rw [jo (by omega) (by omega)]; omega
  have s1:∀ q,dW prog 66 (.slice (some ⟨g2,0,none⟩) (b.length+1) c2) (some (.int .i64 ((i+1:Nat):Int))) none none q=q (.slice (if (c2:Int)=((i+1:Nat):Int) then some ⟨g2,0,none⟩ else some ⟨g2,i+1,none⟩) (b.length - i) (c2 - (i+1))):=fun q=>by
   rw [fj Tryz.es66 rfl rfl (by omega) (by simp [bd]; omega) (by simp [bd]; omega) (by simp [bd]) (by simp)]
   simp only [oR,bm,Nat.mul_one,Option.map_some,ic,Nat.zero_add]
   rw [show b.length+1 - (i+1)=b.length - i by omega]
  have s2:∀ q,dW prog 66 (.slice (some ⟨g2,0,none⟩) (b.length+1) c2) (some (.int .i64 (i:Int))) none none q=q (.slice (some ⟨g2,i,none⟩) (b.length+1 - i) (c2 - i)):=fun q=>by
   rw [fj Tryz.es66 rfl rfl (by omega) (by simp [bd]; omega) (by simp [bd]; omega) (by simp [bd]) (by simp)]
   simp only [oR,bm,Nat.mul_one,Option.map_some,ic,Nat.zero_add]
   rw [if_neg (by omega)]
  refine ay (.read 0 (sq [1,2,3] (.read 4 (sq [5,6] (.eff 7 [] .done))))) ?_
  refine fW @hc3 @ew @s1 @s2 ?_
  obtain ⟨l4,hl4⟩:∃ l4,l4=(b.drop i).map str:=⟨_,rfl⟩
  have hll:l4.length=b.length - i:=by rw [hl4,ah,List.length_drop]
  have hcell:∀ (p:Nat) (x:Bytes),(b++[[]])[p]? = some x→w3.cell? ⟨g2,p,none⟩=some (str x):=fun p x hx=>by
   have o3':OwnC Ap 1 9 w3 (.slice (some ⟨g2,0,none⟩) (b++[[]]).length c2) (b++[[]]):=by rw [aM]; exact o3
   have:=o3'.cell hx (j:=0) rfl
   rwa [Nat.mul_one,Nat.add_zero] at this
  have cp:∀ q:aq,q (.int .i64 ((b.length - i:Nat):Int)) (w3.drew.setCells g2 (i+1) l4)→FP prog #[66,66] 3 #[.slice (if (c2:Int)=((i+1:Nat):Int) then some ⟨g2,0,none⟩ else some ⟨g2,i+1,none⟩) (b.length - i) (c2 - (i+1)),.slice (some ⟨g2,i,none⟩) (b.length+1 - i) (c2 - i)] q w3.drew:=fun q hq=>by
   rcases aH i b.length with h1 | h1
   ·rw [if_neg (by omega)]
    refine GN rw66 hll (by omega) (fun j u hu => ?_) (fun u hu => ?_) (fun j hj => ?_) f3 hq
    ·rw [ic rfl]
     rw [hl4,bq,List.getElem?_drop] at hu
     obtain ⟨x,hx,rfl⟩:=Option.map_eq_some_iff.1 hu
     exact hcell _ x (by rw [bG (aP.1 hx).1]; exact hx)
    ·rw [hl4] at hu
     obtain ⟨x,_,rfl⟩:=bV.1 hu
     exact Ai x
    ·have:(w3.cell? ⟨g2,i+1+j,none⟩).isSome=true:=by rw [hcell (i+1+j) _ (aC (by simp; omega))]; rfl
     exact this
   ·have hz:b.length - i=0:=by omega
    have hl0:l4=[]:=ao.1 (by omega)
    rw [hz,hl0] at hq
    rw [hz]
    exact zX rw66 hq
  refine cp _ ?_
  obtain ⟨w4,hw4⟩:∃ w4,w4=w3.drew.setCells g2 (i+1) l4:=⟨_,rfl⟩
  rw [← hw4]
  have k4:Keep (fun x _=>x=g2) w3 w4:=by rw [hw4]; exact me l4 (i+1) (Keep.refl _ w3).drew fun j _=>rfl
  have hc4:=k4.some hc3 fun h=>hgB h.symm
  have o4:=uw (n:=b.length+1) (o:=i+1) l4 (by have:=o3.own.drew; rwa [aM] at this)
  rw [← hw4,wR,hl4] at o4
  have q4:∃ u,w4.cell? ⟨g2,i,none⟩=some u:=⟨_,av o4 (aC (by rw [wQ]; simp; omega))⟩
  obtain ⟨u4,q4⟩:=q4
  have f4:∀ x,w4.frozen? ⟨g2,x,none⟩=false:=fun x=>cS o4 rfl x
  refine fW @hc4 @Nat.mul_one @q4 @f4 ?_
  have o5:=bp o4 i (str key)
  rw [ux b key i1] at o5
  refine hk _ _ ⟨?_,wP⟩ ((xJ hgB).trans hc4) ?_ n2
  ·rw [wR,show (b.take i++key :: b.drop i).length=b.length+1 by simp; omega]
   exact o5
  ·refine ((k3.tr k4 fun x _ _ h => .inr (.inr h)).set fun _ => .inr (.inr rfl)).mono fun x _ hx h => ?_
   rcases h with h | h | h
   ·exact .inl h
   ·exact .inr h
   ·rcases n2 g2 rfl with h2 | h2
    ·exact .inr (by rw [h]; exact h2)
    ·omega
theorem zu {l:List Sp} {i:Nat} {x:Sp} (h:l[i]? = some x):bH (l.take (i+1))=jY (jY (bH (l.take i)) x.s) x.e:=by
 rw [bn h]
 unfold bH
 rw [List.foldl_append]
 rfl
theorem zv {v:Value} {l:List Sp} (hv:Sl dY 3 w v l) (hl:l.length≤10000) (hk:∀ v2 w2,bY w w2→OwnC Ap 1 9 w2 v2 (bH l)→(∀ g,v2.ownBlock=some g→w.heap.size≤g)→k v2 w2):aX prog 95 #[v] k w:=by
 obtain ⟨ka,kc,rfl⟩:=hv.form
 refine ai [.tmp 2] func95 ?_
 refine al ?_
 obtain ⟨B,hB⟩:∃ B,B=w.heap.size:=⟨_,rfl⟩
 obtain ⟨w0,hw0⟩:∃ w0,w0=w.alloc (.cells #[.slice none 0 0] 66):=⟨_,rfl⟩
 have x0:bY w w0:=by rw [hw0]; exact aL _
 have c0:w0.cell? ⟨B,0,none⟩=some (.slice none 0 0):=by rw [hw0,hB]; exact bb @aA
 have f0:∀ y,w0.frozen? ⟨B,y,none⟩=false:=fun y=>by rw [hw0,hB]; simp (disch:=first | exact dZ | fail) only [go_sem]
 rw [← hw0,← hB]
 refine bO (fun i:Nat=>[(3,.pointer (some ⟨B,0,none⟩)),(4,.func (.func 130) #[] #[.pointer (some ⟨B,0,none⟩)]),(8,.slice ka l.length kc),(9,.int .i64 l.length),(10,.int .i64 i)])
  (fun i w'=>i≤l.length∧bY w w'∧∃ v,w'.cell? ⟨B,0,none⟩=some v∧(∀ y,w'.frozen? ⟨B,y,none⟩=false)∧OwnC Ap 1 9 w' v (bH (l.take i))∧(∀ g,v.ownBlock=some g→B < g)) (fun i _=>l.length - i) 0 (by kernel_rfl) ?_ ⟨aQ _,x0,_,c0,f0,OwnC.nil wP,by simp [Value.ownBlock]⟩ ?_
 ·exact bE
 rintro K2 e i w1 ⟨i2,i3,v,i4,i5,i6,i7⟩ hK2
 have hB1:=aE i4
 rcases aH i l.length with hi | hi
 rotate_left
 ·have hi':¬ (i:Int) < l.length:=by omega
  obtain rfl:i=l.length:=by omega
  rw [aT] at i6
  obtain ⟨va,vc,rfl,_⟩:=i6.form
  refine dV @hi' @i4 ?_
  exact hk _ w1 i3 i6 fun g hg=>by have:=i7 g hg; omega
 have hi':(i:Int) < l.length:=by omega
 obtain ⟨g,f,c,hv',hc,hat⟩:=(hv.inc dY.mono i3.inc).at (by omega)
 obtain ⟨rfl,rfl⟩:=sEq hv'
 obtain ⟨x,hx⟩:=gEl hi
 obtain ⟨h0,h1,a,cc,h2,_⟩:=dI (hat i x hx)
 refine gH @hi' @h0 @h1 @h2 @aA ?_
 obtain ⟨C,hC⟩:∃ C,C=w1.heap.size:=⟨_,rfl⟩
 obtain ⟨w2,hw2⟩:∃ w2,w2=w1.alloc (.cells #[.string ⟨x.s.toArray⟩,.string ⟨x.e.toArray⟩,.slice a x.ks.length cc] 46):=⟨_,rfl⟩
 have x2:bY w1 w2:=by rw [hw2]; exact aL _
 have z2:w2.heap.size=C+1:=by rw [hw2,World.size_alloc,hC]
 have c1:w2.cell? ⟨C,1,none⟩=some (.string ⟨x.e.toArray⟩):=by rw [hw2,hC]; exact bb @aA
 rw [← hw2,← hC]
 have hbl:(bH (l.take i)).length≤20000:=by have:=eT (l.take i); rw [dB i2] at this; omega
 refine yU (x2.cell i4) (fun y=>by rw [x2.frozen B y hB1]; exact i5 y) (i6.ext x2) (fun h=>by have:=i7 B h; omega) (by omega) fun v3 w3 o3 c3 k3 n3 => ?_
 have hb2:=mJ (bH (l.take i)) x.s
 have hown:∀ {g},v.ownBlock=some g→g < w1.heap.size:=fun h=>(i6.own.lt _ h).2
 have nC:∀ _:Nat,¬ (C=B∨v.ownBlock=some C):=fun y h=>by
  rcases h with h | h
  ·omega
  ·have:=hown h; omega
 have n3':∀ g,v3.ownBlock=some g→B < g∧g≠C:=fun g hg=>by
  rcases n3 g hg with h | h
  ·have:=i7 g h
   have:=hown h
   omega
  ·omega
 have c1:=k3.some c1 (nC 1)
 have f3:∀ y,w3.frozen? ⟨B,y,none⟩=false:=fun y=>by rw [k3.frozen B y (aI hB1 x2.size),x2.frozen B y hB1]; exact i5 y
 have e3:bY w w3:=(i3.trans x2).tr k3 fun b o hb h=>by
  rcases h with h | h
  ·omega
  ·have:=i7 b h; omega
 refine bf @c1 ?_
 refine yU c3 f3 o3 (fun h=>by have:=(n3' B h).1; omega) (by omega) fun v4 w4 o4 c4 k4 n4 => ?_
 refine al ?_
 refine hK2 _ _ (i+1) ?_ ⟨hi,e3.tr k4 fun b o hb h => ?_,v4,c4,fun y=>by rw [k4.frozen B y (aE c3)]; exact f3 y,by rw [zu hx]; exact o4,fun g hg => ?_⟩ (by omega)
 ·exact bE
 ·rcases h with h | h
  ·omega
  ·have:=(n3' b h).1; omega
 ·rcases n4 g hg with h | h
  ·exact (n3' g h).1
  ·have:=aE c3; omega
end
end Go.Proofs
end
section
namespace Go.E
open Go Go.Sort Go.Proofs Go.Proofs.Tryz
section
variable {α:Type} {R:gN α} {sz:Nat} {el:TypeId} {d w:World} {v u:Value} {l m:List α} {css:List (List Value)}
theorem Sl.lie [Inhabited α] (h:Sl R sz d v l) (hp:0 < sz):∃ css:List (List Value),css.length=l.length∧(∀ cs ∈ css,cs.length=sz)∧(∀ (i:Nat) (x:α) (cs:List Value),l[i]? = some x→css[i]? = some cs→R d cs x)∧∀ w,bz d w→tP w v l.length css.flatten:=by
 rcases bB l.length with h0 | h0
 ·obtain ⟨a,c,rfl⟩:=h.form
  refine ⟨[],by simp [h0],by simp,by simp,fun w _ => ?_⟩
  rw [h0]
  cases a
  ·exact ⟨rfl,rfl,rfl⟩
  ·exact ⟨rfl,by simp⟩
 obtain ⟨b,o,c,rfl,_,hat⟩:=h.at h0
 have:∀ i,∃ cs:List Value,i < l.length→cs.length=sz∧(∀ j u,cs[j]? = some u→d.cell? ⟨b,o+i * sz+j,none⟩=some u)∧R d cs l[i]! := fun i=>by
  by_cases hi:i < l.length
  ·obtain ⟨cs,h1,h2,h3⟩:=hat i l[i] (aC hi)
   exact ⟨cs,fun _=>⟨h1,h2,by rw [aG l i hi]; exact h3⟩⟩
  ·exact ⟨[],fun h=>absurd h hi⟩
 obtain ⟨f,hf⟩:=Classical.skolem.1 this
 have hsz:∀ cs ∈ (List.range l.length).map f,cs.length=sz:=fun cs hcs=>by
  obtain ⟨i,hi,rfl⟩:=bV.1 hcs
  exact (hf i (List.mem_range.1 hi)).1
 refine ⟨(List.range l.length).map f,by simp,hsz,fun i x cs hx hcs => ?_,fun w hw=>⟨rfl,fun p u hu => ?_⟩⟩
 ·have hi:=(aP.1 hx).1
  have:=hf i hi
  rw [aG l i hi,(aP.1 hx).2] at this
  have e:f i=cs:=by simpa [bq,List.getElem?_range hi] using hcs
  rw [← e]
  exact this.2.2
 ·rw [ic rfl]
  have hl:=(aP.1 hu).1
  rw [yC hsz] at hl
  simp only [ah,List.length_range] at hl
  obtain ⟨q,r,hr,rfl⟩:∃ q r,r < sz∧p=q * sz+r:=⟨p / sz,p % sz,Nat.mod_lt _ hp,by rw [Nat.mul_comm]; exact (Nat.div_add_mod p sz).symm⟩
  have hq:q < l.length:=by
   rcases aH q l.length with h1 | h1
   ·exact h1
   ·have:=bK sz h1; omega
  have hfq:=hf q hq
  have hcs:((List.range l.length).map f)[q]? = some (f q):=by simp [List.getElem?_range hq]
  have hj:(f q)[r]? = some ((f q)[r]'(by rw [hfq.1]; exact hr)):=aC _
  have:=sN hsz hcs hj
  rw [this] at hu
  have:=hfq.2.1 r _ hj
  rw [Nat.add_assoc] at this
  rw [← hu]
  exact hw _ _ _ this
theorem KT [Inhabited α] {P:Program} {q:aq} {t ty:TypeId} {by_:Nat} (row:gQ P t=some (el,sz,by_)) (h:OwnL R sz el d w v l css) (hp:0 < sz) (hu:Sl R sz d u m) (h1:∀ cs x,R d cs x→∀ y ∈ cs,y.oneCell'=true) (hb:(l.length+m.length) * (by_+1)≤140737488355328) (hinc:bz d w)
    (hk:∀ v2 w2 css2,OwnL R sz el d w2 v2 (l++m) css2→Keep (fun b _=>v.ownBlock=some b) w w2→cZ w v v2→bz d w2→q v2 w2):pe P #[t,t] ty #[v,u] q w:=by
 obtain ⟨cs2,c1,c2,c3,c4⟩:=hu.lie hp
 refine rB row h.own (by rw [yC c2,c1]) (c4 w hinc) (fun y hy => ?_) hb fun v2 w2 o2 k2 n2 _ => ?_
 ·obtain ⟨cs,hcs,hy⟩:=cQ.1 hy
  obtain ⟨i,hi,rfl⟩:=aV hcs
  exact h1 _ _ (c3 i _ _ (aC (by omega)) (aC hi)) y hy
 ·have hk2:=k2 (fun b _=>v.ownBlock=some b) fun b _ hb _=>hb
  have hn:cZ w v v2:=fun g hg=>by
   rcases n2 with h | ⟨g',h,h',_⟩
   ·left; rw [← h]; exact hg
   ·right; rw [h] at hg; cases hg; exact h'
  refine hk v2 w2 (css++cs2) ⟨by rw [aM,aM,h.len,c1],by rw [aM,List.flatten_append]; exact o2,fun cs hcs => ?_,fun i x cs hx hcs => ?_,fun g hg => ?_⟩ hk2 hn (hinc.keep hk2 fun b x hb=>h.out b hb x)
  ·rcases ax.1 hcs with h3 | h3
   ·exact h.sz cs h3
   ·exact c2 cs h3
  ·rcases aH i l.length with hi | hi
   ·rw [bG hi] at hx
    rw [bG (by rw [h.len]; exact hi)] at hcs
    exact h.R i x cs hx hcs
   ·rw [bP hi] at hx
    rw [bP (by rw [h.len]; exact hi),h.len] at hcs
    exact c3 _ x cs hx hcs
  ·rcases hn g hg with h3 | h3
   ·exact h.out g h3
   ·exact hinc.out h3
end
theorem dY.one {d:World} {cs:List Value} {x:Sp} (h:dY d cs x):∀ y ∈ cs,y.oneCell'=true:=by
 obtain ⟨v,rfl,hv⟩:=h
 obtain ⟨a,c,rfl⟩:=hv.form
 simp [Value.oneCell',str]
end Go.E
namespace Go.Proofs
open Go Go.E Go.Sort Go.Proofs.Tryz
section
variable {k:aq} {d w:World}
theorem qq {v:Value} {l:List (List Sp)} (hv:Sl jx 1 d v l) (hl:l.length≤1000) (hs:∀ x ∈ l,x.length≤1000) (hinc:bz d w) (hk:∀ d2 w2 v2,Gr d w d2 w2→Sl dY 3 d2 v2 l.flatten→k v2 w2):aX prog 25 #[v] k w:=by
 obtain ⟨ka,kc,rfl⟩:=hv.form
 refine ai [.tmp 2] func25 ?_
 refine al ?_
 refine bO (fun b:Nat × Value=>[(3,b.2),(6,.slice ka l.length kc),(7,.int .i64 l.length),(8,.int .i64 b.1)])
  (fun b w'=>b.1≤l.length∧LoopL dY 3 46 d w d w' b.2 (l.take b.1).flatten) (fun b _=>l.length - b.1) (0,.slice none 0 0) (by kernel_rfl) ?_ ⟨aQ _,LoopL.nil hinc⟩ ?_
 ·exact bE
 rintro K2 e ⟨i,v⟩ w1 ⟨i2,i3⟩ hK2
 simp only at i2 i3
 rcases aH i l.length with hi | hi
 rotate_left
 ·have hi':¬ (i:Int) < l.length:=by omega
  refine bf @hi' ?_
  obtain rfl:i=l.length:=by omega
  rw [aT] at i3
  obtain ⟨d2,g2,_,_,s2⟩:=i3.done dY.mono
  exact hk d2 w1 v g2 s2
 have hi':(i:Int) < l.length:=by omega
 obtain ⟨g,f,c,hv',hc,hat⟩:=hv.at (by omega)
 obtain ⟨rfl,rfl⟩:=sEq hv'
 obtain ⟨x,hx⟩:=gEl hi
 obtain ⟨cs,_,hcs,kv,rfl,hkv⟩:=hat i x hx
 obtain ⟨kva,kvc,rfl⟩:=hkv.form
 have h0:w1.cell? ⟨g,f+i * 1,none⟩=some (.slice kva x.length kvc):=i3.g.j _ _ _ (hcs 0 _ rfl)
 have hfl:(l.take i).flatten.length≤i * 1000:=by
  have:=eU (Lv:=l.take i) (n:=1000) fun L hL=>hs L (List.mem_of_mem_take hL)
  rwa [dB i2] at this
 have hxl:=hs x (aJ hx)
 obtain ⟨va,vcap,rfl,_⟩:=i3.form
 refine dV @hi' @h0 ?_
 obtain ⟨css,o4⟩:=i3.o
 refine KT rw28 o4 (by decide) hkv (fun cs x h=>h.one) (by have:i * 1000≤1000 * 1000:=bK _ (by omega); omega) i3.g.j fun v2 w2 css2 o2 k2 n2 j2 => ?_
 refine al ?_
 refine hK2 _ _ (i+1,v2) ?_ ⟨hi,?_⟩ (by simp only; omega)
 ·exact bE
 ·rw [bn hx,List.flatten_append]
  simp only [List.flatten_cons,List.flatten_nil,au]
  exact i3.more o2 k2 n2 j2
end
end Go.Proofs
end
