/- Parts of the proof: Xo. -/
import Derived.Test.YtjcbeinpkafjiaaGreatUXXn
set_option linter.all false
set_option maxRecDepth 10000
namespace Go.E
open Go Go.Sort Go.Proofs Go.Proofs.Tryz
theorem thr_at {P:Nat→Bool} {N i:Nat} (hi:i≤N) (h1:∀ j,j < i→P j=true) (h2:i < N→P i=false):thr P N=i:=by
 induction N generalizing P i with
 | zero=>simp only [thr]; omega
 | succ N ih =>
  unfold thr
  rcases i with _ | i
  ·rw [h2 (by omega)]; rfl
  ·rw [h1 0 (by omega),if_pos rfl,ih (i:=i) (by omega) (fun j hj=>h1 (j+1) (by omega)) fun h=>h2 (by omega)]
structure Rl (a p:Int) (ok af be got:Bool) (last:Nat):Prop where
 ok:ok=got
 af:af=(!got && decide (last=2∨last=4))
 be:be=(!got && decide (last=3∨last=5))
 p:a=p∨got=false∧last≠2∧last≠3∧last≠4∧last≠5
def Tk (op:Nat) (ok af be:Bool):Prop:=op=0∨op=1∨op=4∨op=5∨op=2∧(ok || be)=true∨op=3∧(ok || af)=true
section
variable {V:List Sp} {a p:Int} {ok af be got:Bool} {last op:Nat} {key:Bytes}
theorem Rl.tk (h:Rl a p ok af be got last):tkn op got last=true↔Tk op ok af be:=by
 obtain ⟨rfl,rfl,rfl,hp⟩:=h
 unfold tkn Tk
 by_cases q:op=0∨op=1∨op=4∨op=5
 ·rw [if_pos q]; simp; omega
 ·rw [if_neg q]
  by_cases q2:op=2
  ·cases ok <;> simp [q2] <;> omega
  ·by_cases q3:op=3
   ·cases ok <;> simp [q3] <;> omega
   ·simp [q2,q3]; omega
theorem Rl.mvE (h:Rl a p ok af be got last) (ht:Tk op ok af be):stepN V.length a op (skGE V key) (skLT V key)=mv V p op key:=by
 unfold stepN E.mv
 by_cases q:op=2∨op=3
 ·have:a=p:=by
    obtain ⟨rfl,rfl,rfl,hp⟩:=h
    rcases hp with rfl | ⟨rfl,hp⟩
    ·rfl
    ·exfalso
     unfold Tk at ht
     simp at ht
     omega
  rw [this]
 ·have q2:op≠2:=fun h=>q (.inl h)
  have q3:op≠3:=fun h=>q (.inr h)
  simp only [q2,q3,if_false]
end
end Go.E
namespace Go.Proofs
open Go Go.E Go.Sort Go.Proofs.Tryz
section
variable {k:Kont} {d w:World}
theorem seekGE_run {v:Value} {l:List Sp} {key:Bytes} (hv:Sl SpE 3 w v l) (hl:l.length≤100000) (hk:∀ w2,Ext w w2→k (.int .i64 (skGE l key)) w2):callK prog 70 #[v,.string ⟨key.toArray⟩] k w:=by
 obtain ⟨ka,kc,rfl⟩:=hv.form
 refine callZ [.tmp 4] func70 ?_
 refine goZ ?_
 refine loopC (fun i:Nat=>[(0,.slice ka l.length kc),(1,.string ⟨key.toArray⟩),(7,.slice ka l.length kc),(8,.int .i64 l.length),(9,.int .i64 i)])
  (fun i w'=>i≤l.length∧Ext w w'∧∀ j,j < i→¬ key < l[j]!.e) (fun i _=>l.length - i) 0 (by kernel_rfl) ?_ ⟨Nat.zero_le _,Ext.refl _,fun j h=>by omega⟩ ?_
 ·exact agZ
 rintro K2 e i w1 ⟨i2,i3,i4⟩ hK2
 rcases Nat.lt_or_ge i l.length with hi | hi
 rotate_left
 ·have hi':¬ (i:Int) < l.length:=by omega
  obtain rfl:i=l.length:=by omega
  refine gY1 @hi' ?_
  have:=hk _ i3
  rwa [show skGE l key=l.length from thr_at i2 (fun j hj=>decide_eq_true (i4 j hj)) fun h=>by omega] at this
 have hi':(i:Int) < l.length:=by omega
 obtain ⟨g,f,c,hv',hc,hat⟩:=(hv.inc SpE.mono i3.inc).at (by omega)
 obtain ⟨rfl,rfl⟩:ka=some ⟨g,f,none⟩∧kc=c:=by simpa using hv'
 obtain ⟨x,hx⟩:∃ x,l[i]? = some x:=⟨_,List.getElem?_eq_getElem hi⟩
 have hx2:l[i]! = x:=by rw [getElem!_pos l i hi]; rw [List.getElem?_eq_getElem hi] at hx; exact Option.some.inj hx
 obtain ⟨h0,h1,a,cc,h2,_⟩:=cells_spe (hat i x hx)
 have x4:=ext_alloc (w:=w1) (.cells #[.string ⟨x.s.toArray⟩,.string ⟨x.e.toArray⟩,.slice a x.ks.length cc] 46)
 by_cases q:key < x.e
 ·refine gY6 @hi' @h0 @h1 @h2 @cell_newN @q ?_
  have:=hk _ (i3.trans x4)
  rwa [show skGE l key=i from thr_at i2 (fun j hj=>decide_eq_true (i4 j hj)) fun h=>decide_eq_false fun h=>h (by rw [hx2]; exact q)] at this
 ·refine gY6 @hi' @h0 @h1 @h2 @cell_newN @q ?_
  refine hK2 _ _ (i+1) ?_ ⟨hi,i3.trans x4,fun j hj => ?_⟩ (by omega)
  ·exact agZ
  ·rcases Nat.lt_or_ge j i with h | h
   ·exact i4 j h
   ·obtain rfl:j=i:=by omega
    rw [hx2]; exact q
theorem seekLT_run {v:Value} {l:List Sp} {key:Bytes} (hv:Sl SpE 3 w v l) (hl:l.length≤100000) (hw:Wf l) (hk:∀ w2,Ext w w2→k (.int .i64 (skLT l key)) w2):callK prog 71 #[v,.string ⟨key.toArray⟩] k w:=by
 obtain ⟨ka,kc,rfl⟩:=hv.form
 rw [← skLT_last hw] at hk
 refine callZ [.tmp 4] func71 ?_
 refine goZ ?_
 refine loopC (fun i:Nat=>[(1,.string ⟨key.toArray⟩),(5,.int .i64 (lastI (fun j=>decide (l[j]!.s < key)) i)),(8,.slice ka l.length kc),(9,.int .i64 l.length),(10,.int .i64 i)])
  (fun i w'=>i≤l.length∧Ext w w') (fun i _=>l.length - i) 0 (by kernel_rfl) ?_ ⟨Nat.zero_le _,Ext.refl _⟩ ?_
 ·((try simp (disch:=first | exact dZ | fail) only [go_sem,↓reduceIte,Nat.reduceEqDiff,Nat.reduceAdd,lastI]); (try simp only [and_true,true_and,Value.int.injEq,Value.slice.injEq,Value.pointer.injEq,Option.some.injEq]); (try (refine ⟨?_,?_⟩ <;> omega)); (try omega))
 rintro K2 e i w1 ⟨i2,i3⟩ hK2
 rcases Nat.lt_or_ge i l.length with hi | hi
 rotate_left
 ·have hi':¬ (i:Int) < l.length:=by omega
  obtain rfl:i=l.length:=by omega
  refine gY1 @hi' ?_
  exact hk _ i3
 have hi':(i:Int) < l.length:=by omega
 obtain ⟨g,f,c,hv',hc,hat⟩:=(hv.inc SpE.mono i3.inc).at (by omega)
 obtain ⟨rfl,rfl⟩:ka=some ⟨g,f,none⟩∧kc=c:=by simpa using hv'
 obtain ⟨x,hx⟩:∃ x,l[i]? = some x:=⟨_,List.getElem?_eq_getElem hi⟩
 have hx2:l[i]! = x:=by rw [getElem!_pos l i hi]; rw [List.getElem?_eq_getElem hi] at hx; exact Option.some.inj hx
 obtain ⟨h0,h1,a,cc,h2,_⟩:=cells_spe (hat i x hx)
 have x4:=ext_alloc (w:=w1) (.cells #[.string ⟨x.s.toArray⟩,.string ⟨x.e.toArray⟩,.slice a x.ks.length cc] 46)
 by_cases q:x.s < key
 ·refine gY6 @hi' @h0 @h1 @h2 @cell_newN @q ?_
  have hl1:lastI (fun j=>decide (l[j]!.s < key)) (i+1)=i:=by unfold lastI; rw [hx2,decide_eq_true q,if_pos rfl]
  refine hK2 _ _ (i+1) ?_ ⟨hi,i3.trans x4⟩ (by omega)
  rw [hl1]
  exact agZ
 ·refine gY6 @hi' @h0 @h1 @h2 @cell_newN @q ?_
  have hl1:lastI (fun j=>decide (l[j]!.s < key)) (i+1)=lastI (fun j=>decide (l[j]!.s < key)) i:=by
   conv=>lhs; unfold lastI
   rw [hx2,decide_eq_false q]
   rfl
  refine hK2 _ _ (i+1) ?_ ⟨hi,i3.trans x4⟩ (by omega)
  rw [hl1]
  exact agZ
end
end Go.Proofs
