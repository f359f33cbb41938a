/- Parts of the proof: Xc, Xe, Xg, Xf, Xh. -/
import Derived.Test.YtlmoafgebiffaaaGreatDoorV18
set_option linter.all false
set_option maxRecDepth 10000
section
namespace Go.Proofs
open Go Go.E Go.Sort Go.Proofs.Tryz
section
variable {k:aq} {d w:World}
theorem ik {w:World} {g o:Nat} {x:K} (h:Fz KE 3 w g o x):w.cell? ⟨g,o,none⟩=some (.int .u64 x.tr)∧w.cell? ⟨g,o+1,none⟩=some (.string ⟨x.suf.toArray⟩)∧w.cell? ⟨g,o+2,none⟩=some (.string ⟨x.val.toArray⟩)∧x.tr < 18446744073709551616:=by
 obtain ⟨cs,_,hcs,rfl,h⟩:=h
 exact ⟨hcs 0 _ rfl,hcs 1 _ rfl,hcs 2 _ rfl,h⟩
theorem fN {w:World} {g o:Nat} {x:Sp} (h:Fz dh 3 w g o x):w.cell? ⟨g,o,none⟩=some (.string ⟨x.s.toArray⟩)∧w.cell? ⟨g,o+1,none⟩=some (.string ⟨x.e.toArray⟩)∧∃ a c,w.cell? ⟨g,o+2,none⟩=some (.slice a x.ks.length c)∧Sl KE 3 w (.slice a x.ks.length c) x.ks:=by
 obtain ⟨cs,_,hcs,v,rfl,h⟩:=h
 obtain ⟨a,c,rfl⟩:=h.form
 exact ⟨hcs 0 _ rfl,hcs 1 _ rfl,a,c,hcs 2 _ rfl,h⟩
theorem sN {v:Value} {l:List K} (hv:Sl KE 3 w v l) (hl:l.length≤2147483647) (hk:wO True k w):ai prog 114 #[v] k w:=by
 obtain ⟨ka,kc,rfl⟩:=hv.form
 refine al [.tmp 2] func114 ?_
 refine bA ?_
 refine bZ (fun i:Nat=>[(0,.slice ka l.length kc),(2,.bool false),(3,.int .i64 i)])
  (fun i w'=>1≤i∧bp w w') (fun i _=>l.length - i) 1 (by kernel_rfl) ?_ ⟨aF _,bp.refl _⟩ ?_
 ·exact bU
 rintro K2 e i w1 ⟨i2,i3⟩ hK2
 rcases aH i l.length with hi | hi
 rotate_left
 ·have hi':¬ (i:Int) < l.length:=by omega
  refine bu @hi' ?_
  exact hk.yes i3 trivial
 have hi':(i:Int) < l.length:=by omega
 obtain ⟨g,f,c,hv',hc,hat⟩:=(hv.inc KE.mono i3.inc).at (by omega)
 obtain ⟨rfl,rfl⟩:=sEq hv'
 obtain ⟨x,hx⟩:=gEl hi
 obtain ⟨y,hy⟩:∃ y,l[i - 1]? = some y:=⟨_,aD (by omega)⟩
 have h0:=(ik (hat i x hx)).1
 have h1:=(ik (hat (i - 1) y hy)).1
 have e1:(i:Int) - 1=((i - 1:Nat):Int):=by omega
 refine dO @hi' @e1 ?_
 refine bF (sq [0,1,2,3,4] (.read 5 (sq [6,7,8,9] (.read 10 (sq [11] .done))))) ?_
 refine dQ @h0 @h1 @e1 ?_
 by_cases hlt:(y.tr:Int) < x.tr
 ·refine bu @hlt ?_
  exact hk.no (Keep.drew i3)
 ·refine bu @hlt ?_
  refine hK2 _ _ (i+1) ?_ ⟨by omega,Keep.drew i3⟩ (by omega)
  exact bU
theorem Ea {kv:Value} {x:Sp} (hv:Sl KE 3 w kv x.ks) (hl:x.ks.length≤2147483647) (hk:wO (x.s < x.e∧x.ks≠[]) k w):ai prog 102 #[.agg #[.string ⟨x.s.toArray⟩,.string ⟨x.e.toArray⟩,kv]] k w:=by
 obtain ⟨ka,kc,rfl⟩:=hv.form
 refine al [.tmp 2] func102 ?_
 by_cases h1:x.s < x.e
 ·by_cases h2:(0:Int) < x.ks.length
  ·refine dQ @aA @h1 @h2 ?_
   refine sN (hv.inc KE.mono (aJ _).inc) hl fun b w2 x2 _ => ?_
   have x3:=(aJ _).trans x2
   refine bA ?_
   exact hk _ _ x3 fun _=>⟨h1,List.length_pos_iff.1 (by omega)⟩
  ·refine dQ @aA @h1 @h2 ?_
   exact hk.no (aJ _)
 ·refine dO @aA @h1 ?_
  exact hk.no (aJ _)
theorem Eb {v:Value} {l:List Sp} {n:Nat} (hv:Sl dh 3 w v l) (hl:l.length≤2147483647) (hk:wO (l.length≤n∧∀ x ∈ l,x.ks.length≤40) k w):ai prog 71 #[v,.int .i64 n] k w:=by
 obtain ⟨ka,kc,rfl⟩:=hv.form
 refine al [.tmp 4] func71 ?_
 refine bA ?_
 refine bZ (fun i:Nat=>[(0,.slice ka l.length kc),(1,.int .i64 n),(4,.bool false),(7,.slice ka l.length kc),(7+1,.int .i64 l.length),(7+2,.int .i64 i)])
  (fun i w'=>i≤l.length∧bp w w'∧∀ x ∈ l.take i,x.ks.length≤40) (fun i _=>l.length - i) 0 (by kernel_rfl) ?_ ⟨aT _,bp.refl _,by simp⟩ ?_
 ·exact bU
 rintro K2 e i w1 ⟨i2,i3,i4⟩ hK2
 rcases aH i l.length with hi | hi
 rotate_left
 ·have hi':¬ (i:Int) < l.length:=by omega
  obtain rfl:i=l.length:=by omega
  rw [ag] at i4
  by_cases hln:(l.length:Int)≤n; (simp (disch:=first | exact dZ | fail) only [go_sem,hi',hln]; exact hk.yes i3 ⟨by omega,i4⟩); (simp (disch:=first | exact dZ | fail) only [go_sem,hi',hln]; exact hk.no i3)
 have hi':(i:Int) < l.length:=by omega
 obtain ⟨g,f,c,hv',hc,hat⟩:=(hv.inc dh.mono i3.inc).at (by omega)
 obtain ⟨rfl,rfl⟩:=sEq hv'
 obtain ⟨x,hx⟩:=gEl hi
 obtain ⟨cs,_,hcs,hR⟩:=hat i x hx
 have hA:=hat i x hx
 obtain ⟨h0,h1,a,cc,h2,_⟩:=fN hA
 by_cases h40:40 < (x.ks.length:Int)
 ·refine qh @hi' @h0 @h1 @h2 @aA @h40 ?_
  exact hk.no (i3.trans (aJ _))
 ·refine qh @hi' @h0 @h1 @h2 @aA @h40 ?_
  refine hK2 _ _ (i+1) ?_ ⟨hi,i3.trans (aJ _),ee i4 hx (by omega)⟩ (by omega)
  exact bU
theorem Ec {v:Value} {l:List Sp} (hv:Sl dh 3 w v l) (hl:l.length≤2147483647) (hks:∀ x ∈ l,x.ks.length≤2147483647) (hk:wO (Wf l∧∀ x ∈ l,x.ks≠[]) k w):ai prog 72 #[v] k w:=by
 obtain ⟨ka,kc,rfl⟩:=hv.form
 refine al [.tmp 2] func72 ?_
 refine bA ?_
 refine bZ (fun i:Nat=>[(0,.slice ka l.length kc),(2,.bool false),(5,.slice ka l.length kc),(6,.int .i64 l.length),(7,.int .i64 i)])
  (fun i w'=>i≤l.length∧bp w w'∧(∀ j (h:j < l.length),j < i→l[j].s < l[j].e∧l[j].ks≠[])∧∀ j (h:j+1 < l.length),j+1 < i→¬ l[j+1].s < l[j].e) (fun i _=>l.length - i) 0 (by kernel_rfl) ?_ ⟨aT _,bp.refl _,fun _ _ h=>by omega,fun _ _ h=>by omega⟩ ?_
 ·exact bU
 rintro K2 e i w1 ⟨i2,i3,i4,i5⟩ hK2
 rcases aH i l.length with hi | hi
 rotate_left
 ·have hi':¬ (i:Int) < l.length:=by omega
  obtain rfl:i=l.length:=by omega
  refine bu @hi' ?_
  refine hk.yes i3 ⟨Hx (fun j h=>(i4 j h h).1) fun j h=>i5 j h h,fun x hx => ?_⟩
  obtain ⟨j,hj,rfl⟩:=bB hx
  exact (i4 j hj hj).2
 have hi':(i:Int) < l.length:=by omega
 obtain ⟨g,f,c,hv',hc,hat⟩:=(hv.inc dh.mono i3.inc).at (by omega)
 obtain ⟨rfl,rfl⟩:=sEq hv'
 have hx:l[i]? = some l[i]:=aD hi
 obtain ⟨x,hxe⟩:∃ x,x=l[i]:=⟨_,rfl⟩
 rw [← hxe] at hx
 obtain ⟨h0,h1,a,cc,h2,hks2⟩:=fN (hat i x hx)
 refine eO @hi' @h0 @h1 @h2 ?_
 obtain ⟨O,hO⟩:∃ O,O=Obj.cells #[.string ⟨x.s.toArray⟩,.string ⟨x.e.toArray⟩,.slice a x.ks.length cc] 30:=⟨_,rfl⟩
 obtain ⟨B,hB⟩:∃ B,B=w1.heap.size:=⟨_,rfl⟩
 rw [← hO,← hB]
 have c0:(w1.alloc O).cell? ⟨B,0,none⟩=some (.string ⟨x.s.toArray⟩):=by rw [hO,hB]; exact bX @aA
 have c1:(w1.alloc O).cell? ⟨B,1,none⟩=some (.string ⟨x.e.toArray⟩):=by rw [hO,hB]; exact bX @aA
 have c2:(w1.alloc O).cell? ⟨B,2,none⟩=some (.slice a x.ks.length cc):=by rw [hO,hB]; exact bX @aA
 refine bF (.read 0 (.eff 1 [] (sq [2,3,4,5,6,7,8,9,10,11] (.read 12 (sq [13] (.read 14 (sq [15,16,17] .done))))))) ?_
 refine dQ @c0 @c1 @c2 ?_
 refine Ea (hks2.inc KE.mono (bp.drew' (aJ O)).inc) (hks _ (aO hx)) fun b w2 x2 hb => ?_
 have x3:bp w1 w2:=(Keep.drew (aJ O)).trans x2
 have x4:=i3.trans x3
 cases b with
 | false =>
  refine bA ?_
  exact hk.no x4
 | true =>
  obtain ⟨f1,f2⟩:=hb rfl
  have c0:=x2.cell (show (w1.alloc O).drew.cell? _=_ from c0)
  rcases bt i with hz | hz
  ·have hz':¬ (0:Int) < (i:Int):=by omega
   refine bu @hz' ?_
   refine hK2 _ _ (i+1) ?_ ⟨hi,x4,fun j h hj => ?_,fun j h hj=>by omega⟩ (by omega)
   ·exact bU
   ·obtain rfl:j=i:=by omega
    rw [← hxe]; exact ⟨f1,f2⟩
  ·have hz':(0:Int) < (i:Int):=by omega
   obtain ⟨y,hy⟩:∃ y,l[i - 1]? = some y:=⟨_,aD (by omega)⟩
   have e1:(i:Int) - 1=((i - 1:Nat):Int):=by omega
   have g1:=x3.cell (fN (hat (i - 1) y hy)).2.1
   have hye:y=l[i - 1]:=by rw [aD (by omega)] at hy; cases hy; rfl
   by_cases hlt:x.s < y.e
   ·refine hJ @hz' @e1 @g1 @c0 @hlt ?_
    exact hk.no x4
   ·refine hJ @hz' @e1 @g1 @c0 @hlt ?_
    refine hK2 _ _ (i+1) ?_ ⟨hi,x4,fun j h hj => ?_,fun j h hj => ?_⟩ (by omega)
    ·exact bU
    ·rcases aH j i with h3 | h3
     ·exact i4 j h h3
     ·obtain rfl:j=i:=by omega
      rw [← hxe]; exact ⟨f1,f2⟩
    ·rcases aH (j+1) i with h3 | h3
     ·exact i5 j h h3
     ·obtain rfl:j=i - 1:=by omega
      rw [← hye]
      simp only [show i - 1+1=i by omega]
      rw [← hxe]
      exact hlt
def Ku (n:Nat) (l:List Sp):Prop:=l.length≤n∧Wf l∧∀ x ∈ l,x.ks≠[]∧x.ks.length≤40
theorem vy {v:Value} {l:List Sp} {n:Nat} (hv:Sl dh 3 w v l) (hl:l.length≤2147483647) (hks:∀ x ∈ l,x.ks.length≤2147483647) (hk:wO (Ku n l) k w):ai prog 43 #[v,.int .i64 n] k w:=by
 obtain ⟨ka,kc,rfl⟩:=hv.form
 refine al [.tmp 4] func43 ?_
 refine bA ?_
 refine Eb hv hl fun b w2 x2 hb => ?_
 cases b with
 | false =>
  refine bA ?_
  exact hk.no x2
 | true =>
  refine bA ?_
  refine Ec (hv.inc dh.mono x2.inc) hl hks fun b w3 x3 hc => ?_
  refine bA ?_
  exact hk _ _ (x2.trans x3) fun h=>⟨(hb rfl).1,(hc h).1,fun x hx=>⟨(hc h).2 x hx,(hb rfl).2 x hx⟩⟩
theorem sO {v:Value} {l:List (List Sp)} {n:Nat} (hv:Sl pe 1 w v l) (hl:l.length≤2147483647) (hs:∀ x ∈ l,x.length≤2147483647∧∀ y ∈ x,y.ks.length≤2147483647) (hk:wO (l.length≤6∧∀ x ∈ l,Ku n x) k w):ai prog 17 #[v,.int .i64 n] k w:=by
 obtain ⟨ka,kc,rfl⟩:=hv.form
 refine al [.tmp 4] func17 ?_
 refine bA ?_
 refine bZ (fun i:Nat=>[(0,.slice ka l.length kc),(1,.int .i64 n),(4,.bool false),(7,.slice ka l.length kc),(7+1,.int .i64 l.length),(7+2,.int .i64 i)])
  (fun i w'=>i≤l.length∧bp w w'∧∀ x ∈ l.take i,Ku n x) (fun i _=>l.length - i) 0 (by kernel_rfl) ?_ ⟨aT _,bp.refl _,by simp⟩ ?_
 ·exact bU
 rintro K2 e i w1 ⟨i2,i3,i4⟩ hK2
 rcases aH i l.length with hi | hi
 rotate_left
 ·have hi':¬ (i:Int) < l.length:=by omega
  obtain rfl:i=l.length:=by omega
  rw [ag] at i4
  by_cases hln:(l.length:Int)≤6; (simp (disch:=first | exact dZ | fail) only [go_sem,hi',hln]; exact hk.yes i3 ⟨by omega,i4⟩); (simp (disch:=first | exact dZ | fail) only [go_sem,hi',hln]; exact hk.no i3)
 have hi':(i:Int) < l.length:=by omega
 obtain ⟨g,f,c,hv',hc,hat⟩:=(hv.inc pe.mono i3.inc).at (by omega)
 obtain ⟨rfl,rfl⟩:=sEq hv'
 obtain ⟨x,hx⟩:=gEl hi
 obtain ⟨cs,_,hcs,hR⟩:=hat i x hx
 obtain ⟨kv,rfl,hkv⟩:=hR
 obtain ⟨kva,kvc,rfl⟩:=hkv.form
 have h0:w1.cell? ⟨g,f+i * 1,none⟩=some (.slice kva x.length kvc):=hcs 0 _ rfl
 obtain ⟨s1,s2⟩:=hs x (aO hx)
 refine dO @hi' @h0 ?_
 refine vy hkv s1 s2 fun b w2 x2 hb => ?_
 have x3:=i3.trans x2
 cases b with
 | false =>
  refine bA ?_
  exact hk.no (x3)
 | true =>
  refine bA ?_
  refine hK2 _ _ (i+1) ?_ ⟨hi,x3,ee i4 hx (hb rfl)⟩ (by omega)
  exact bU
end
end Go.Proofs
end
section
namespace Go.E
open Go Go.Sort Go.Proofs Go.Proofs.Tryz
def Ah (x:K):List Value:=[.int .u64 x.tr,str x.suf,str x.val]
theorem vz (x:K):(Ah x).length=3:=rfl
theorem wA (x:K):∀ y ∈ Ah x,y.oneCell'=true:=by simp [Ah,Value.oneCell',str]
def fP {α:Type} (x:α) (a:List α) (j:Nat):List α:=a.take j++x :: a.drop j
theorem yJ {α:Type} (x:α) {a:List α} {j:Nat} (h:j≤a.length):(fP x a j).length=a.length+1:=by unfold fP; simp; omega
theorem Ed {α:Type} (x:α) (a:List α):a++[x]=fP x a a.length:=by unfold fP; simp
theorem CG {α:Type} (x:α) {a:List α} {j:Nat} (h:j≤a.length):(fP x a j)[j]? = some x:=by
 unfold fP
 rw [bC (by rw [bE]; omega),bE,Nat.min_eq_left h,Nat.sub_self]
 rfl
theorem Ee {α:Type} (x:α) {a:List α} {j i:Nat} (h:j≤a.length) (hi:i < j):(fP x a j)[i]? = a[i]? := by
 unfold fP
 rw [bR (by rw [bE]; omega),List.getElem?_take_of_lt hi]
theorem CH {α:Type} (x y:α) {a:List α} {j:Nat} (h:j+1≤a.length) (hy:a[j]? = some y):((fP x a (j+1)).set (j+1) y).set j x=fP x a j:=by
 have hj:j < a.length:=by omega
 have hy':a[j]=y:=by rw [aD hj] at hy; simpa using hy
 unfold fP
 rw [List.take_add_one,hy,cV hj,hy']
 have e1:(a.take j++(some y).toList++x :: a.drop (j+1))=a.take j++y :: x :: a.drop (j+1):=by simp
 have hl:(a.take j).length=j:=by rw [bE]; omega
 rw [e1,List.set_append_right _ _ (by omega),List.set_append_right _ _ (by omega),hl]
 simp
theorem jX {α:Type} {lt:α→α→Bool} {x y:α} {l:List α} {i:Nat} (hy:l[i]? = some y):gI lt x l (i+1)=if lt x y then gI lt x l i else i+1:=by
 conv=>lhs; unfold gI
 rw [hy]
theorem sP {α:Type} {lt:α→α→Bool} {l:List α} {i:Nat} {x:α} (h:l[i]? = some x):lQ lt (l.take (i+1))=mY lt x (lQ lt (l.take i)):=by
 rw [bz h]
 unfold lQ
 rw [List.foldl_append]
 rfl
section
variable {α:Type} {ce:α→List Value} {el:TypeId} {w:World} {l:List α} {g n c i:Nat} {a b e:Value}
theorem OwnC.set3' (h:OwnC ce 3 el w (.slice (some ⟨g,0,none⟩) n c) l) (hn:l.length=n) (hi:i < l.length) (y:α) (hy:ce y=[a,b,e]):OwnC ce 3 el (((w.setCell ⟨g,i * 3,none⟩ a).setCell ⟨g,i * 3+1,none⟩ b).setCell ⟨g,i * 3+2,none⟩ e) (.slice (some ⟨g,0,none⟩) n c) (l.set i y):=by
 subst hn; exact h.set3 hi y hy
end
end Go.E
namespace Go.Proofs
open Go Go.E Go.Sort Go.Proofs.Tryz
section
variable {k:aq} {d w:World}
set_option maxHeartbeats 1000000 in
theorem CI {v:Value} {l:List K} (hv:Sl KE 3 w v l) (hl:l.length < 100000) (hk:∀ v' w',bp w w'→OwnC Ah 3 53 w' v' (dy l)→(∀ g,v'.ownBlock=some g→w.heap.size≤g)→k v' w'):ai prog 45 #[v] k w:=by
 obtain ⟨ka,kc,rfl⟩:=hv.form
 refine al [.tmp 2] func45 ?_
 refine bA ?_
 refine bZ (fun b:Nat × Value=>[(3,b.2),(7,.slice ka l.length kc),(8,.int .i64 l.length),(9,.int .i64 b.1)])
  (fun b w'=>b.1≤l.length∧bp w w'∧OwnC Ah 3 53 w' b.2 (lQ gT (l.take b.1))∧∀ g,b.2.ownBlock=some g→w.heap.size≤g) (fun b _=>l.length - b.1) (0,.slice none 0 0) (by kernel_rfl) ?_ ⟨aT _,bp.refl _,OwnC.nil vz,by simp [Value.ownBlock]⟩ ?_
 ·exact bU
 rintro K2 e ⟨i,v⟩ w1 ⟨i2,i3,i4,i5⟩ hK2
 simp only at i2 i4 i5
 rcases aH i l.length with hi | hi
 rotate_left
 ·have hi':¬ (i:Int) < l.length:=by omega
  refine bu @hi' ?_
  obtain rfl:i=l.length:=by omega
  rw [ag] at i4
  exact hk v w1 i3 i4 i5
 have hi':(i:Int) < l.length:=by omega
 obtain ⟨g,f,c,hv',hc,hat⟩:=(hv.inc KE.mono i3.inc).at (by omega)
 obtain ⟨rfl,rfl⟩:=sEq hv'
 obtain ⟨x,hx⟩:=gEl hi
 obtain ⟨h0,h1,h2,htr⟩:=ik (hat i x hx)
 obtain ⟨a,ha⟩:∃ a,a=lQ gT (l.take i):=⟨_,rfl⟩
 have hal:a.length=i:=by rw [ha,ow,dV i2]
 rw [← ha] at i4
 obtain ⟨va,vcap,rfl,_,hcm⟩:=i4.form
 refine hJ @hi' @h0 @h1 @h2 @aA ?_
 refine Ag x rw28 (i4.ext (aJ _)) rfl (.inl rfl) (by rw [World.size_alloc]) (wA x) (by omega) fun v2 w2 o2 k2 n2 => ?_
 have x2:bp w w2:=(i3.trans (aJ _)).tr k2 fun b o hb h=>by have:=i5 b h; omega
 have new2:∀ g,v2.ownBlock=some g→w.heap.size≤g:=fun g hg=>by
  rcases n2 g hg with h | h
  ·exact i5 g h
  ·rw [World.size_alloc] at h
   have:=i3.size
   omega
 rw [Ed] at o2
 obtain ⟨g2,c2,rfl,_⟩:=o2.block (i:=0) (by rw [yJ x (aF _)]; omega)
 have hlen:∀ j,j≤a.length→(fP x a j).length=a.length+1:=fun j hj=>yJ x hj
 rw [hlen _ (aF _)] at o2 ⊢
 have e1:IntKind.i64.wrap ((a.length:Int)+1 - 1)=a.length:=by rw [dP (by omega) (by omega)]; omega
 have e2:((a.length+1:Nat):Int) - 1=a.length:=by omega
 refine bu @e2 ?_
 refine bZ (fun j:Nat=>[(3,.slice (some ⟨g2,0,none⟩) (a.length+1) c2),(6,.int .i64 j),(7,.slice (some ⟨g,f,none⟩) l.length kc),(8,.int .i64 l.length),(9,.int .i64 i)])
  (fun j w'=>j≤a.length∧bp w w'∧OwnC Ah 3 53 w' (.slice (some ⟨g2,0,none⟩) (a.length+1) c2) (fP x a j)∧gI gT x a a.length=gI gT x a j) (fun j _=>j) a.length (by kernel_rfl) ?_ ⟨aF _,x2,o2,rfl⟩ ?_
 ·exact bU
 rintro K3 e3 j w3 ⟨j1,j2,j3,j4⟩ hK3
 have j3':OwnC Ah 3 53 w3 (.slice (some ⟨g2,0,none⟩) (fP x a j).length c2) (fP x a j):=by rw [hlen _ j1]; exact j3
 rcases j with _ | j
 ·have hz:¬ (0:Int) < ((0:Nat):Int):=by omega
  refine bA ?_
  refine bF (sq [0,1,2,3,4,5] (.read 6 (sq [7,8,9,10] (.read 11 (.eff 12 [] (sq [13] .done)))))) ?_
  refine bu @hz ?_
  have j3:=j3.ext (bp.drew' (bp.refl w3))
  have j2:=bp.drew' j2
  have hj:gI gT x a a.length=0:=by
   rw [j4]
   first | rfl | (rw [jX hy,if_neg (by rw [hlt]; simp)])
  have hins:mY gT x a=fP x a (0):=by
   unfold mY fP
   rw [hj]
  refine hK2 _ _ (i+1,.slice (some ⟨g2,0,none⟩) (a.length+1) c2) ?_ ⟨hi,j2,?_,new2⟩ (by simp only; omega)
  ·exact bU
  ·simp only
   rw [sP hx,← ha,hins]
   exact j3
 have hz:(0:Int) < ((j+1:Nat):Int):=by omega
 have e3:((j+1:Nat):Int) - 1=(j:Nat):=by omega
 obtain ⟨y,hy⟩:∃ y,a[j]? = some y:=⟨_,aD (by omega)⟩
 have hx1:=CG x j1
 have hy1:(fP x a (j+1))[j]? = some y:=by rw [Ee x j1 (by omega)]; exact hy
 have p0:=j3'.cell hx1 (j:=0) rfl
 have p1:=j3'.cell hx1 (j:=1) rfl
 have p2:=j3'.cell hx1 (j:=2) rfl
 have q0:=j3'.cell hy1 (j:=0) rfl
 have q1:=j3'.cell hy1 (j:=1) rfl
 have q2:=j3'.cell hy1 (j:=2) rfl
 simp only [str,Nat.add_zero] at p0 p1 p2 q0 q1 q2
 refine bA ?_
 refine bF (sq [0,1,2,3,4,5] (.read 6 (sq [7,8,9,10] (.read 11 (.eff 12 [] (sq [13] .done)))))) ?_
 refine rS @hz @e3 @p0 @p1 @p2 @q0 @q1 @q2 ?_
 refine yI (x:=x) (y:=y) fun w4 x4 => ?_
 have x5:bp w3 w4:=(Keep.refl _ w3).drew.trans x4
 cases hlt:gT x y with
 | false =>
  refine bA ?_
  have j3:=j3.ext x5
  have j2:=j2.trans x5
  have hj:gI gT x a a.length=j+1:=by
   rw [j4]
   first | rfl | (rw [jX hy,if_neg (by rw [hlt]; simp)])
  have hins:mY gT x a=fP x a (j+1):=by
   unfold mY fP
   rw [hj]
  refine hK2 _ _ (i+1,.slice (some ⟨g2,0,none⟩) (a.length+1) c2) ?_ ⟨hi,j2,?_,new2⟩ (by simp only; omega)
  ·exact bU
  ·simp only
   rw [sP hx,← ha,hins]
   exact j3
 | true =>
  have o4:=j3.ext x5
  have p0:=x5.cell p0
  have p1:=x5.cell p1
  have p2:=x5.cell p2
  have q0:=x5.cell q0
  have q1:=x5.cell q1
  have q2:=x5.cell q2
  have f4:∀ o,w4.frozen? ⟨g2,o,none⟩=false:=fun o=>cl o4.own rfl o
  refine bA ?_
  refine bF (sq [0,1,2,3,4,5,6,7,8] (.read 9 (sq [10,11,12] (.read 13 (sq [14] (.eff 15 [] (sq [16] (.eff 17 [] .done)))))))) ?_
  refine rS @e3 @p0 @p1 @p2 @q0 @q1 @q2 @f4 ?_
  have o6:=(o4.set3' (hlen _ j1) (i:=j+1) (by rw [hlen _ j1]; omega) y rfl).set3' (by rw [cq]; exact hlen _ j1) (i:=j) (by rw [cq,hlen _ j1]; omega) x rfl
  rw [CH x y j1 hy] at o6
  have hg2:=new2 g2 rfl
  refine hK3 _ _ j ?_ ⟨by omega,bp.drew' (aj (aj (aj (aj (aj (aj (j2.trans x5) hg2) hg2) hg2) hg2) hg2) hg2),o6.ext (bp.drew' (bp.refl _)),?_⟩ (by omega)
  ·exact bU
  ·rw [j4]
   rw [jX hy,if_pos hlt]
end
end Go.Proofs
end
section
namespace Go.E
open Go Go.Sort Go.Proofs Go.Proofs.Tryz
def Ai (x:Bytes):List Value:=[str x]
theorem wB (x:Bytes):(Ai x).length=1:=rfl
theorem Gw {P:Program} {k:aq} {w:World} {dT sT ty el:TypeId} {by_:Nat} {b o n c m cc:Nat} {a:Addr} {l:List Value} (h:gM P dT=some (el,1,by_)) (hl:l.length=n) (hn:n≤m) (hv:∀ j u,l[j]? = some u→w.cell? (a.add j)=some u) (h1:∀ u ∈ l,u.oneCell'=true) (hc:∀ j,j < n→(w.cell? ⟨b,o+j,none⟩).isSome=true) (hf:∀ j,w.frozen? ⟨b,j,none⟩=false)
    (hk:k (.int .i64 n) (w.setCells b o l)):Cj P #[dT,sT] ty #[.slice (some ⟨b,o,none⟩) n c,.slice (some a) m cc] k w:=by
 obtain ⟨i,z,e1,e2,e3,e4,e5,e6,e7⟩:=iP h
 have:=run_copy_cells (P:=P) w dT sT ty el b o n c a m cc l e1 (by rw [e2]; simpa using e4) (by rw [hl]; exact (Nat.min_eq_right hn).symm) hv (fun j hj=>hc j (by omega)) (fun j _=>hf _) h1
 simp only [Cj,dH,this,hl]
 exact hk
def Hz (xs:List Value) (o:Nat):List Value→List Value
 | []=>xs
 | v :: l=>Hz (xs.set o v) (o+1) l
theorem ug {w:World} {g n cap o:Nat} {xs:List Value} {e:TypeId} {sz:Nat} (l:List Value) (h:w.ownsRow 0 e sz (.slice (some ⟨g,0,none⟩) n cap) n xs):(w.setCells g o l).ownsRow 0 e sz (.slice (some ⟨g,0,none⟩) n cap) n (Hz xs o l):=by
 induction l generalizing w o xs with
 | nil=>exact h
 | cons v l ih=>exact ih (cR h o v)
theorem wC (xs:List Value) (o:Nat) (l:List Value):(Hz xs o l).length=xs.length:=by
 induction l generalizing xs o with
 | nil=>rfl
 | cons v l ih=>unfold Hz; rw [ih,cq]
theorem F7 (xs:List Value) (o:Nat) (l:List Value) (h:o+l.length≤xs.length) (p:Nat):(Hz xs o l)[p]? = if o≤p∧p < o+l.length then l[p - o]? else xs[p]? := by
 induction l generalizing xs o with
 | nil=>rw [if_neg (by simp only [List.length_nil]; omega)]; rfl
 | cons v l ih =>
  simp only [aZ] at h ⊢
  unfold Hz
  rw [ih _ _ (by rw [cq]; omega)]
  by_cases hp:p=o
  ·subst hp
   rw [if_neg (by omega),if_pos (by omega),List.getElem?_set_self (by omega),Nat.sub_self]
   rfl
  ·by_cases hp2:o+1≤p∧p < o+1+l.length
   ·rw [if_pos hp2,if_pos (by omega),show p - o=p - (o+1)+1 by omega,List.getElem?_cons_succ]
   ·rw [if_neg hp2,if_neg (by omega),List.getElem?_set_ne (by omega)]
theorem wD (b:List Bytes):b.flatMap Ai=b.map str:=by
 induction b with
 | nil=>rfl
 | cons x b ih=>rw [ae,ih]; rfl
theorem uh (b:List Bytes) (key:Bytes) {i:Nat} (h:i≤b.length):(Hz ((b++[[]]).map str) (i+1) ((b.drop i).map str)).set i (str key)=(b.take i++key :: b.drop i).map str:=by
 refine List.ext_getElem? fun p => ?_
 have hl:((b++[[]]).map str).length=b.length+1:=by simp
 by_cases hp:p=i
 ·subst hp
  rw [List.getElem?_set_self (by rw [wC,hl]; omega),bw,bC (by simp; omega)]
  simp [Nat.min_eq_left h]
 ·rw [List.getElem?_set_ne (by omega),F7 _ _ _ (by rw [hl]; simp; omega),bw]
  rcases aH p i with h1 | h1
  ·rw [if_neg (by omega),bw,bw,bR (by omega),bR (by rw [bE]; omega),List.getElem?_take_of_lt h1]
  ·rw [bw (l:=b.take i++key :: b.drop i),bC (by rw [bE]; omega)]
   obtain ⟨q,rfl⟩:∃ q,p=i+1+q:=⟨p - (i+1),by omega⟩
   rw [show i+1+q - (b.take i).length=q+1 by rw [bE]; omega,List.getElem?_cons_succ]
   by_cases hq:q < (b.drop i).length
   ·rw [if_pos (by simp only [aR]; omega),show i+1+q - (i+1)=q by omega]
   ·rw [if_neg (by simp only [aR]; omega),List.getElem?_eq_none (by rw [hl]; rw [List.length_drop] at hq; omega),List.getElem?_eq_none (by omega)]
    rfl
end Go.E
namespace Go.Proofs
open Go Go.E Go.Sort Go.Proofs.Tryz
section
variable {k:aq} {d w:World}
set_option maxHeartbeats 1000000 in
theorem yK {B:Nat} {v:Value} {b:List Bytes} {key:Bytes} (hc:w.cell? ⟨B,0,none⟩=some v) (hf:∀ x,w.frozen? ⟨B,x,none⟩=false) (o:OwnC Ai 1 9 w v b) (hB:v.ownBlock≠some B) (hl:b.length < 100000)
    (hk:∀ v2 w2,OwnC Ai 1 9 w2 v2 (jW b key)→w2.cell? ⟨B,0,none⟩=some v2→Keep (fun x _=>x=B∨v.ownBlock=some x) w w2→cZ w v v2→k (.tuple #[]) w2):ai prog 73 #[.string ⟨key.toArray⟩,.pointer (some ⟨B,0,none⟩)] k w:=by
 obtain ⟨va,vc,rfl,hcl,hcm⟩:=o.form
 refine al [] func73 ?_
 refine bu @hc ?_
 refine jf (fun i:Nat=>[(0,.string ⟨key.toArray⟩),(1,.pointer (some ⟨B,0,none⟩)),(3,.int .i64 i)]) (fun i w'=>i≤b.length∧w'=w∧gI FD key b b.length=i) (by kernel_rfl) (fun K hK => ?_) ?_
 ·refine bZ (fun i:Nat=>[(0,.string ⟨key.toArray⟩),(1,.pointer (some ⟨B,0,none⟩)),(3,.int .i64 i)])
    (fun i w'=>i≤b.length∧w'=w∧gI FD key b b.length=gI FD key b i) (fun i _=>i) b.length (by kernel_rfl) ?_ ⟨aF _,rfl,rfl⟩ ?_
  ·exact bU
  rintro K2 e i w' ⟨i1,rfl,i3⟩ hK2
  rcases i with _ | i
  ·have hz:¬ (0:Int) < ((0:Nat):Int):=by omega
   refine dO @hc @hz ?_
   refine hK _ _ 0 ?_ ⟨aT _,rfl,by rw [i3]; rfl⟩
   exact bU
  have hz:(0:Int) < ((i+1:Nat):Int):=by omega
  have e1:((i+1:Nat):Int) - 1=(i:Nat):=by omega
  obtain ⟨y,hy⟩:∃ y,b[i]? = some y:=⟨_,aD (by omega)⟩
  obtain ⟨g,c,hve,_⟩:=o.block (show i < b.length by omega)
  obtain ⟨rfl,rfl⟩:va=some ⟨g,0,none⟩∧vc=c:=by simpa using hve
  have p0:=o.cell hy (j:=0) rfl
  simp only [str,Nat.add_zero] at p0
  by_cases hge:y < key
  ·refine qh @hc @hz @e1 @p0 @hge @not_true_eq_false ?_
   refine hK _ _ (i+1) ?_ ⟨i1,rfl,by rw [i3,jX hy,if_neg (by unfold FD; simpa using hge)]⟩
   exact bU
  ·refine qh @hc @hz @e1 @p0 @hge @not_false_eq_true ?_
   refine hK2 _ _ i ?_ ⟨by omega,rfl,by rw [i3,jX hy,if_pos (by unfold FD; exact aV hge)]⟩ (by omega)
   exact bU
 rintro e i w' ⟨i1,rfl,hidx⟩
 by_cases he:b[i]? = some key
 ·have ha:jW b key=b:=by unfold jW; rw [hidx,if_pos he]
  rw [ha] at hk
  have hlt:i < b.length:=(aQ.1 he).1
  have hlt':(i:Int) < b.length:=by omega
  obtain ⟨g,c,hve,_⟩:=o.block hlt
  obtain ⟨rfl,rfl⟩:va=some ⟨g,0,none⟩∧vc=c:=by simpa using hve
  have p0:=o.cell he (j:=0) rfl
  simp only [str,Nat.add_zero] at p0
  refine dQ @hc @hlt' @p0 ?_
  exact hk _ w' o hc (Keep.refl _ w') (cZ.refl _ _)
 have ha:jW b key=b.take i++key :: b.drop i:=by unfold jW mY; rw [hidx,if_neg he]
 rw [ha] at hk
 obtain ⟨vn,hvn⟩:∃ vn:Value,vn = .slice va b.length vc:=⟨_,rfl⟩
 rw [← hvn] at o hc hk hB
 have next:∀ (v2:Value) (w2:World),OwnC Ai 1 9 w2 v2 (b++[[]])→Keep (fun x _=>vn.ownBlock=some x) w' w2→cZ w' vn v2→∃ g c,v2 = .slice (some ⟨g,0,none⟩) (b.length+1) c∧b.length+1≤c∧c≤9223372036854775807∧g≠B:=by
  intro v2 w2 o2 k2 n2
  obtain ⟨a,c,e1,e2,e3⟩:=o2.form
  obtain ⟨g,c',e4,_⟩:=o2.block (i:=0) (by simp)
  rw [e1] at e4
  obtain ⟨rfl,rfl⟩:a=some ⟨g,0,none⟩∧c=c':=by simpa using e4
  refine ⟨g,c,by rw [e1]; simp,by simpa using e2,e3,fun hg => ?_⟩
  rcases n2 g (by rw [e1]; rfl) with h | h
  ·exact hB (by rw [h,hg])
  ·have:=aC hc; omega
 by_cases hlt:i < b.length
 ·have hlt':(i:Int) < b.length:=by omega
  obtain ⟨y,hy⟩:=gEl hlt
  have hyk:¬ y=key:=fun h=>he (by rw [hy,h])
  obtain ⟨g,c,hve,_⟩:=o.block hlt
  rw [hvn] at hve
  obtain ⟨rfl,rfl⟩:va=some ⟨g,0,none⟩∧vc=c:=by simpa using hve
  have p0:=(by rw [← hvn]; exact o:OwnC Ai 1 9 w' (.slice (some ⟨g,0,none⟩) b.length vc) b).cell hy (j:=0) rfl
  simp only [str,Nat.add_zero] at p0
  refine hJ @hc @hvn @hlt' @p0 @hyk ?_
  rw [← hvn]
  refine Ag ([]:Bytes) rw97 o rfl (.inl rfl) rfl (by simp [Ai,str,Value.oneCell']) (by omega) fun v2 w2 o2 k2 n2 => ?_
  obtain ⟨g2,c2,rfl,c3,c4,hgB⟩:=next v2 w2 o2 k2 n2
  have hc2:=k2.some hc fun h=>hB h
  have hBl:=aC hc
  have f2:∀ x,w2.frozen? ⟨B,x,none⟩=false:=fun x=>by rw [k2.frozen B x hBl]; exact hf x
  refine dO @hc2 @f2 ?_
  obtain ⟨w3,hw3⟩:∃ w3,w3=w2.setCell ⟨B,0,none⟩ (.slice (some ⟨g2,0,none⟩) (b.length+1) c2):=⟨_,rfl⟩
  rw [← hw3]
  have hc3:w3.cell? ⟨B,0,none⟩=some (.slice (some ⟨g2,0,none⟩) (b.length+1) c2):=by rw [hw3,cJ,hc2]; rfl
  have o3:OwnC Ai 1 9 w3 (.slice (some ⟨g2,0,none⟩) (b.length+1) c2) (b++[[]]):=by rw [hw3]; exact o2.keep (bY (M:=fun x _=>x=B) rfl) fun g hg _ h=>hgB (by cases hg; exact h)
  have k3:Keep (fun x _=>x=B∨vn.ownBlock=some x∨x=g2) w' w3:=by rw [hw3]; exact (k2.mono fun x _ _ h => .inr (.inl h)).set fun _ => .inl rfl
  have f3:∀ x,w3.frozen? ⟨g2,x,none⟩=false:=fun x=>cl o3.own rfl x
  have ew:IntKind.i64.wrap ((i:Int)+1)=((i+1:Nat):Int):=by rw [dP (by omega) (by omega)]; omega
  have s1:∀ q,cz prog 97 (.slice (some ⟨g2,0,none⟩) (b.length+1) c2) (some (.int .i64 ((i+1:Nat):Int))) none none q=q (.slice (if (c2:Int)=((i+1:Nat):Int) then some ⟨g2,0,none⟩ else some ⟨g2,i+1,none⟩) (b.length - i) (c2 - (i+1))):=fun q=>by
   rw [eW Tryz.es97 rfl rfl (by omega) (by simp [bd]; omega) (by simp [bd]; omega) (by simp [bd]) (by simp)]
   simp only [ni,cH,Nat.mul_one,Option.map_some,iV,Nat.zero_add]
   rw [show b.length+1 - (i+1)=b.length - i by omega]
  have s2:∀ q,cz prog 97 (.slice (some ⟨g2,0,none⟩) (b.length+1) c2) (some (.int .i64 (i:Int))) none none q=q (.slice (some ⟨g2,i,none⟩) (b.length+1 - i) (c2 - i)):=fun q=>by
   rw [eW Tryz.es97 rfl rfl (by omega) (by simp [bd]; omega) (by simp [bd]; omega) (by simp [bd]) (by simp)]
   simp only [ni,cH,Nat.mul_one,Option.map_some,iV,Nat.zero_add]
   rw [if_neg (by omega)]
  refine bF (.read 0 (sq [1,2,3] (.read 4 (sq [5,6] (.eff 7 [] .done))))) ?_
  refine eO @hc3 @ew @s1 @s2 ?_
  obtain ⟨l4,hl4⟩:∃ l4,l4=(b.drop i).map str:=⟨_,rfl⟩
  have hll:l4.length=b.length - i:=by rw [hl4,aR,List.length_drop]
  have hcell:∀ (p:Nat) (x:Bytes),(b++[[]])[p]? = some x→w3.cell? ⟨g2,p,none⟩=some (str x):=fun p x hx=>by
   have o3':OwnC Ai 1 9 w3 (.slice (some ⟨g2,0,none⟩) (b++[[]]).length c2) (b++[[]]):=by rw [aE]; exact o3
   have:=o3'.cell hx (j:=0) rfl
   rwa [Nat.mul_one,Nat.add_zero] at this
  have cp:∀ q:aq,q (.int .i64 ((b.length - i:Nat):Int)) (w3.drew.setCells g2 (i+1) l4)→Cj prog #[97,97] 3 #[.slice (if (c2:Int)=((i+1:Nat):Int) then some ⟨g2,0,none⟩ else some ⟨g2,i+1,none⟩) (b.length - i) (c2 - (i+1)),.slice (some ⟨g2,i,none⟩) (b.length+1 - i) (c2 - i)] q w3.drew:=fun q hq=>by
   rcases aH i b.length with h1 | h1
   ·rw [if_neg (by omega)]
    refine Gw rw97 hll (by omega) (fun j u hu => ?_) (fun u hu => ?_) (fun j hj => ?_) f3 hq
    ·rw [iV rfl]
     rw [hl4,bw,List.getElem?_drop] at hu
     obtain ⟨x,hx,rfl⟩:=Option.map_eq_some_iff.1 hu
     exact hcell _ x (by rw [bR (aQ.1 hx).1]; exact hx)
    ·rw [hl4] at hu
     obtain ⟨x,_,rfl⟩:=bj.1 hu
     exact AW x
    ·have:(w3.cell? ⟨g2,i+1+j,none⟩).isSome=true:=by rw [hcell (i+1+j) _ (aD (by simp; omega))]; rfl
     exact this
   ·have hz:b.length - i=0:=by omega
    have hl0:l4=[]:=ak.1 (by omega)
    rw [hz,hl0] at hq
    rw [hz]
    exact zT rw97 hq
  refine cp _ ?_
  obtain ⟨w4,hw4⟩:∃ w4,w4=w3.drew.setCells g2 (i+1) l4:=⟨_,rfl⟩
  rw [← hw4]
  have k4:Keep (fun x _=>x=g2) w3 w4:=by rw [hw4]; exact kA l4 (i+1) (Keep.refl _ w3).drew fun j _=>rfl
  have hc4:=k4.some hc3 fun h=>hgB h.symm
  have o4:=ug (n:=b.length+1) (o:=i+1) l4 (by have:=o3.own.drew; rwa [aE] at this)
  rw [← hw4,wD,hl4] at o4
  have q4:∃ u,w4.cell? ⟨g2,i,none⟩=some u:=⟨_,bW o4 (aD (by rw [wC]; simp; omega))⟩
  obtain ⟨u4,q4⟩:=q4
  have f4:∀ x,w4.frozen? ⟨g2,x,none⟩=false:=fun x=>cl o4 rfl x
  refine eO @hc4 @Nat.mul_one @q4 @f4 ?_
  have o5:=cR o4 i (str key)
  rw [uh b key i1] at o5
  refine hk _ _ ⟨?_,wB⟩ ((wk hgB).trans hc4) ?_ n2
  ·rw [wD,show (b.take i++key :: b.drop i).length=b.length+1 by simp; omega]
   exact o5
  ·refine ((k3.tr k4 fun x _ _ h => .inr (.inr h)).set fun _ => .inr (.inr rfl)).mono fun x _ hx h => ?_
   rcases h with h | h | h
   ·exact .inl h
   ·exact .inr h
   ·rcases n2 g2 rfl with h2 | h2
    ·exact .inr (by rw [h]; exact h2)
    ·omega
 ·have hlt':¬ (i:Int) < b.length:=by omega
  refine dQ @hc @hvn @hlt' ?_
  rw [← hvn]
  refine Ag ([]:Bytes) rw97 o rfl (.inl rfl) rfl (by simp [Ai,str,Value.oneCell']) (by omega) fun v2 w2 o2 k2 n2 => ?_
  obtain ⟨g2,c2,rfl,c3,c4,hgB⟩:=next v2 w2 o2 k2 n2
  have hc2:=k2.some hc fun h=>hB h
  have hBl:=aC hc
  have f2:∀ x,w2.frozen? ⟨B,x,none⟩=false:=fun x=>by rw [k2.frozen B x hBl]; exact hf x
  refine dO @hc2 @f2 ?_
  obtain ⟨w3,hw3⟩:∃ w3,w3=w2.setCell ⟨B,0,none⟩ (.slice (some ⟨g2,0,none⟩) (b.length+1) c2):=⟨_,rfl⟩
  rw [← hw3]
  have hc3:w3.cell? ⟨B,0,none⟩=some (.slice (some ⟨g2,0,none⟩) (b.length+1) c2):=by rw [hw3,cJ,hc2]; rfl
  have o3:OwnC Ai 1 9 w3 (.slice (some ⟨g2,0,none⟩) (b.length+1) c2) (b++[[]]):=by rw [hw3]; exact o2.keep (bY (M:=fun x _=>x=B) rfl) fun g hg _ h=>hgB (by cases hg; exact h)
  have k3:Keep (fun x _=>x=B∨vn.ownBlock=some x∨x=g2) w' w3:=by rw [hw3]; exact (k2.mono fun x _ _ h => .inr (.inl h)).set fun _ => .inl rfl
  have f3:∀ x,w3.frozen? ⟨g2,x,none⟩=false:=fun x=>cl o3.own rfl x
  have ew:IntKind.i64.wrap ((i:Int)+1)=((i+1:Nat):Int):=by rw [dP (by omega) (by omega)]; omega
  have s1:∀ q,cz prog 97 (.slice (some ⟨g2,0,none⟩) (b.length+1) c2) (some (.int .i64 ((i+1:Nat):Int))) none none q=q (.slice (if (c2:Int)=((i+1:Nat):Int) then some ⟨g2,0,none⟩ else some ⟨g2,i+1,none⟩) (b.length - i) (c2 - (i+1))):=fun q=>by
   rw [eW Tryz.es97 rfl rfl (by omega) (by simp [bd]; omega) (by simp [bd]; omega) (by simp [bd]) (by simp)]
   simp only [ni,cH,Nat.mul_one,Option.map_some,iV,Nat.zero_add]
   rw [show b.length+1 - (i+1)=b.length - i by omega]
  have s2:∀ q,cz prog 97 (.slice (some ⟨g2,0,none⟩) (b.length+1) c2) (some (.int .i64 (i:Int))) none none q=q (.slice (some ⟨g2,i,none⟩) (b.length+1 - i) (c2 - i)):=fun q=>by
   rw [eW Tryz.es97 rfl rfl (by omega) (by simp [bd]; omega) (by simp [bd]; omega) (by simp [bd]) (by simp)]
   simp only [ni,cH,Nat.mul_one,Option.map_some,iV,Nat.zero_add]
   rw [if_neg (by omega)]
  refine bF (.read 0 (sq [1,2,3] (.read 4 (sq [5,6] (.eff 7 [] .done))))) ?_
  refine eO @hc3 @ew @s1 @s2 ?_
  obtain ⟨l4,hl4⟩:∃ l4,l4=(b.drop i).map str:=⟨_,rfl⟩
  have hll:l4.length=b.length - i:=by rw [hl4,aR,List.length_drop]
  have hcell:∀ (p:Nat) (x:Bytes),(b++[[]])[p]? = some x→w3.cell? ⟨g2,p,none⟩=some (str x):=fun p x hx=>by
   have o3':OwnC Ai 1 9 w3 (.slice (some ⟨g2,0,none⟩) (b++[[]]).length c2) (b++[[]]):=by rw [aE]; exact o3
   have:=o3'.cell hx (j:=0) rfl
   rwa [Nat.mul_one,Nat.add_zero] at this
  have cp:∀ q:aq,q (.int .i64 ((b.length - i:Nat):Int)) (w3.drew.setCells g2 (i+1) l4)→Cj prog #[97,97] 3 #[.slice (if (c2:Int)=((i+1:Nat):Int) then some ⟨g2,0,none⟩ else some ⟨g2,i+1,none⟩) (b.length - i) (c2 - (i+1)),.slice (some ⟨g2,i,none⟩) (b.length+1 - i) (c2 - i)] q w3.drew:=fun q hq=>by
   rcases aH i b.length with h1 | h1
   ·rw [if_neg (by omega)]
    refine Gw rw97 hll (by omega) (fun j u hu => ?_) (fun u hu => ?_) (fun j hj => ?_) f3 hq
    ·rw [iV rfl]
     rw [hl4,bw,List.getElem?_drop] at hu
     obtain ⟨x,hx,rfl⟩:=Option.map_eq_some_iff.1 hu
     exact hcell _ x (by rw [bR (aQ.1 hx).1]; exact hx)
    ·rw [hl4] at hu
     obtain ⟨x,_,rfl⟩:=bj.1 hu
     exact AW x
    ·have:(w3.cell? ⟨g2,i+1+j,none⟩).isSome=true:=by rw [hcell (i+1+j) _ (aD (by simp; omega))]; rfl
     exact this
   ·have hz:b.length - i=0:=by omega
    have hl0:l4=[]:=ak.1 (by omega)
    rw [hz,hl0] at hq
    rw [hz]
    exact zT rw97 hq
  refine cp _ ?_
  obtain ⟨w4,hw4⟩:∃ w4,w4=w3.drew.setCells g2 (i+1) l4:=⟨_,rfl⟩
  rw [← hw4]
  have k4:Keep (fun x _=>x=g2) w3 w4:=by rw [hw4]; exact kA l4 (i+1) (Keep.refl _ w3).drew fun j _=>rfl
  have hc4:=k4.some hc3 fun h=>hgB h.symm
  have o4:=ug (n:=b.length+1) (o:=i+1) l4 (by have:=o3.own.drew; rwa [aE] at this)
  rw [← hw4,wD,hl4] at o4
  have q4:∃ u,w4.cell? ⟨g2,i,none⟩=some u:=⟨_,bW o4 (aD (by rw [wC]; simp; omega))⟩
  obtain ⟨u4,q4⟩:=q4
  have f4:∀ x,w4.frozen? ⟨g2,x,none⟩=false:=fun x=>cl o4 rfl x
  refine eO @hc4 @Nat.mul_one @q4 @f4 ?_
  have o5:=cR o4 i (str key)
  rw [uh b key i1] at o5
  refine hk _ _ ⟨?_,wB⟩ ((wk hgB).trans hc4) ?_ n2
  ·rw [wD,show (b.take i++key :: b.drop i).length=b.length+1 by simp; omega]
   exact o5
  ·refine ((k3.tr k4 fun x _ _ h => .inr (.inr h)).set fun _ => .inr (.inr rfl)).mono fun x _ hx h => ?_
   rcases h with h | h | h
   ·exact .inl h
   ·exact .inr h
   ·rcases n2 g2 rfl with h2 | h2
    ·exact .inr (by rw [h]; exact h2)
    ·omega
theorem zl {l:List Sp} {i:Nat} {x:Sp} (h:l[i]? = some x):cN (l.take (i+1))=jW (jW (cN (l.take i)) x.s) x.e:=by
 rw [bz h]
 unfold cN
 rw [List.foldl_append]
 rfl
theorem zn {v:Value} {l:List Sp} (hv:Sl dh 3 w v l) (hl:l.length≤10000) (hk:∀ v2 w2,bp w w2→OwnC Ai 1 9 w2 v2 (cN l)→(∀ g,v2.ownBlock=some g→w.heap.size≤g)→k v2 w2):ai prog 44 #[v] k w:=by
 obtain ⟨ka,kc,rfl⟩:=hv.form
 refine al [.tmp 2] func44 ?_
 refine bA ?_
 obtain ⟨B,hB⟩:∃ B,B=w.heap.size:=⟨_,rfl⟩
 obtain ⟨w0,hw0⟩:∃ w0,w0=w.alloc (.cells #[.slice none 0 0] 97):=⟨_,rfl⟩
 have x0:bp w w0:=by rw [hw0]; exact aJ _
 have c0:w0.cell? ⟨B,0,none⟩=some (.slice none 0 0):=by rw [hw0,hB]; exact bX @aA
 have f0:∀ y,w0.frozen? ⟨B,y,none⟩=false:=fun y=>by rw [hw0,hB]; simp (disch:=first | exact dZ | fail) only [go_sem]
 rw [← hw0,← hB]
 refine bZ (fun i:Nat=>[(3,.pointer (some ⟨B,0,none⟩)),(4,.func (.func 73) #[] #[.pointer (some ⟨B,0,none⟩)]),(8,.slice ka l.length kc),(9,.int .i64 l.length),(10,.int .i64 i)])
  (fun i w'=>i≤l.length∧bp w w'∧∃ v,w'.cell? ⟨B,0,none⟩=some v∧(∀ y,w'.frozen? ⟨B,y,none⟩=false)∧OwnC Ai 1 9 w' v (cN (l.take i))∧(∀ g,v.ownBlock=some g→B < g)) (fun i _=>l.length - i) 0 (by kernel_rfl) ?_ ⟨aT _,x0,_,c0,f0,OwnC.nil wB,by simp [Value.ownBlock]⟩ ?_
 ·exact bU
 rintro K2 e i w1 ⟨i2,i3,v,i4,i5,i6,i7⟩ hK2
 have hB1:=aC i4
 rcases aH i l.length with hi | hi
 rotate_left
 ·have hi':¬ (i:Int) < l.length:=by omega
  obtain rfl:i=l.length:=by omega
  rw [ag] at i6
  obtain ⟨va,vc,rfl,_⟩:=i6.form
  refine dO @hi' @i4 ?_
  exact hk _ w1 i3 i6 fun g hg=>by have:=i7 g hg; omega
 have hi':(i:Int) < l.length:=by omega
 obtain ⟨g,f,c,hv',hc,hat⟩:=(hv.inc dh.mono i3.inc).at (by omega)
 obtain ⟨rfl,rfl⟩:=sEq hv'
 obtain ⟨x,hx⟩:=gEl hi
 obtain ⟨h0,h1,a,cc,h2,_⟩:=fN (hat i x hx)
 refine hJ @hi' @h0 @h1 @h2 @aA ?_
 obtain ⟨C,hC⟩:∃ C,C=w1.heap.size:=⟨_,rfl⟩
 obtain ⟨w2,hw2⟩:∃ w2,w2=w1.alloc (.cells #[.string ⟨x.s.toArray⟩,.string ⟨x.e.toArray⟩,.slice a x.ks.length cc] 30):=⟨_,rfl⟩
 have x2:bp w1 w2:=by rw [hw2]; exact aJ _
 have z2:w2.heap.size=C+1:=by rw [hw2,World.size_alloc,hC]
 have c1:w2.cell? ⟨C,1,none⟩=some (.string ⟨x.e.toArray⟩):=by rw [hw2,hC]; exact bX @aA
 rw [← hw2,← hC]
 have hbl:(cN (l.take i)).length≤20000:=by have:=gE (l.take i); rw [dV i2] at this; omega
 refine yK (x2.cell i4) (fun y=>by rw [x2.frozen B y hB1]; exact i5 y) (i6.ext x2) (fun h=>by have:=i7 B h; omega) (by omega) fun v3 w3 o3 c3 k3 n3 => ?_
 have hb2:=mF (cN (l.take i)) x.s
 have hown:∀ {g},v.ownBlock=some g→g < w1.heap.size:=fun h=>(i6.own.lt _ h).2
 have nC:∀ _:Nat,¬ (C=B∨v.ownBlock=some C):=fun y h=>by
  rcases h with h | h
  ·omega
  ·have:=hown h; omega
 have n3':∀ g,v3.ownBlock=some g→B < g∧g≠C:=fun g hg=>by
  rcases n3 g hg with h | h
  ·have:=i7 g h
   have:=hown h
   omega
  ·omega
 have c1:=k3.some c1 (nC 1)
 have f3:∀ y,w3.frozen? ⟨B,y,none⟩=false:=fun y=>by rw [k3.frozen B y (aL hB1 x2.size),x2.frozen B y hB1]; exact i5 y
 have e3:bp w w3:=(i3.trans x2).tr k3 fun b o hb h=>by
  rcases h with h | h
  ·omega
  ·have:=i7 b h; omega
 refine bu @c1 ?_
 refine yK c3 f3 o3 (fun h=>by have:=(n3' B h).1; omega) (by omega) fun v4 w4 o4 c4 k4 n4 => ?_
 refine bA ?_
 refine hK2 _ _ (i+1) ?_ ⟨hi,e3.tr k4 fun b o hb h => ?_,v4,c4,fun y=>by rw [k4.frozen B y (aC c3)]; exact f3 y,by rw [zl hx]; exact o4,fun g hg => ?_⟩ (by omega)
 ·exact bU
 ·rcases h with h | h
  ·omega
  ·have:=(n3' b h).1; omega
 ·rcases n4 g hg with h | h
  ·exact (n3' g h).1
  ·have:=aC c3; omega
end
end Go.Proofs
end
section
namespace Go.E
open Go Go.Sort Go.Proofs Go.Proofs.Tryz
section
variable {α:Type} {R:gR α} {sz:Nat} {el:TypeId} {d w:World} {v u:Value} {l m:List α} {css:List (List Value)}
theorem Sl.lie [Inhabited α] (h:Sl R sz d v l) (hp:0 < sz):∃ css:List (List Value),css.length=l.length∧(∀ cs ∈ css,cs.length=sz)∧(∀ (i:Nat) (x:α) (cs:List Value),l[i]? = some x→css[i]? = some cs→R d cs x)∧∀ w,cM d w→rW w v l.length css.flatten:=by
 rcases bt l.length with h0 | h0
 ·obtain ⟨a,c,rfl⟩:=h.form
  refine ⟨[],by simp [h0],by simp,by simp,fun w _ => ?_⟩
  rw [h0]
  cases a
  ·exact ⟨rfl,rfl,rfl⟩
  ·exact ⟨rfl,by simp⟩
 obtain ⟨b,o,c,rfl,_,hat⟩:=h.at h0
 have:∀ i,∃ cs:List Value,i < l.length→cs.length=sz∧(∀ j u,cs[j]? = some u→d.cell? ⟨b,o+i * sz+j,none⟩=some u)∧R d cs l[i]! := fun i=>by
  by_cases hi:i < l.length
  ·obtain ⟨cs,h1,h2,h3⟩:=hat i l[i] (aD hi)
   exact ⟨cs,fun _=>⟨h1,h2,by rw [aI l i hi]; exact h3⟩⟩
  ·exact ⟨[],fun h=>absurd h hi⟩
 obtain ⟨f,hf⟩:=Classical.skolem.1 this
 have hsz:∀ cs ∈ (List.range l.length).map f,cs.length=sz:=fun cs hcs=>by
  obtain ⟨i,hi,rfl⟩:=bj.1 hcs
  exact (hf i (List.mem_range.1 hi)).1
 refine ⟨(List.range l.length).map f,by simp,hsz,fun i x cs hx hcs => ?_,fun w hw=>⟨rfl,fun p u hu => ?_⟩⟩
 ·have hi:=(aQ.1 hx).1
  have:=hf i hi
  rw [aI l i hi,(aQ.1 hx).2] at this
  have e:f i=cs:=by simpa [bw,List.getElem?_range hi] using hcs
  rw [← e]
  exact this.2.2
 ·rw [iV rfl]
  have hl:=(aQ.1 hu).1
  rw [xZ hsz] at hl
  simp only [aR,List.length_range] at hl
  obtain ⟨q,r,hr,rfl⟩:∃ q r,r < sz∧p=q * sz+r:=⟨p / sz,p % sz,Nat.mod_lt _ hp,by rw [Nat.mul_comm]; exact (Nat.div_add_mod p sz).symm⟩
  have hq:q < l.length:=by
   rcases aH q l.length with h1 | h1
   ·exact h1
   ·have:=bO sz h1; omega
  have hfq:=hf q hq
  have hcs:((List.range l.length).map f)[q]? = some (f q):=by simp [List.getElem?_range hq]
  have hj:(f q)[r]? = some ((f q)[r]'(by rw [hfq.1]; exact hr)):=aD _
  have:=sA hsz hcs hj
  rw [this] at hu
  have:=hfq.2.1 r _ hj
  rw [Nat.add_assoc] at this
  rw [← hu]
  exact hw _ _ _ this
theorem Kv [Inhabited α] {P:Program} {q:aq} {t ty:TypeId} {by_:Nat} (Ap:gM P t=some (el,sz,by_)) (h:OwnL R sz el d w v l css) (hp:0 < sz) (hu:Sl R sz d u m) (h1:∀ cs x,R d cs x→∀ y ∈ cs,y.oneCell'=true) (hb:(l.length+m.length) * (by_+1)≤140737488355328) (hinc:cM d w)
    (hk:∀ v2 w2 css2,OwnL R sz el d w2 v2 (l++m) css2→Keep (fun b _=>v.ownBlock=some b) w w2→cZ w v v2→cM d w2→q v2 w2):me P #[t,t] ty #[v,u] q w:=by
 obtain ⟨cs2,c1,c2,c3,c4⟩:=hu.lie hp
 refine pO Ap h.own (by rw [xZ c2,c1]) (c4 w hinc) (fun y hy => ?_) hb fun v2 w2 o2 k2 n2 _ => ?_
 ·obtain ⟨cs,hcs,hy⟩:=du.1 hy
  obtain ⟨i,hi,rfl⟩:=bB hcs
  exact h1 _ _ (c3 i _ _ (aD (by omega)) (aD hi)) y hy
 ·have hk2:=k2 (fun b _=>v.ownBlock=some b) fun b _ hb _=>hb
  have hn:cZ w v v2:=fun g hg=>by
   rcases n2 with h | ⟨g',h,h',_⟩
   ·left; rw [← h]; exact hg
   ·right; rw [h] at hg; cases hg; exact h'
  refine hk v2 w2 (css++cs2) ⟨by rw [aE,aE,h.len,c1],by rw [aE,List.flatten_append]; exact o2,fun cs hcs => ?_,fun i x cs hx hcs => ?_,fun g hg => ?_⟩ hk2 hn (hinc.keep hk2 fun b x hb=>h.out b hb x)
  ·rcases aS.1 hcs with h3 | h3
   ·exact h.sz cs h3
   ·exact c2 cs h3
  ·rcases aH i l.length with hi | hi
   ·rw [bR hi] at hx
    rw [bR (by rw [h.len]; exact hi)] at hcs
    exact h.R i x cs hx hcs
   ·rw [bC hi] at hx
    rw [bC (by rw [h.len]; exact hi),h.len] at hcs
    exact c3 _ x cs hx hcs
  ·rcases hn g hg with h3 | h3
   ·exact h.out g h3
   ·exact hinc.out h3
end
theorem dh.one {d:World} {cs:List Value} {x:Sp} (h:dh d cs x):∀ y ∈ cs,y.oneCell'=true:=by
 obtain ⟨v,rfl,hv⟩:=h
 obtain ⟨a,c,rfl⟩:=hv.form
 simp [Value.oneCell',str]
end Go.E
namespace Go.Proofs
open Go Go.E Go.Sort Go.Proofs.Tryz
section
variable {k:aq} {d w:World}
theorem yL {v:Value} {l:List (List Sp)} (hv:Sl pe 1 d v l) (hl:l.length≤1000) (hs:∀ x ∈ l,x.length≤1000) (hinc:cM d w) (hk:∀ d2 w2 v2,Gr d w d2 w2→Sl dh 3 d2 v2 l.flatten→k v2 w2):ai prog 19 #[v] k w:=by
 obtain ⟨ka,kc,rfl⟩:=hv.form
 refine al [.tmp 2] func19 ?_
 refine bA ?_
 refine bZ (fun b:Nat × Value=>[(3,b.2),(6,.slice ka l.length kc),(7,.int .i64 l.length),(8,.int .i64 b.1)])
  (fun b w'=>b.1≤l.length∧LoopL dh 3 30 d w d w' b.2 (l.take b.1).flatten) (fun b _=>l.length - b.1) (0,.slice none 0 0) (by kernel_rfl) ?_ ⟨aT _,LoopL.nil hinc⟩ ?_
 ·exact bU
 rintro K2 e ⟨i,v⟩ w1 ⟨i2,i3⟩ hK2
 simp only at i2 i3
 rcases aH i l.length with hi | hi
 rotate_left
 ·have hi':¬ (i:Int) < l.length:=by omega
  refine bu @hi' ?_
  obtain rfl:i=l.length:=by omega
  rw [ag] at i3
  obtain ⟨d2,g2,_,_,s2⟩:=i3.done dh.mono
  exact hk d2 w1 v g2 s2
 have hi':(i:Int) < l.length:=by omega
 obtain ⟨g,f,c,hv',hc,hat⟩:=hv.at (by omega)
 obtain ⟨rfl,rfl⟩:=sEq hv'
 obtain ⟨x,hx⟩:=gEl hi
 obtain ⟨cs,_,hcs,kv,rfl,hkv⟩:=hat i x hx
 obtain ⟨kva,kvc,rfl⟩:=hkv.form
 have h0:w1.cell? ⟨g,f+i * 1,none⟩=some (.slice kva x.length kvc):=i3.g.j _ _ _ (hcs 0 _ rfl)
 have hfl:(l.take i).flatten.length≤i * 1000:=by
  have:=fZ (Lv:=l.take i) (n:=1000) fun L hL=>hs L (List.mem_of_mem_take hL)
  rwa [dV i2] at this
 have hxl:=hs x (aO hx)
 obtain ⟨va,vcap,rfl,_⟩:=i3.form
 refine dO @hi' @h0 ?_
 obtain ⟨css,o4⟩:=i3.o
 refine Kv rw22 o4 (by decide) hkv (fun cs x h=>h.one) (by have:i * 1000≤1000 * 1000:=bO _ (by omega); omega) i3.g.j fun v2 w2 css2 o2 k2 n2 j2 => ?_
 refine bA ?_
 refine hK2 _ _ (i+1,v2) ?_ ⟨hi,?_⟩ (by simp only; omega)
 ·exact bU
 ·rw [bz hx,List.flatten_append]
  simp only [List.flatten_cons,List.flatten_nil,ao]
  exact i3.more o2 k2 n2 j2
end
end Go.Proofs
end
section
namespace Go.E
open Go Go.Sort Go.Proofs Go.Proofs.Tryz
theorem F8 {d w:World} {v:Value} {l:List K} (h:Sl KE 3 d v l) (hi:cM d w):rW w v l.length (l.flatMap Ah):=by
 obtain ⟨css,c1,c2,c3,c4⟩:=h.lie (by decide)
 have e:css=l.map Ah:=by
  refine List.ext_getElem? fun i => ?_
  rw [bw]
  rcases aH i l.length with hi | hi
  ·have a:=aD hi
   have b:=aD (show i < css.length by omega)
   rw [a,b,(c3 i _ _ a b).1]
   rfl
  ·rw [List.getElem?_eq_none hi,List.getElem?_eq_none (by omega)]
   rfl
 have:=c4 w hi
 rw [e] at this
 rwa [List.flatMap_def]
theorem OwnC.slg {α:Type} {ce:α→List Value} {sz:Nat} {el:TypeId} {w d:World} {v:Value} {l:List α} {R:gR α} (h:OwnC ce sz el w v l) (hR:∀ x ∈ l,R d (ce x) x) (hd:∀ g,v.ownBlock=some g→∀ o u,w.cell? ⟨g,o,none⟩=some u→d.cell? ⟨g,o,none⟩=some u):Sl R sz d v l:=by
 rcases cg h.own with ⟨rfl,h0,_⟩ | ⟨g,cap,rfl,hc,_⟩
 ·exact ⟨rfl,ak.1 h0⟩
 ·refine ⟨fun _=>rfl,rfl,hc,fun i x hx=>⟨ce x,h.sz x,fun j u hu => ?_,hR x (aO hx)⟩⟩
  have:=h.cell hx hu
  rw [show 0+i * sz+j=i * sz+j by omega]
  exact hd g rfl _ _ this
theorem yM {l:List Sp} {s e:Bytes} {j:Nat} {x:Sp} (h:l[j]? = some x):cn (l.take (j+1)) s e=cn (l.take j) s e++if ¬ s < x.s∧¬ x.e < e then x.ks else []:=by
 rw [bz h]
 unfold cn
 rw [ay]
 simp
theorem lD {l:List Sp} {s e:Bytes} {m:Nat} (h:∀ x ∈ l,x.ks.length≤m):(cn l s e).length≤l.length * m:=by
 unfold cn
 induction l with
 | nil=>simp
 | cons x l ih =>
  have h1:=h x aK
  have h2:=ih fun y hy=>h y (aW _ hy)
  rw [ae,aE,aZ,Nat.add_mul]
  have:(if ¬ s < x.s∧¬ x.e < e then x.ks else []).length≤m:=by
   split
   ·exact h1
   ·exact aT _
  omega
theorem zo {l:List Sp} {s e:Bytes} {x:K} (h:x ∈ cn l s e):∃ y ∈ l,x ∈ y.ks:=by
 unfold cn at h
 obtain ⟨y,hy,hx⟩:=cu.1 h
 split at hx
 ·exact ⟨y,hy,hx⟩
 ·simp at hx
def KV (l:List K):Prop:=∀ x ∈ l,x.tr < 18446744073709551616
theorem Ef {d:World} {v:Value} {l:List K} (h:Sl KE 3 d v l):KV l:=fun x hx=>by
 obtain ⟨i,hi,rfl⟩:=bB hx
 obtain ⟨_,_,_,_,_,hat⟩:=h.at (by omega)
 obtain ⟨_,_,_,h⟩:=hat i _ (aD hi)
 exact h.2
theorem F9 {d:World} {v:Value} {l:List Sp} (h:Sl dh 3 d v l):∀ y ∈ l,KV y.ks:=fun y hy=>by
 obtain ⟨i,hi,rfl⟩:=bB hy
 obtain ⟨_,_,_,_,_,hat⟩:=h.at (by omega)
 obtain ⟨_,_,_,v,_,h⟩:=hat i _ (aD hi)
 exact Ef h
theorem OwnC.ke {w:World} {v:Value} {l:List K} (h:OwnC Ah 3 53 w v l) (ht:KV l):Sl KE 3 w v l:=h.sl fun x hx=>⟨rfl,ht x hx⟩
end Go.E
namespace Go.Proofs
open Go Go.E Go.Sort Go.Proofs.Tryz
section
variable {k:aq} {d w:World}
set_option maxHeartbeats 1000000 in
theorem CJ {v:Value} {l:List Sp} (hv:Sl dh 3 d v l) (hl:l.length≤1000) (hks:∀ x ∈ l,x.ks.length≤40) (hinc:cM d w) (hk:∀ d2 w2 v2,Gr d w d2 w2→Sl dh 3 d2 v2 (df l)→k v2 w2):ai prog 18 #[v] k w:=by
 have htr:=F9 hv
 obtain ⟨ka,kc,rfl⟩:=hv.form
 refine al [.tmp 2] func18 ?_
 refine bA ?_
 refine zn (hv.inc dh.mono hinc) (by omega) fun vb w0 x0 ob nb => ?_
 obtain ⟨ba,bc,rfl,_⟩:=ob.form
 obtain ⟨b,hb⟩:∃ b,b=cN l:=⟨_,rfl⟩
 have hbl:=gE l
 rw [← hb] at ob hbl ⊢
 refine bA ?_
 refine bZ (fun c:Nat × Value=>[(0,.slice ka l.length kc),(3,c.2),(4,.slice ba b.length bc),(5,.int .i64 ((c.1+1:Nat):Int))])
  (fun c w'=>∃ d1,LoopL dh 3 30 d w d1 w' c.2 ((List.range c.1).flatMap (fy l b))∧bp w0 w'∧(c.1=0∨c.1 < b.length)∧∀ g,c.2.ownBlock=some g→w0.heap.size≤g) (fun c _=>b.length - c.1) (0,.slice none 0 0) (by kernel_rfl) ?_ ⟨d,(LoopL.nil hinc).ext dh.mono x0,bp.refl _,.inl rfl,by simp [Value.ownBlock]⟩ ?_
 ·exact bU
 rintro K2 e ⟨i,vo⟩ w1 ⟨d1,i1,i2,i3,i4⟩ hK2
 simp only at i1 i3 i4
 rcases aH (i+1) b.length with hi | hi
 rotate_left
 ·have hi':¬ ((i+1:Nat):Int) < b.length:=by omega
  refine bu @hi' ?_
  have hr:df l=(List.range i).flatMap (fy l b):=by
   unfold df
   rw [← hb,show b.length - 1=i by omega]
  obtain ⟨d2,g2,_,_,s2⟩:=i1.done dh.mono
  exact hk d2 w1 vo g2 (by rw [hr]; exact s2)
 have hi':((i+1:Nat):Int) < b.length:=by omega
 obtain ⟨bg,bc',hbv,hbg⟩:=ob.block (show i < b.length by omega)
 have hbg:=aL hbg i2.size
 obtain ⟨rfl,rfl⟩:ba=some ⟨bg,0,none⟩∧bc=bc':=by simpa using hbv
 have ob1:=ob.ext i2
 have e1:((i+1:Nat):Int) - 1=(i:Nat):=by omega
 have bx:b[i]? = some b[i]! := by rw [aI b i (by omega)]; exact aD _
 have by_:b[i+1]? = some b[i+1]! := by rw [aI b (i+1) hi]; exact aD _
 have p0:=ob1.cell bx (j:=0) rfl
 have p1:=ob1.cell by_ (j:=0) rfl
 simp only [str,Nat.add_zero] at p0 p1
 obtain ⟨s,hs⟩:∃ s,s=b[i]! := ⟨_,rfl⟩
 obtain ⟨t,ht⟩:∃ t,t=b[i+1]! := ⟨_,rfl⟩
 rw [← hs] at p0
 rw [← ht] at p1
 refine bu @hi' ?_
 refine bF (sq [0,1,2,3] (.read 4 (sq [5,6,7] (.read 8 (sq [9] (.eff 10 [4,8] (.eff 11 [] .done))))))) ?_
 refine dQ @e1 @p0 @p1 ?_
 obtain ⟨S,hS⟩:∃ S,S=w1.heap.size:=⟨_,rfl⟩
 obtain ⟨w2,hw2⟩:∃ w2,w2=(w1.alloc (.cells #[.string ⟨s.toArray⟩,.string ⟨t.toArray⟩,.slice none 0 0] 30)).drew:=⟨_,rfl⟩
 have x2:bp w1 w2:=by rw [hw2]; exact bp.drew' (aJ _)
 have z2:w2.heap.size=S+1:=by rw [hw2,World.size_drew,World.size_alloc,hS]
 have c0:w2.cell? ⟨S,0,none⟩=some (.string ⟨s.toArray⟩):=by rw [hw2,hS]; exact bX @aA
 have c1:w2.cell? ⟨S,1,none⟩=some (.string ⟨t.toArray⟩):=by rw [hw2,hS]; exact bX @aA
 have c2:w2.cell? ⟨S,2,none⟩=some (.slice none 0 0):=by rw [hw2,hS]; exact bX @aA
 have f2:∀ y,w2.frozen? ⟨S,y,none⟩=false:=fun y=>by rw [hw2,hS]; simp (disch:=first | exact dZ | fail) only [go_sem]
 rw [← hw2,← hS]
 refine jf (fun _:Unit=>[(0,.slice ka l.length kc),(3,vo),(4,.slice (some ⟨bg,0,none⟩) b.length bc),(5,.int .i64 ((i+1:Nat):Int)),(6,.pointer (some ⟨S,0,none⟩))])
  (fun _ w'=>bp w1 w'∧w'.cell? ⟨S,0,none⟩=some (.string ⟨s.toArray⟩)∧w'.cell? ⟨S,1,none⟩=some (.string ⟨t.toArray⟩)∧(∀ y,w'.frozen? ⟨S,y,none⟩=false)∧∃ v,w'.cell? ⟨S,2,none⟩=some v∧OwnC Ah 3 53 w' v (cn l s t)∧∀ g,v.ownBlock=some g→S < g) (by kernel_rfl) (fun K hK => ?_) ?_
 ·refine bZ (fun j:Nat=>[(0,.slice ka l.length kc),(3,vo),(4,.slice (some ⟨bg,0,none⟩) b.length bc),(5,.int .i64 ((i+1:Nat):Int)),(6,.pointer (some ⟨S,0,none⟩)),(27,.slice ka l.length kc),(28,.int .i64 l.length),(29,.int .i64 j)])
    (fun j w'=>j≤l.length∧bp w1 w'∧w'.cell? ⟨S,0,none⟩=some (.string ⟨s.toArray⟩)∧w'.cell? ⟨S,1,none⟩=some (.string ⟨t.toArray⟩)∧(∀ y,w'.frozen? ⟨S,y,none⟩=false)∧∃ v,w'.cell? ⟨S,2,none⟩=some v∧OwnC Ah 3 53 w' v (cn (l.take j) s t)∧∀ g,v.ownBlock=some g→S < g) (fun j _=>l.length - j) 0 (by kernel_rfl) ?_ ⟨aT _,x2,c0,c1,f2,_,c2,OwnC.nil vz,by simp [Value.ownBlock]⟩ ?_
  ·exact bU
  rintro K3 e3 j w3 ⟨j1,j2,j3,j4,j5,v,j6,j7,j8⟩ hK3
  rcases aH j l.length with hj | hj
  rotate_left
  ·have hj':¬ (j:Int) < l.length:=by omega
   refine bu @hj' ?_
   obtain rfl:j=l.length:=by omega
   rw [ag] at j7
   refine hK _ _ () ?_ ⟨j2,j3,j4,j5,v,j6,j7,j8⟩
   exact bU
  have hj':(j:Int) < l.length:=by omega
  obtain ⟨g,f,c,hv',hc,hat⟩:=hv.at (by omega)
  obtain ⟨rfl,rfl⟩:=sEq hv'
  obtain ⟨x,hx⟩:=gEl hj
  have hxm:=aO hx
  obtain ⟨h0,h1,a,cc,h2,hkx⟩:=fN (hat j x hx)
  have hd3:cM d w3:=(i1.g.i.trans i1.g.j).trans j2.inc
  have h0:=hd3 _ _ _ h0
  have h1:=hd3 _ _ _ h1
  have h2:=hd3 _ _ _ h2
  have hSl:=aC j6
  obtain ⟨C,hC⟩:∃ C,C=w3.heap.size:=⟨_,rfl⟩
  have more:=yM (s:=s) (e:=t) hx
  by_cases q1:s < x.s
  ·rw [if_neg (fun h=>h.1 q1),ao] at more
   refine AE @hj' @h0 @h1 @h2 @aA @j3 @j4 @q1 @not_true_eq_false ?_
   have x4:=aJ (w:=w3) (.cells #[.string ⟨x.s.toArray⟩,.string ⟨x.e.toArray⟩,.slice a x.ks.length cc] 30)
   refine hK3 _ _ (j+1) ?_ ⟨hj,j2.trans x4,x4.cell j3,x4.cell j4,fun y=>by rw [x4.frozen S y hSl]; exact j5 y,v,x4.cell j6,by rw [more]; exact j7.ext x4,j8⟩ (by omega)
   exact bU
  by_cases q2:x.e < t
  ·rw [if_neg (fun h=>h.2 q2),ao] at more
   refine FW @hj' @h0 @h1 @h2 @aA @j3 @j4 @q1 @q2 @not_true_eq_false @not_false_eq_true ?_
   have x4:=aJ (w:=w3) (.cells #[.string ⟨x.s.toArray⟩,.string ⟨x.e.toArray⟩,.slice a x.ks.length cc] 30)
   refine hK3 _ _ (j+1) ?_ ⟨hj,j2.trans x4,x4.cell j3,x4.cell j4,fun y=>by rw [x4.frozen S y hSl]; exact j5 y,v,x4.cell j6,by rw [more]; exact j7.ext x4,j8⟩ (by omega)
   exact bU
  rw [if_pos ⟨q1,q2⟩] at more
  have x4:=aJ (w:=w3) (.cells #[.string ⟨x.s.toArray⟩,.string ⟨x.e.toArray⟩,.slice a x.ks.length cc] 30)
  obtain ⟨va,vc,rfl,_⟩:=j7.form
  refine FW @hj' @h0 @h1 @h2 @aA @j3 @j4 @j6 @q1 @q2 @not_false_eq_true ?_
  have hcl:=lD (l:=l.take j) (s:=s) (e:=t) (m:=40) fun y hy=>hks y (List.mem_of_mem_take hy)
  rw [dV j1] at hcl
  have hxl:=hks x hxm
  have hjm:j * 40≤1000 * 40:=bO _ (by omega)
  refine Jn (m:=x.ks) rw28 (j7.ext x4) (F8 hkx (hd3.trans x4.inc)) (fun y _=>wA y) (by omega) fun v5 w5 o5 k5 n5 => ?_
  have j8':∀ g,v5.ownBlock=some g→S < g:=fun g hg=>by
   rcases n5 g hg with h | h
   ·exact j8 g h
   ·rw [World.size_alloc] at h; omega
  have nS:(Value.slice va (cn (l.take j) s t).length vc).ownBlock≠some S:=fun h=>by have:=j8 S h; omega
  have c6:=k5.some (x4.cell j6) fun h=>nS h
  have f6:∀ y,w5.frozen? ⟨S,y,none⟩=false:=fun y=>by rw [k5.frozen S y (aL hSl x4.size),x4.frozen S y hSl]; exact j5 y
  obtain ⟨va5,vc5,rfl,_⟩:=o5.form
  refine dO @c6 @f6 ?_
  have k6:Keep (fun b y=>b=S∧y=2) w5 (w5.setCell ⟨S,2,none⟩ (.slice va5 (cn (l.take j) s t++x.ks).length vc5)):=bY ⟨rfl,rfl⟩
  refine hK3 _ _ (j+1) ?_ ⟨hj,?_,k6.some (k5.some (x4.cell j3) fun h=>nS h) (by omega),k6.some (k5.some (x4.cell j4) fun h=>nS h) (by omega),fun y=>by rw [World.frozen?_setCell]; exact f6 y,_,by rw [cJ,c6]; rfl,?_,j8'⟩ (by omega)
  ·exact bU
  ·exact aj ((j2.trans x4).tr k5 fun b o hb h=>by have:=j8 b h; omega) (by omega)
  ·rw [more]
   exact o5.keep k6 fun g hg o h=>by have:=j8' g hg; omega
 rintro e _ w3 ⟨j2,j3,j4,j5,v,j6,j7,j8⟩
 obtain ⟨va,vc,rfl,_⟩:=j7.form
 have hSl:=aC j6
 have hfl:(List.range (i+1)).flatMap (fy l b)=(List.range i).flatMap (fy l b)++fy l b i:=by rw [List.range_succ,ay]; simp
 have hfa:fy l b i=if cn l s t=[] then [] else [⟨s,t,dy (cn l s t)⟩]:=by rw [hs,ht]; rfl
 by_cases hce:cn l s t=[]
 ·have hz:¬ (0:Int) < (cn l s t).length:=by rw [hce]; simp
  refine dO @j6 @hz ?_
  refine hK2 _ _ (i+1,vo) ?_ ⟨d1,?_,i2.trans j2,by omega,i4⟩ (by simp only; omega)
  ·exact bU
  ·simp only
   rw [hfl,hfa,if_pos hce,ao]
   exact i1.ext dh.mono j2
 have hz:(0:Int) < (cn l s t).length:=by have:=List.length_pos_iff.2 hce; omega
 have hct:KV (cn l s t):=fun y hy=>by obtain ⟨z,hz,hy⟩:=zo hy; exact htr z hz y hy
 have hcl:=lD (l:=l) (s:=s) (e:=t) hks
 have hlm:l.length * 40≤1000 * 40:=bO _ hl
 refine dO @j6 @hz ?_
 refine CI (j7.ke hct) (by omega) fun v' w4 x4 o4 n4 => ?_
 have c0:=x4.cell j3
 have c1:=x4.cell j4
 have c2:=x4.cell j6
 have f4:∀ y,w4.frozen? ⟨S,y,none⟩=false:=fun y=>by rw [x4.frozen S y hSl]; exact j5 y
 obtain ⟨va',vc',rfl,_⟩:=o4.form
 obtain ⟨vo1,vo2,rfl,_⟩:=i1.form
 refine eO @c0 @c1 @c2 @f4 ?_
 obtain ⟨w5,hw5⟩:∃ w5,w5=w4.setCell ⟨S,2,none⟩ (.slice va' (dy (cn l s t)).length vc'):=⟨_,rfl⟩
 rw [← hw5]
 have k5:Keep (fun b y=>b=S∧y=2) w4 w5:=by rw [hw5]; exact bY ⟨rfl,rfl⟩
 have x5:bp w1 w5:=by rw [hw5]; exact aj (j2.trans x4) (by omega)
 have o5:=o4.keep k5 fun g hg o h=>by have:=n4 g hg; omega
 obtain ⟨d2,g2,e2⟩:=oq i1.g.j x5
 have i5:=i1.call dh.mono g2
 obtain ⟨css,oo⟩:=i5.o
 have hsl:Sl KE 3 d2 (.slice va' (dy (cn l s t)).length vc') (dy (cn l s t)):=o5.slg (fun x hx=>⟨rfl,hct x ((eh _).mem_iff.1 hx)⟩) fun g hg o u hu=>e2 _ _ _ (by have:=n4 g hg; omega) hu
 have hfll:((List.range i).flatMap (fy l b)).length≤i:=by
  have:∀ m,((List.range m).flatMap (fy l b)).length≤m:=fun m=>by
   induction m with
   | zero=>simp
   | succ m ih =>
    rw [List.range_succ,ay,aE]
    have:(fy l b m).length≤1:=by unfold fy; split <;> simp
    simp only [ae,List.flatMap_nil,ao]
    omega
  exact this i
 refine iL (⟨s,t,dy (cn l s t)⟩:Sp) [.string ⟨s.toArray⟩,.string ⟨t.toArray⟩,.slice va' (dy (cn l s t)).length vc'] rw22 oo ⟨_,rfl,hsl⟩ rfl (.inl rfl) (by rw [hw5,World.size_setCell]) rfl (by simp [Value.oneCell']) (by omega) i5.g.j fun v2 w2' oo2 k2 n2 jj2 _ => ?_
 refine bA ?_
 refine hK2 _ _ (i+1,v2) ?_ ⟨d2,?_,(i2.trans x5).tr k2 fun b o _ h => ?_,by omega,fun g hg => ?_⟩ (by simp only; omega)
 ·exact bU
 ·simp only
  rw [hfl,hfa,if_neg hce]
  exact i5.more oo2 k2 n2 jj2
 ·have:=i4 b h; omega
 ·rcases n2 g hg with h | h
  ·exact i4 g h
  ·have:=(i2.trans x5).size; omega
end
end Go.Proofs
end
