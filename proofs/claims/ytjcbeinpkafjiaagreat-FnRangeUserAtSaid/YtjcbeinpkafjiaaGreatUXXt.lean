/- Parts of the proof: Xt. -/
import Derived.Test.YtjcbeinpkafjiaaGreatU27
import Derived.Test.YtjcbeinpkafjiaaGreatUXVj
import Derived.Test.YtjcbeinpkafjiaaGreatUXXk
set_option linter.all false
set_option maxRecDepth 10000
namespace Go.E
open Go Go.Sort Go.Proofs Go.Proofs.Tryz
theorem ptK_more {l:List Sp} {key:Bytes} {i:Nat} {x:Sp} (h:l[i]? = some x):ptK (l.take (i+1)) key=ptK (l.take i) key++if hasK key x then x.ks else []:=by
 rw [take_more h,ptK_append]
 unfold ptK
 simp
theorem ptK_len {l:List Sp} {key:Bytes} {m:Nat} (h:∀ x ∈ l,x.ks.length≤m):(ptK l key).length≤l.length * m:=by
 induction l with
 | nil=>simp [ptK]
 | cons x l ih =>
  have h1:=h x List.mem_cons_self
  have h2:=ih fun y hy=>h y (List.mem_cons_of_mem _ hy)
  have e:ptK (x :: l) key=(if hasK key x then x.ks else [])++ptK l key:=by unfold ptK; rw [List.flatMap_cons]
  rw [e,List.length_append,List.length_cons,Nat.add_mul]
  split
  ·omega
  ·rw [List.length_nil]; omega
end Go.E
namespace Go.Proofs
open Go Go.E Go.Sort Go.Proofs.Tryz
section
variable {k:Kont} {d w:World}
theorem spanAt_run {v:Value} {l:List Sp} {key:Bytes} (hv:Sl SpE 3 w v l) (hl:l.length≤1000) (hks:∀ x ∈ l,x.ks.length≤40) (hk:∀ v2 w2,Ext w w2→OwnC kce 3 88 w2 v2 (canonP (ptK l key))→(∀ g,v2.ownBlock=some g→w.heap.size≤g)→k v2 w2):callK prog 24 #[v,.string ⟨key.toArray⟩] k w:=by
 have htr:=sl_sktr hv
 obtain ⟨ka,kc,rfl⟩:=hv.form
 refine callZ [.tmp 4] func24 ?_
 refine goZ ?_
 refine loopC (fun c:Nat × Value=>[(1,.string ⟨key.toArray⟩),(5,c.2),(8,.slice ka l.length kc),(9,.int .i64 l.length),(10,.int .i64 c.1)])
  (fun c w'=>c.1≤l.length∧Ext w w'∧OwnC kce 3 88 w' c.2 (ptK (l.take c.1) key)∧∀ g,c.2.ownBlock=some g→w.heap.size≤g) (fun c _=>l.length - c.1) (0,.slice none 0 0) (by kernel_rfl) ?_ ⟨Nat.zero_le _,Ext.refl _,OwnC.nil kce_len,by simp [Value.ownBlock]⟩ ?_
 ·exact agZ
 rintro K2 e ⟨i,vo⟩ w1 ⟨i2,i3,i4,i5⟩ hK2
 simp only at i2 i4 i5
 have hlen:=ptK_len (key:=key) (m:=40) fun y hy=>hks y (List.mem_of_mem_take (i:=i) hy)
 rw [take_len i2] at hlen
 have h40:i * 40≤1000 * 40:=Nat.mul_le_mul_right _ (by omega)
 rcases Nat.lt_or_ge i l.length with hi | hi
 rotate_left
 ·have hi':¬ (i:Int) < l.length:=by omega
  obtain rfl:i=l.length:=by omega
  rw [List.take_length] at i4 hlen
  have ht:KTr (ptK l key):=fun y hy=>by
   unfold ptK at hy
   obtain ⟨x,hx,hy⟩:=List.mem_flatMap.1 hy
   split at hy
   ·exact htr x hx y hy
   ·simp at hy
  obtain ⟨va,vc,rfl,_⟩:=i4.form
  refine gY1 @hi' ?_
  refine canon_run (i4.ke ht) (by omega) fun v2 w2 x2 o2 n2 => ?_
  refine goZ ?_
  exact hk _ _ (i3.trans x2) o2 fun g hg=>Nat.le_trans i3.size (n2 g hg)
 have hi':(i:Int) < l.length:=by omega
 obtain ⟨g,f,c,hv',hc,hat⟩:=(hv.inc SpE.mono i3.inc).at (by omega)
 obtain ⟨rfl,rfl⟩:ka=some ⟨g,f,none⟩∧kc=c:=by simpa using hv'
 obtain ⟨x,hx⟩:∃ x,l[i]? = some x:=⟨_,List.getElem?_eq_getElem hi⟩
 have hxm:=List.mem_of_getElem? hx
 obtain ⟨h0,h1,a,cc,h2,hkx⟩:=cells_spe (hat i x hx)
 obtain ⟨T,hT⟩:∃ T,T=w1.heap.size:=⟨_,rfl⟩
 obtain ⟨w2,hw2⟩:∃ w2,w2=w1.alloc (.cells #[.string ⟨x.s.toArray⟩,.string ⟨x.e.toArray⟩,.slice a x.ks.length cc] 46):=⟨_,rfl⟩
 have x2:Ext w1 w2:=by rw [hw2]; exact ext_alloc _
 have a0:w2.cell? ⟨T,0,none⟩=some (.string ⟨x.s.toArray⟩):=by rw [hw2,hT]; exact eY1 @cell_newN
 have a1:w2.cell? ⟨T,1,none⟩=some (.string ⟨x.e.toArray⟩):=by rw [hw2,hT]; exact eY1 @cell_newN
 have a2:w2.cell? ⟨T,2,none⟩=some (.slice a x.ks.length cc):=by rw [hw2,hT]; exact eY1 @cell_newN
 have more:=ptK_more (key:=key) hx
 refine gY5 @hi' @h0 @h1 @h2 @cell_newN ?_
 rw [← hw2,← hT]
 refine contains_run ⟨_,_,_,rfl⟩ fun w3 x3 => ?_
 have x13:=x2.trans x3
 have a2:=x3.cell a2
 cases hc:hasK key x with
 | false =>
  rw [hc,if_neg (by decide),List.append_nil] at more
  refine goZ ?_
  refine hK2 _ _ (i+1,vo) ?_ ⟨hi,i3.trans x13,by simp only; rw [more]; exact i4.ext x13,i5⟩ (by simp only; omega)
  exact agZ
 | true =>
  rw [hc,if_pos rfl] at more
  obtain ⟨va,vc,rfl,_⟩:=i4.form
  refine gY1 @a2 ?_
  have hxl:=hks x hxm
  refine appC (m:=x.ks) rw44 (i4.ext x13) (lies_ke hkx x13.inc) (fun y _=>kce_one y) (by omega) fun v5 w5 o5 k5 n5 => ?_
  obtain ⟨va5,vc5,rfl,_⟩:=o5.form
  refine goZ ?_
  have hx5:Ext w w5:=(i3.trans x13).tr k5 fun b o hb h=>by have:=i5 b h; omega
  refine hK2 _ _ (i+1,_) ?_ ⟨hi,hx5,by simp only; rw [more]; exact o5,fun g hg => ?_⟩ (by simp only; omega)
  ·exact agZ
  ·rcases n5 g hg with h | h
   ·exact i5 g h
   ·have:=(i3.trans x13).size; omega
theorem ofKeys_run {v:Value} {l:List K} (hv:Sl KE 3 d v l) (hl:l.length≤100000) (hinc:Inc d w) (hk:∀ d' w' v',Gr d w d' w'→Sl KE 3 d' v' l→k v' w'):callK prog 44 #[v] k w:=by
 obtain ⟨ka,kc,rfl⟩:=hv.form
 refine callZ [.tmp 2] func44 ?_
 refine goZ ?_
 refine loopC (fun b:Nat × Value=>[(3,b.2),(6,.slice ka l.length kc),(7,.int .i64 l.length),(8,.int .i64 b.1)])
  (fun b w'=>b.1≤l.length∧∃ d1,LoopL KE 3 88 d w d1 w' b.2 (l.take b.1)) (fun b _=>l.length - b.1) (0,.slice none 0 0) (by kernel_rfl) ?_ ⟨Nat.zero_le _,d,LoopL.nil hinc⟩ ?_
 ·exact agZ
 rintro K2 e ⟨i,v⟩ w1 ⟨i2,d1,i3⟩ hK2
 simp only at i2 i3
 rcases Nat.lt_or_ge i l.length with hi | hi
 rotate_left
 ·have hi':¬ (i:Int) < l.length:=by omega
  refine gY1 @hi' ?_
  obtain rfl:i=l.length:=by omega
  rw [List.take_length] at i3
  obtain ⟨d2,g2,_,_,s2⟩:=i3.done KE.mono
  exact hk d2 w1 v g2 s2
 have hi':(i:Int) < l.length:=by omega
 obtain ⟨g,f,c,hv',hc,hat⟩:=(hv.inc KE.mono i3.g.i).at (by omega)
 obtain ⟨rfl,rfl⟩:ka=some ⟨g,f,none⟩∧kc=c:=by simpa using hv'
 obtain ⟨x,hx⟩:∃ x,l[i]? = some x:=⟨_,List.getElem?_eq_getElem hi⟩
 obtain ⟨cs,_,hcs,hR⟩:=hat i x hx
 have hmem:=List.mem_of_getElem? hx
 obtain ⟨rfl,htr⟩:=hR
 have h0:w1.cell? ⟨g,f+i * 3,none⟩=some (.int .u64 x.tr):=i3.g.j _ _ _ (hcs 0 _ rfl)
 have h1:w1.cell? ⟨g,f+i * 3+1,none⟩=some (.string ⟨x.suf.toArray⟩):=i3.g.j _ _ _ (hcs 1 _ rfl)
 have h2:w1.cell? ⟨g,f+i * 3+2,none⟩=some (.string ⟨x.val.toArray⟩):=i3.g.j _ _ _ (hcs 2 _ rfl)
 obtain ⟨va,vcap,rfl,_⟩:=i3.form
 have i4:=i3.ext KE.mono (ext_alloc (.cells #[.int .u64 x.tr,.string ⟨x.suf.toArray⟩,.string ⟨x.val.toArray⟩] 62))
 obtain ⟨css,o4⟩:=i4.o
 refine gY5 @hi' @h0 @h1 @h2 @cell_newN ?_
 refine appN x [.int .u64 x.tr,.string ⟨x.suf.toArray⟩,.string ⟨x.val.toArray⟩] rw44 o4 ⟨rfl,htr⟩ rfl (.inl rfl) (World.size_alloc _ _).symm rfl (by simp [Value.oneCell']) (by rw [take_len i2]; omega) i4.g.j fun v2 w2 o2 k2 n2 j2 _ => ?_
 refine goZ ?_
 refine hK2 _ _ (i+1,v2) ?_ ⟨hi,d1,?_⟩ (by simp only; omega)
 ·exact agZ
 ·rw [take_more hx]
  exact i4.more o2 k2 n2 j2
theorem ofSpan_run {kv:Value} {x:Sp} (hv:Sl KE 3 d kv x.ks) (hl:x.ks.length≤100000) (hinc:Inc d w) (hk:∀ d' w' v',Gr d w d' w'→Sl KE 3 d' v' x.ks→k (.agg #[.string ⟨x.s.toArray⟩,.string ⟨x.e.toArray⟩,v']) w') :
    callK prog 28 #[.agg #[.string ⟨x.s.toArray⟩,.string ⟨x.e.toArray⟩,kv]] k w:=by
 obtain ⟨ka,kc,rfl⟩:=hv.form
 refine callZ [.cell 2 46] func28 ?_
 refine goZ ?_
 refine drawZ (sq [0] (.read 1 (sq [2] (.read 3 (sq [4] (.read 5 (.eff 6 [1,3] (sq [7] (.eff 8 [] .done))))))))) ?_
 obtain ⟨A,hA⟩:∃ A,A=w.heap.size:=⟨_,rfl⟩
 obtain ⟨W,hW⟩:∃ W,W=((w.alloc (.cells #[.string ⟨x.s.toArray⟩,.string ⟨x.e.toArray⟩,.slice ka x.ks.length kc] 56)).alloc (.cells #[.string ByteArray.empty,.string ByteArray.empty,.slice none 0 0] 46)).drew:=⟨_,rfl⟩
 have xW:Ext w W:=by rw [hW]; exact Ext.drew' ((ext_alloc _).trans (ext_alloc _))
 have a0:W.cell? ⟨A,0,none⟩=some (.string ⟨x.s.toArray⟩):=by rw [hW,hA]; exact eY1 @cell_newN
 have a1:W.cell? ⟨A,1,none⟩=some (.string ⟨x.e.toArray⟩):=by rw [hW,hA]; exact eY1 @cell_newN
 have b0:W.cell? ⟨A+1,0,none⟩=some (.string ByteArray.empty):=by rw [hW,hA]; exact eY1 @cell_newN
 have b1:W.cell? ⟨A+1,1,none⟩=some (.string ByteArray.empty):=by rw [hW,hA]; exact eY1 @cell_newN
 have b2:W.cell? ⟨A+1,2,none⟩=some (.slice none 0 0):=by rw [hW,hA]; exact eY1 @cell_newN
 have fz:∀ y,W.frozen? ⟨A+1,y,none⟩=false:=fun y=>by rw [hW,hA]; exact eY1 @frozen_newN
 have zW:W.heap.size=A+2:=by rw [hW,hA]; simp only [World.size_drew,World.size_alloc]
 refine gY1 @cell_newN ?_
 rw [← hA,← hW]
 refine ofKeys_run hv hl (hinc.trans xW.inc) fun d1 w1 v1 g1 s1 => ?_
 obtain ⟨va,vc,rfl⟩:=s1.form
 have a0:=g1.x.cell a0
 have a1:=g1.x.cell a1
 have b0:=g1.x.cell b0
 have b1:=g1.x.cell b1
 have b2:=g1.x.cell b2
 have fz:∀ y,w1.frozen? ⟨A+1,y,none⟩=false:=fun y=>by rw [g1.x.frozen _ y (by omega)]; exact fz y
 have hoA:Out d (A+1):=hinc.out (by omega)
 refine gY6 @a0 @a1 @b0 @b1 @b2 @fz ?_
 have kk:=(((Keep.refl (M:=fun b _=>b=A+1) w1).set (b:=A+1) (o:=0) (v := .string ⟨x.s.toArray⟩) fun _=>rfl).set (b:=A+1) (o:=1) (v := .string ⟨x.e.toArray⟩) fun _=>rfl).set (b:=A+1) (o:=2) (v := .slice va x.ks.length vc) fun _=>rfl
 exact hk _ _ _ (((Gr.ext hinc xW).trans g1).mut kk fun b o h=>by
  subst h
  exact ⟨by omega,g1.o _ (by omega) hoA⟩) s1
end
end Go.Proofs
