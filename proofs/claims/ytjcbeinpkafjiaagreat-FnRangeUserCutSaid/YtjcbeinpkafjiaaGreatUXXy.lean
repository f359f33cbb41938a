/- Parts of the proof: Xy. -/
import Derived.Test.YtjcbeinpkafjiaaGreatU27
import Derived.Test.YtjcbeinpkafjiaaGreatUXVj
set_option linter.all false
set_option maxRecDepth 10000
namespace Go.E
open Go Go.Sort Go.Proofs Go.Proofs.Tryz
theorem LoopL.one {α:Type} {R:Elem α} {sz:Nat} {el:TypeId} {d w:World} {x:α} {cs:List Value} (h:Inc d w) (hR:R d cs x) (hs:cs.length=sz) :
    LoopL R sz el d w d (w.alloc (.cells cs.toArray el)) (.slice (some ⟨w.heap.size,0,none⟩) 1 1) [x]:=by
 refine ⟨Gr.ext h (ext_alloc _),⟨[cs],rfl,⟨by simp [hs],.inr ⟨w.heap.size,1,cs.toArray,rfl,Nat.zero_le _,(show (w.heap.push _)[w.heap.size]? = _ from Array.getElem?_push_size),Nat.le_refl _,by decide,by simp [hs],by simp [← hs]⟩⟩,fun c hc=>by rw [List.mem_singleton.1 hc]; exact hs,fun i y c hy hc => ?_,fun g hg => ?_⟩,fun b hb => ?_⟩
 ·rcases i with _ | i
  ·obtain rfl:=Option.some.inj hy
   obtain rfl:=Option.some.inj hc
   exact hR
  ·simp at hy
 ·obtain rfl:=Option.some.inj hg
  exact h.out (Nat.le_refl _)
 ·obtain rfl:=Option.some.inj hb
  exact Nat.le_refl _
end Go.E
namespace Go.Proofs
open Go Go.E Go.Sort Go.Proofs.Tryz
section
variable {k:Kont} {d w:World}
theorem spanForth_run {n:Nat} (hn:n≤1000) (hinc:Inc d w) (hk:∀ d' w' v,Gr d w d' w'→Sl StE 2 d' v (stF n)→k v w'):callK prog 36 #[.int .i64 n] k w:=by
 refine callZ [.tmp 2] func36 ?_
 refine goZ ?_
 have i0:LoopL StE 2 53 d w d (w.alloc (.cells #[.int .u8 0,.string ByteArray.empty] 53)) (.slice (some ⟨w.heap.size,0,none⟩) 1 1) [(0,[])]:=LoopL.one (cs:=[.int .u8 0,str []]) hinc ⟨rfl,by decide⟩ rfl
 refine loopC (fun b:Nat × Value=>[(3,b.2),(6,.int .i64 n),(7,.int .i64 b.1)])
  (fun b w'=>b.1≤n∧∃ d1,LoopL StE 2 53 d w d1 w' b.2 ((0,[]) :: List.replicate b.1 (2,[]))) (fun b _=>n - b.1) (0,.slice (some ⟨w.heap.size,0,none⟩) 1 1) (by kernel_rfl) ?_ ⟨Nat.zero_le _,d,i0⟩ ?_
 ·exact agZ
 rintro K2 e ⟨i,v⟩ w1 ⟨i2,d1,i3⟩ hK2
 simp only at i2 i3
 rcases Nat.lt_or_ge i n with hi | hi
 rotate_left
 ·have hi':¬ (i:Int) < n:=by omega
  refine gY1 @hi' ?_
  obtain rfl:i=n:=by omega
  obtain ⟨d2,g2,_,_,s2⟩:=i3.done StE.mono
  exact hk d2 w1 v g2 s2
 have hi':(i:Int) < n:=by omega
 obtain ⟨css,o3⟩:=i3.o
 obtain ⟨va,vcap,rfl,_⟩:=i3.form
 refine gY1 @hi' ?_
 refine appN ((2,[]):Nat × Bytes) [.int .u8 2,str []] rw38 o3 ⟨rfl,by decide⟩ rfl (.inl rfl) rfl rfl (by simp [Value.oneCell',str]) (by rw [List.length_cons,List.length_replicate]; omega) i3.g.j fun v2 w2 o2 k2 n2 j2 _ => ?_
 refine goZ ?_
 refine hK2 _ _ (i+1,v2) ?_ ⟨hi,d1,?_⟩ (by simp only; omega)
 ·exact agZ
 ·simp only
  rw [List.replicate_succ',← List.cons_append]
  exact i3.more o2 k2 n2 j2
theorem spanBack_run {n:Nat} (hn:n≤1000) (hinc:Inc d w) (hk:∀ d' w' v,Gr d w d' w'→Sl StE 2 d' v (stB n)→k v w'):callK prog 32 #[.int .i64 n] k w:=by
 refine callZ [.tmp 2] func32 ?_
 refine goZ ?_
 have i0:LoopL StE 2 53 d w d (w.alloc (.cells #[.int .u8 1,.string ByteArray.empty] 53)) (.slice (some ⟨w.heap.size,0,none⟩) 1 1) [(1,[])]:=LoopL.one (cs:=[.int .u8 1,str []]) hinc ⟨rfl,by decide⟩ rfl
 refine loopC (fun b:Nat × Value=>[(3,b.2),(6,.int .i64 n),(7,.int .i64 b.1)])
  (fun b w'=>b.1≤n∧∃ d1,LoopL StE 2 53 d w d1 w' b.2 ((1,[]) :: List.replicate b.1 (3,[]))) (fun b _=>n - b.1) (0,.slice (some ⟨w.heap.size,0,none⟩) 1 1) (by kernel_rfl) ?_ ⟨Nat.zero_le _,d,i0⟩ ?_
 ·exact agZ
 rintro K2 e ⟨i,v⟩ w1 ⟨i2,d1,i3⟩ hK2
 simp only at i2 i3
 rcases Nat.lt_or_ge i n with hi | hi
 rotate_left
 ·have hi':¬ (i:Int) < n:=by omega
  refine gY1 @hi' ?_
  obtain rfl:i=n:=by omega
  obtain ⟨d2,g2,_,_,s2⟩:=i3.done StE.mono
  exact hk d2 w1 v g2 s2
 have hi':(i:Int) < n:=by omega
 obtain ⟨css,o3⟩:=i3.o
 obtain ⟨va,vcap,rfl,_⟩:=i3.form
 refine gY1 @hi' ?_
 refine appN ((3,[]):Nat × Bytes) [.int .u8 3,str []] rw38 o3 ⟨rfl,by decide⟩ rfl (.inl rfl) rfl rfl (by simp [Value.oneCell',str]) (by rw [List.length_cons,List.length_replicate]; omega) i3.g.j fun v2 w2 o2 k2 n2 j2 _ => ?_
 refine goZ ?_
 refine hK2 _ _ (i+1,v2) ?_ ⟨hi,d1,?_⟩ (by simp only; omega)
 ·exact agZ
 ·simp only
  rw [List.replicate_succ',← List.cons_append]
  exact i3.more o2 k2 n2 j2
theorem spanList_run {v:Value} {l:List An} (hv:Sl AnE 5 d v l) (hl:l.length≤100000) (hinc:Inc d w) (hk:∀ d' w' v',Gr d w d' w'→Sl SpE 3 d' v' (fndP l)→k v' w'):callK prog 35 #[v] k w:=by
 obtain ⟨ka,kc,rfl⟩:=hv.form
 refine callZ [.tmp 2] func35 ?_
 refine goZ ?_
 refine loopC (fun b:Nat × Value=>[(3,b.2),(6,.slice ka l.length kc),(7,.int .i64 l.length),(8,.int .i64 b.1)])
  (fun b w'=>b.1≤l.length∧∃ d1,LoopL SpE 3 56 d w d1 w' b.2 (fndP (l.take b.1))) (fun b _=>l.length - b.1) (0,.slice none 0 0) (by kernel_rfl) ?_ ⟨Nat.zero_le _,d,LoopL.nil hinc⟩ ?_
 ·exact agZ
 rintro K2 e ⟨i,v⟩ w1 ⟨i2,d1,i3⟩ hK2
 simp only at i2 i3
 rcases Nat.lt_or_ge i l.length with hi | hi
 rotate_left
 ·have hi':¬ (i:Int) < l.length:=by omega
  refine gY1 @hi' ?_
  obtain rfl:i=l.length:=by omega
  rw [List.take_length] at i3
  obtain ⟨d2,g2,_,_,s2⟩:=i3.done SpE.mono
  exact hk d2 w1 v g2 s2
 have hi':(i:Int) < l.length:=by omega
 obtain ⟨g,f,c,hv',hc,hat⟩:=(hv.inc AnE.mono i3.g.i).at (by omega)
 obtain ⟨rfl,rfl⟩:ka=some ⟨g,f,none⟩∧kc=c:=by simpa using hv'
 obtain ⟨x,hx⟩:∃ x,l[i]? = some x:=⟨_,List.getElem?_eq_getElem hi⟩
 obtain ⟨h0,h1,h2,h3,xa,xc,h4,hxk⟩:=cells_ane (hat i x hx)
 have h0:=i3.g.j _ _ _ h0
 have h1:=i3.g.j _ _ _ h1
 have h2:=i3.g.j _ _ _ h2
 have h3:=i3.g.j _ _ _ h3
 have h4:=i3.g.j _ _ _ h4
 have hmore:fndP (l.take (i+1))=fndP (l.take i)++if x.ok then [x.sp] else []:=by
  rw [take_more hx]
  unfold fndP
  rw [List.filter_append,List.map_append]
  cases h:x.ok <;> simp [List.filter_cons,h]
 obtain ⟨T,hT⟩:∃ T,T=w1.heap.size:=⟨_,rfl⟩
 obtain ⟨w2,hw2⟩:∃ w2,w2=w1.alloc (.cells #[.bool x.dn,.bool x.ok,.string ⟨x.sp.s.toArray⟩,.string ⟨x.sp.e.toArray⟩,.slice xa x.sp.ks.length xc] 58):=⟨_,rfl⟩
 have x2:Ext w1 w2:=by rw [hw2]; exact ext_alloc _
 have a1:w2.cell? ⟨T,1,none⟩=some (.bool x.ok):=by rw [hw2,hT]; exact eY1 @cell_newN
 have a2:w2.cell? ⟨T,2,none⟩=some (.string ⟨x.sp.s.toArray⟩):=by rw [hw2,hT]; exact eY1 @cell_newN
 have a3:w2.cell? ⟨T,3,none⟩=some (.string ⟨x.sp.e.toArray⟩):=by rw [hw2,hT]; exact eY1 @cell_newN
 have a4:w2.cell? ⟨T,4,none⟩=some (.slice xa x.sp.ks.length xc):=by rw [hw2,hT]; exact eY1 @cell_newN
 have i5:=i3.ext SpE.mono x2
 refine gY7 @hi' @h0 @h1 @h2 @h3 @h4 @cell_newN ?_
 rw [← hw2,← hT]
 cases hok:x.ok with
 | false =>
  rw [hok] at a1 hmore
  refine gY1 @a1 ?_
  refine hK2 _ _ (i+1,v) ?_ ⟨hi,d1,?_⟩ (by simp only; omega)
  ·exact agZ
  ·simp only
   rw [hmore,if_neg (by decide),List.append_nil]
   exact i5
 | true =>
  rw [hok] at a1 hmore
  obtain ⟨css,o5⟩:=i5.o
  obtain ⟨va,vcap,rfl,_⟩:=i5.form
  have hfl:(fndP (l.take i)).length≤i:=by
   unfold fndP
   rw [List.length_map]
   refine Nat.le_trans (List.length_filter_le _ _) ?_
   rw [List.length_take]; omega
  refine gY4 @a1 @a2 @a3 @a4 ?_
  refine appN x.sp [.string ⟨x.sp.s.toArray⟩,.string ⟨x.sp.e.toArray⟩,.slice xa x.sp.ks.length xc] rw74 o5 ⟨_,rfl,hxk⟩ rfl (.inl rfl) rfl rfl (by simp [Value.oneCell']) (by omega) i5.g.j fun v6 w6 o6 k6 n6 j6 _ => ?_
  refine goZ ?_
  refine hK2 _ _ (i+1,v6) ?_ ⟨hi,d1,?_⟩ (by simp only; omega)
  ·exact agZ
  ·simp only
   rw [hmore,if_pos rfl]
   exact i5.more o6 k6 n6 j6
theorem spanTurned_run {v:Value} {l:List Sp} (hv:Sl SpE 3 d v l) (hl:l.length≤100000) (hinc:Inc d w) (hk:∀ d' w' v',Gr d w d' w'→Sl SpE 3 d' v' l.reverse→k v' w'):callK prog 37 #[v] k w:=by
 obtain ⟨ka,kc,rfl⟩:=hv.form
 refine callZ [.tmp 2] func37 ?_
 refine goZ ?_
 refine loopC (fun b:Nat × Value=>[(0,.slice ka l.length kc),(3,b.2),(4,.int .i64 ((b.1:Int) - 1))])
  (fun b w'=>b.1≤l.length∧∃ d1,LoopL SpE 3 56 d w d1 w' b.2 (l.drop b.1).reverse) (fun b _=>b.1) (l.length,.slice none 0 0) (by kernel_rfl) ?_ ⟨Nat.le_refl _,d,by simp only; rw [List.drop_length]; exact LoopL.nil hinc⟩ ?_
 ·exact agZ
 rintro K2 e ⟨i,v⟩ w1 ⟨i2,d1,i3⟩ hK2
 simp only at i2 i3
 rcases i with _ | i
 ·have hi':¬ (0:Int)≤((0:Nat):Int) - 1:=by omega
  refine gY1 @hi' ?_
  obtain ⟨d2,g2,_,_,s2⟩:=i3.done SpE.mono
  exact hk d2 w1 v g2 s2
 have hi':(0:Int)≤((i+1:Nat):Int) - 1:=by omega
 have ei:((i+1:Nat):Int) - 1=(i:Nat):=by omega
 have hil:(i:Int) < l.length:=by omega
 have hi0:(0:Int)≤(i:Nat):=by omega
 obtain ⟨g,f,c,hv',hc,hat⟩:=(hv.inc SpE.mono i3.g.i).at (by omega)
 obtain ⟨rfl,rfl⟩:ka=some ⟨g,f,none⟩∧kc=c:=by simpa using hv'
 obtain ⟨x,hx⟩:∃ x,l[i]? = some x:=⟨_,List.getElem?_eq_getElem (by omega)⟩
 obtain ⟨cs,_,hcs,hR⟩:=hat i x hx
 obtain ⟨kv,rfl,hkv⟩:=hR
 obtain ⟨kva,kvc,rfl⟩:=hkv.form
 have h0:w1.cell? ⟨g,f+i * 3,none⟩=some (.string ⟨x.s.toArray⟩):=i3.g.j _ _ _ (hcs 0 _ rfl)
 have h1:w1.cell? ⟨g,f+i * 3+1,none⟩=some (.string ⟨x.e.toArray⟩):=i3.g.j _ _ _ (hcs 1 _ rfl)
 have h2:w1.cell? ⟨g,f+i * 3+2,none⟩=some (.slice kva x.ks.length kvc):=i3.g.j _ _ _ (hcs 2 _ rfl)
 obtain ⟨css,o5⟩:=i3.o
 obtain ⟨va,vcap,rfl,_⟩:=i3.form
 refine gY6 @ei @hi0 @hil @h0 @h1 @h2 ?_
 refine appN x [.string ⟨x.s.toArray⟩,.string ⟨x.e.toArray⟩,.slice kva x.ks.length kvc] rw74 o5 ⟨_,rfl,hkv⟩ rfl (.inl rfl) rfl rfl (by simp [Value.oneCell']) (by rw [List.length_reverse,List.length_drop]; omega) i3.g.j fun v6 w6 o6 k6 n6 j6 _ => ?_
 refine goZ ?_
 refine hK2 _ _ (i,v6) ?_ ⟨by simp only; omega,d1,?_⟩ (by simp only; omega)
 ·exact agZ
 ·simp only
  have hd:l.drop i=x :: l.drop (i+1):=by
   obtain ⟨h,e⟩:=List.getElem?_eq_some_iff.1 hx
   rw [List.drop_eq_getElem_cons h,e]
  rw [hd,List.reverse_cons]
  exact i3.more o6 k6 n6 j6
end
end Go.Proofs
