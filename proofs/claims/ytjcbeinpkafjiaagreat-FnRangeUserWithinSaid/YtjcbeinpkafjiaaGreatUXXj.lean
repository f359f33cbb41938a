/- Parts of the proof: Xj. -/
import Derived.Test.YtjcbeinpkafjiaaGreatU25
set_option linter.all false
set_option maxRecDepth 10000
namespace Go.E
open Go Go.Sort Go.Proofs Go.Proofs.Tryz
theorem visP_more {snap:Nat} {l:List K} {j:Nat} {x:K} (h:l[j]? = some x):visP snap (l.take (j+1))=visP snap (l.take j)++if visT snap x.tr then [x] else []:=by
 rw [take_more h]
 unfold visP
 rw [List.filter_append]
 simp [List.filter_cons]
end Go.E
namespace Go.Proofs
open Go Go.E Go.Sort Go.Proofs.Tryz
section
variable {k:Kont} {d w:World}
theorem visible_run {kv:Value} {x:Sp} {snap:Nat} (hv:Sl KE 3 w kv x.ks) (hl:x.ks.length≤100000) (hk:∀ v2 w2,Ext w w2→OwnC kce 3 88 w2 v2 (visP snap x.ks)→(∀ g,v2.ownBlock=some g→w.heap.size≤g)→k (.agg #[.string ⟨x.s.toArray⟩,.string ⟨x.e.toArray⟩,v2]) w2) :
    callK prog 23 #[.agg #[.string ⟨x.s.toArray⟩,.string ⟨x.e.toArray⟩,kv],.int .u64 snap] k w:=by
 have htr:=sl_ktr hv
 obtain ⟨ka,kc,rfl⟩:=hv.form
 refine callZ [.cell 4 46] func23 ?_
 refine gY2 @cell_newN @frozen_newN ?_
 obtain ⟨A,hA⟩:∃ A,A=w.heap.size:=⟨_,rfl⟩
 rw [← hA]
 refine cutL (fun _:Unit=>[(4,.pointer (some ⟨A+1,0,none⟩)),(5,.pointer (some ⟨A+1+1,0,none⟩))])
  (fun _ w'=>Ext w w'∧(∀ y,w'.frozen? ⟨A+1,y,none⟩=false)∧w'.cell? ⟨A+1,0,none⟩=some (.string ByteArray.empty)∧w'.cell? ⟨A+1,1,none⟩=some (.string ByteArray.empty)∧w'.cell? ⟨A+1,2,none⟩=some (.slice none 0 0) ∧
   w'.cell? ⟨A+1+1,0,none⟩=some (.string ⟨x.s.toArray⟩)∧w'.cell? ⟨A+1+1,1,none⟩=some (.string ⟨x.e.toArray⟩)∧∃ v,w'.cell? ⟨A+1+1,2,none⟩=some v∧OwnC kce 3 88 w' v (visP snap x.ks)∧∀ g,v.ownBlock=some g→A+1+1 < g) (by kernel_rfl) (fun K hK => ?_) ?_
 ·refine loopC (fun j:Nat=>[(1,.int .u64 snap),(4,.pointer (some ⟨A+1,0,none⟩)),(5,.pointer (some ⟨A+1+1,0,none⟩)),(14,.slice ka x.ks.length kc),(15,.int .i64 x.ks.length),(16,.int .i64 j)])
    (fun j w'=>j≤x.ks.length∧Ext w w'∧((∀ y,w'.frozen? ⟨A+1,y,none⟩=false)∧∀ y,w'.frozen? ⟨A+1+1,y,none⟩=false)∧w'.cell? ⟨A+1,0,none⟩=some (.string ByteArray.empty)∧w'.cell? ⟨A+1,1,none⟩=some (.string ByteArray.empty)∧w'.cell? ⟨A+1,2,none⟩=some (.slice none 0 0) ∧
    w'.cell? ⟨A+1+1,0,none⟩=some (.string ⟨x.s.toArray⟩)∧w'.cell? ⟨A+1+1,1,none⟩=some (.string ⟨x.e.toArray⟩)∧∃ v,w'.cell? ⟨A+1+1,2,none⟩=some v∧OwnC kce 3 88 w' v (visP snap (x.ks.take j))∧∀ g,v.ownBlock=some g→A+1+1 < g) (fun j _=>x.ks.length - j) 0 (by kernel_rfl) ?_ ?_ ?_
  ·exact agZ
  ·refine ⟨Nat.zero_le _,?_,⟨fun y => ?_,fun y => ?_⟩,?_,?_,?_,?_,?_,.slice none 0 0,?_,OwnC.nil kce_len,by simp [Value.ownBlock]⟩
   exact ext_set (ext_set (ext_set (((ext_alloc _).trans (ext_alloc _)).trans (ext_alloc _)) (by omega)) (by omega)) (by omega)
   all_goals
    rw [hA]
    exact eY2 @cell_newN @frozen_newN
  rintro K2 e i w1 ⟨i2,i3,⟨f1,f2⟩,z0,z1,z2,c0,c1,v,c2,o1,n1⟩ hK2
  have hS:=lt_of_cell c2
  rcases Nat.lt_or_ge i x.ks.length with hi | hi
  rotate_left
  ·have hi':¬ (i:Int) < x.ks.length:=by omega
   refine gY1 @hi' ?_
   obtain rfl:i=x.ks.length:=by omega
   rw [List.take_length] at o1
   refine hK _ _ () ?_ ⟨i3,f1,z0,z1,z2,c0,c1,v,c2,o1,n1⟩
   exact agZ
  have hi':(i:Int) < x.ks.length:=by omega
  obtain ⟨g,f,c,hv',hc,hat⟩:=(hv.inc KE.mono i3.inc).at (by omega)
  obtain ⟨rfl,rfl⟩:ka=some ⟨g,f,none⟩∧kc=c:=by simpa using hv'
  obtain ⟨y,hy⟩:∃ y,x.ks[i]? = some y:=⟨_,List.getElem?_eq_getElem hi⟩
  obtain ⟨h0,h1,h2,h3⟩:=cells_ke (hat i y hy)
  have x4:=ext_alloc (w:=w1) (.cells #[.int .u64 y.tr,.string ⟨y.suf.toArray⟩,.string ⟨y.val.toArray⟩] 88)
  have more:=visP_more (snap:=snap) hy
  refine gY5 @hi' @h0 @h1 @h2 @cell_newN ?_
  obtain ⟨T,hT⟩:∃ T,T=w1.heap.size:=⟨_,rfl⟩
  obtain ⟨w4,hw4⟩:∃ w4,w4=w1.alloc (.cells #[.int .u64 y.tr,.string ⟨y.suf.toArray⟩,.string ⟨y.val.toArray⟩] 88):=⟨_,rfl⟩
  have t0:w4.cell? ⟨T,0,none⟩=some (.int .u64 y.tr):=by rw [hw4,hT]; exact eY1 @cell_newN
  have t1:w4.cell? ⟨T,1,none⟩=some (.string ⟨y.suf.toArray⟩):=by rw [hw4,hT]; exact eY1 @cell_newN
  have t2:w4.cell? ⟨T,2,none⟩=some (.string ⟨y.val.toArray⟩):=by rw [hw4,hT]; exact eY1 @cell_newN
  rw [← hw4] at x4 ⊢
  rw [← hT]
  refine keyVisible_run h3 ?_
  obtain ⟨va,vc,rfl,_⟩:=o1.form
  have o4:=o1.ext x4
  cases hvis:visT snap y.tr with
  | false =>
   rw [hvis,if_neg (by decide),List.append_nil] at more
   refine goZ ?_
   refine hK2 _ _ (i+1) ?_ ⟨hi,i3.trans x4,⟨fun y=>by rw [x4.frozen _ y (by omega)]; exact f1 y,fun y=>by rw [x4.frozen _ y hS]; exact f2 y⟩,x4.cell z0,x4.cell z1,x4.cell z2,x4.cell c0,x4.cell c1,_,x4.cell c2,by rw [more]; exact o4,n1⟩ (by omega)
   exact agZ
  | true =>
   rw [hvis,if_pos rfl] at more
   have c2':=x4.cell c2
   refine gY4 @c2' @t0 @t1 @t2 ?_
   have hvl:(visP snap (x.ks.take i)).length≤i:=by
    refine Nat.le_trans (List.length_filter_le _ _) ?_
    rw [List.length_take]; omega
   refine appC1 y rw44 o4 rfl (.inl rfl) rfl (kce_one y) (by omega) fun v5 w5 o5 k5 n5 => ?_
   have h4:=x4.size
   have n5':∀ g,v5.ownBlock=some g→A+1+1 < g:=fun g hg=>by
    rcases n5 g hg with h | h
    ·exact n1 g h
    ·omega
   have nS:∀ b,b≤A+1+1→(Value.slice va (visP snap (x.ks.take i)).length vc).ownBlock≠some b:=fun b hb h=>by have:=n1 b h; omega
   have c2'':=k5.some c2' fun h=>nS _ (Nat.le_refl _) h
   have f2':∀ y,w5.frozen? ⟨A+1+1,y,none⟩=false:=fun y=>by rw [k5.frozen _ y (by omega),x4.frozen _ y hS]; exact f2 y
   have f1':∀ y,w5.frozen? ⟨A+1,y,none⟩=false:=fun y=>by rw [k5.frozen _ y (by omega),x4.frozen _ y (by omega)]; exact f1 y
   obtain ⟨va5,vc5,rfl,_⟩:=o5.form
   refine gY2 @c2'' @f2' ?_
   have k6:Keep (fun b y=>b=A+1+1∧y=2) w5 (w5.setCell ⟨A+1+1,2,none⟩ (.slice va5 (visP snap (x.ks.take i)++[y]).length vc5)):=keep_set ⟨rfl,rfl⟩
   have cc:∀ {b o u},b≤A+1+1→(b=A+1+1→o≠2)→w1.cell? ⟨b,o,none⟩=some u→(w5.setCell ⟨A+1+1,2,none⟩ (.slice va5 (visP snap (x.ks.take i)++[y]).length vc5)).cell? ⟨b,o,none⟩=some u:=fun hb ho h=>k6.some (k5.some (x4.cell h) fun h=>nS _ hb h) fun h=>ho h.1 h.2
   refine hK2 _ _ (i+1) ?_ ⟨hi,?_,⟨fun y=>by rw [World.frozen?_setCell]; exact f1' y,fun y=>by rw [World.frozen?_setCell]; exact f2' y⟩,cc (by omega) (by omega) z0,cc (by omega) (by omega) z1,cc (by omega) (by omega) z2,cc (by omega) (by omega) c0,cc (by omega) (by omega) c1,_,by rw [cell_self,c2'']; rfl,?_,n5'⟩ (by omega)
   ·exact agZ
   ·exact ext_set ((i3.trans x4).tr k5 fun b o hb h=>by have:=n1 b h; omega) (by omega)
   ·rw [more]
    exact o5.keep k6 fun g hg o h=>by have:=n5' g hg; omega
 rintro e _ w3 ⟨i3,f1,z0,z1,z2,c0,c1,v,c2,o1,n1⟩
 obtain ⟨va,vc,rfl,_⟩:=o1.form
 refine gY7 @c0 @c1 @c2 @z0 @z1 @z2 @f1 ?_
 have kk:=Keep.set (b:=A+1) (o:=2) (v := .slice va (visP snap x.ks).length vc) (Keep.set (b:=A+1) (o:=1) (v := .string ⟨x.e.toArray⟩) (Keep.set (b:=A+1) (o:=0) (v := .string ⟨x.s.toArray⟩) (Keep.refl (M:=fun b _=>b=A+1) w3) fun _=>rfl) fun _=>rfl) fun _=>rfl
 exact hk _ _ (i3.tr kk fun b o hb h=>by omega) (o1.keep kk fun g hg o h=>by have:=n1 g hg; omega) fun g hg=>by have:=n1 g hg; omega
theorem merged_run {v:Value} {l:List (List Sp)} {snap:Nat} (hv:Sl LvE 1 d v l) (hl:l.length≤6) (hs:∀ x ∈ l,x.length≤100) (hks:∀ x ∈ l,∀ y ∈ x,y.ks.length≤40) (hinc:Inc d w) (hk:∀ d2 w2 v2,Gr d w d2 w2→Sl SpE 3 d2 v2 (mergedP l.flatten snap)→k v2 w2):callK prog 61 #[v,.int .u64 snap] k w:=by
 obtain ⟨ka,kc,rfl⟩:=hv.form
 refine callZ [.tmp 4] func61 ?_
 refine goZ ?_
 have l6:l.length * 100≤6 * 100:=Nat.mul_le_mul_right _ hl
 have hfl:=flatten_length_le (Lv:=l) (n:=100) hs
 have hks':∀ y ∈ l.flatten,y.ks.length≤40:=fun y hy=>by
  obtain ⟨L,hL,hy⟩:=List.mem_flatten.1 hy
  exact hks L hL y hy
 refine spanAll_run hv (by omega) (fun x hx=>by have:=hs x hx; omega) hinc fun d1 w1 v1 g1 s1 => ?_
 refine goZ ?_
 refine frags_run s1 (by omega) hks' g1.j fun d2 w2 v2 g2 s2 => ?_
 have g12:=g1.trans g2
 have hfn:=fragsP_length l.flatten
 obtain ⟨F,hF⟩:∃ F,F=fragsP l.flatten:=⟨_,rfl⟩
 have hfk:∀ f ∈ F,f.ks.length≤24000:=fun f hf=>by
  obtain ⟨s,t,e⟩:=frag_ks (hF ▸ hf)
  have:=coverK_len (l:=l.flatten) (s:=s) (e:=t) (m:=40) hks'
  rw [e,(canonP_perm _).length_eq]
  have h2:l.flatten.length * 40≤600 * 40:=Nat.mul_le_mul_right _ (by omega)
  omega
 unfold mergedP at hk
 rw [← hF] at s2 hfn hk
 have hFt:=sl_sktr s2
 obtain ⟨va,vc,rfl⟩:=s2.form
 refine goZ ?_
 refine loopC (fun b:Nat × Value=>[(1,.int .u64 snap),(5,b.2),(10,.slice va F.length vc),(11,.int .i64 F.length),(12,.int .i64 b.1)])
  (fun b w'=>b.1≤F.length∧∃ d1,LoopL SpE 3 46 d2 w2 d1 w' b.2 ((F.take b.1).map fun x=>⟨x.s,x.e,visP snap x.ks⟩)) (fun b _=>F.length - b.1) (0,.slice none 0 0) (by kernel_rfl) ?_ ⟨Nat.zero_le _,d2,LoopL.nil g12.j⟩ ?_
 ·exact agZ
 rintro K2 e ⟨i,vo⟩ w3 ⟨i2,d3,i3⟩ hK2
 simp only at i2 i3
 rcases Nat.lt_or_ge i F.length with hi | hi
 rotate_left
 ·have hi':¬ (i:Int) < F.length:=by omega
  refine gY1 @hi' ?_
  obtain rfl:i=F.length:=by omega
  rw [List.take_length] at i3
  obtain ⟨d4,g4,_,_,s4⟩:=i3.done SpE.mono
  exact hk d4 w3 vo (g12.trans g4) s4
 have hi':(i:Int) < F.length:=by omega
 obtain ⟨g,f,c,hv',hc,hat⟩:=(s2.inc SpE.mono (i3.g.i.trans i3.g.j)).at (by omega)
 obtain ⟨rfl,rfl⟩:va=some ⟨g,f,none⟩∧vc=c:=by simpa using hv'
 obtain ⟨x,hx⟩:∃ x,F[i]? = some x:=⟨_,List.getElem?_eq_getElem hi⟩
 have hxm:=List.mem_of_getElem? hx
 obtain ⟨h0,h1,a,cc,h2,hkx⟩:=cells_spe (hat i x hx)
 have x4:=ext_alloc (w:=w3) (.cells #[.string ⟨x.s.toArray⟩,.string ⟨x.e.toArray⟩,.slice a x.ks.length cc] 46)
 refine gY5 @hi' @h0 @h1 @h2 @cell_newN ?_
 refine visible_run (x:=x) (hkx.inc KE.mono x4.inc) (by have:=hfk x hxm; omega) fun v5 w5 x5 o5 n5 => ?_
 have x35:=x4.trans x5
 obtain ⟨d5,g5,e5⟩:=grAll i3.g.j x35
 have i5:=i3.call SpE.mono g5
 obtain ⟨css,oo⟩:=i5.o
 have hvt:KTr (visP snap x.ks):=fun y hy=>hFt x hxm y (List.mem_filter.1 hy).1
 have hsl:Sl KE 3 d5 v5 (visP snap x.ks):=o5.slg (fun y hy=>⟨rfl,hvt y hy⟩) fun g hg o u hu=>e5 _ _ _ (by have:=n5 g hg; have:=x4.size; omega) hu
 obtain ⟨va5,vc5,rfl,_⟩:=o5.form
 obtain ⟨vo1,vo2,rfl,_⟩:=i3.form
 refine goZ ?_
 refine appN (⟨x.s,x.e,visP snap x.ks⟩:Sp) [.string ⟨x.s.toArray⟩,.string ⟨x.e.toArray⟩,.slice va5 (visP snap x.ks).length vc5] rw28 oo ⟨_,rfl,hsl⟩ rfl (.inl rfl) rfl rfl (by simp [Value.oneCell']) (by rw [List.length_map,take_len i2]; omega) i5.g.j fun v6 w6 o6 k6 n6 j6 _ => ?_
 refine goZ ?_
 refine hK2 _ _ (i+1,v6) ?_ ⟨hi,d5,?_⟩ (by simp only; omega)
 ·exact agZ
 ·simp only
  rw [take_more hx,List.map_append]
  exact i5.more o6 k6 n6 j6
def bdO2 (b:Bool) (s:Bytes):Option Bytes:=if b then some s else none
theorem bounded_run {v:Value} {l:List Sp} {lb hb:Bool} {ls hs:Bytes} (hv:Sl SpE 3 d v l) (hl:l.length≤10000) (hinc:Inc d w) (hk:∀ d2 w2 v2,Gr d w d2 w2→Sl SpE 3 d2 v2 (l.filter (bdP (bdO2 lb ls) (bdO2 hb hs)))→k v2 w2) :
    callK prog 60 #[v,.agg #[.string ⟨ls.toArray⟩,.bool lb],.agg #[.string ⟨hs.toArray⟩,.bool hb]] k w:=by
 obtain ⟨va,vc,rfl⟩:=hv.form
 refine callZ [.tmp 6] func60 ?_
 refine goZ ?_
 obtain ⟨A,hA⟩:∃ A,A=w.heap.size:=⟨_,rfl⟩
 obtain ⟨W,hW⟩:∃ W,W=(w.alloc (.cells #[.string ⟨ls.toArray⟩,.bool lb] 31)).alloc (.cells #[.string ⟨hs.toArray⟩,.bool hb] 31):=⟨_,rfl⟩
 have xW:Ext w W:=by rw [hW]; exact (ext_alloc _).trans (ext_alloc _)
 have a0:W.cell? ⟨A,0,none⟩=some (.string ⟨ls.toArray⟩):=by rw [hW,hA]; exact eY1 @cell_newN
 have a1:W.cell? ⟨A,1,none⟩=some (.bool lb):=by rw [hW,hA]; exact eY1 @cell_newN
 have b0:W.cell? ⟨A+1,0,none⟩=some (.string ⟨hs.toArray⟩):=by rw [hW,hA]; exact eY1 @cell_newN
 have b1:W.cell? ⟨A+1,1,none⟩=some (.bool hb):=by rw [hW,hA]; exact eY1 @cell_newN
 rw [← hA,← hW]
 refine loopC (fun b:Nat × Value=>[(4,.pointer (some ⟨A,0,none⟩)),(5,.pointer (some ⟨A+1,0,none⟩)),(7,b.2),(10,.slice va l.length vc),(11,.int .i64 l.length),(12,.int .i64 b.1)])
  (fun b w'=>b.1≤l.length∧∃ d1,LoopL SpE 3 46 d W d1 w' b.2 ((l.take b.1).filter (bdP (bdO2 lb ls) (bdO2 hb hs)))) (fun b _=>l.length - b.1) (0,.slice none 0 0) (by kernel_rfl) ?_ ⟨Nat.zero_le _,d,LoopL.nil (hinc.trans xW.inc)⟩ ?_
 ·exact agZ
 rintro K2 e ⟨i,vo⟩ w3 ⟨i2,d3,i3⟩ hK2
 simp only at i2 i3
 rcases Nat.lt_or_ge i l.length with hi | hi
 rotate_left
 ·have hi':¬ (i:Int) < l.length:=by omega
  refine gY1 @hi' ?_
  obtain rfl:i=l.length:=by omega
  rw [List.take_length] at i3
  obtain ⟨d4,g4,_,_,s4⟩:=i3.done SpE.mono
  exact hk d4 w3 vo ((Gr.ext hinc xW).trans g4) s4
 have hi':(i:Int) < l.length:=by omega
 obtain ⟨g,f,c,hv',hc,hat⟩:=hv.at (by omega)
 obtain ⟨rfl,rfl⟩:va=some ⟨g,f,none⟩∧vc=c:=by simpa using hv'
 obtain ⟨x,hx⟩:∃ x,l[i]? = some x:=⟨_,List.getElem?_eq_getElem hi⟩
 have hxm:=List.mem_of_getElem? hx
 obtain ⟨h0,h1,a,cc,h2,hkx⟩:=cells_spe (hat i x hx)
 have hd3:Inc d w3:=i3.g.i.trans i3.g.j
 have h0:=hd3 _ _ _ h0
 have h1:=hd3 _ _ _ h1
 have h2:=hd3 _ _ _ h2
 have x4:=ext_alloc (w:=w3) (.cells #[.string ⟨x.s.toArray⟩,.string ⟨x.e.toArray⟩,.slice a x.ks.length cc] 46)
 have xx:=i3.g.x.trans x4
 have a0:=xx.cell a0
 have a1:=xx.cell a1
 have b0:=xx.cell b0
 have b1:=xx.cell b1
 have more:(l.take (i+1)).filter (bdP (bdO2 lb ls) (bdO2 hb hs))=(l.take i).filter (bdP (bdO2 lb ls) (bdO2 hb hs))++if bdP (bdO2 lb ls) (bdO2 hb hs) x then [x] else []:=by
  rw [take_more hx,List.filter_append,List.filter_cons,List.filter_nil]
 have hfl:((l.take i).filter (bdP (bdO2 lb ls) (bdO2 hb hs))).length≤i:=Nat.le_trans (List.length_filter_le _ _) (by rw [List.length_take]; omega)
 obtain ⟨p,hp⟩:∃ p,decide (ls < x.e)=p:=⟨_,rfl⟩
 obtain ⟨q,hq⟩:∃ q,decide (x.s < hs)=q:=⟨_,rfl⟩
 have hbd:bdP (bdO2 lb ls) (bdO2 hb hs) x=((!lb || p) && (!hb || q)):=by
  rw [← hp,← hq]
  cases lb <;> cases hb <;> simp [bdP,bdO2]
 rw [hbd] at more
 refine gY7 @hi' @h0 @h1 @h2 @cell_newN @a0 @a1 ?_
 obtain ⟨vo1,vo2,rfl,_⟩:=i3.form
 obtain ⟨css,oo⟩:=i3.o
 cases lb <;> cases hb <;> cases p <;> cases q
 all_goals
  simp only [Bool.not_true,Bool.not_false,Bool.false_or,Bool.true_or,Bool.and_true,Bool.and_false,Bool.true_and,Bool.false_and,if_true,Bool.false_eq_true,if_false,List.append_nil] at more
  refine gY8 @cell_newN @a0 @b1 @b0 @hp @hq @Bool.not_true @Bool.not_false ?_
  first
  | refine hK2 _ _ (i+1,_) ?_ ⟨hi,d3,by simp only; rw [more]; exact i3.ext SpE.mono x4⟩ (by simp only; omega)
    exact agZ
    done
  | refine appN x [.string ⟨x.s.toArray⟩,.string ⟨x.e.toArray⟩,.slice a x.ks.length cc] rw28 (i3.ext SpE.mono x4).o.choose_spec ⟨_,rfl,hkx.inc KE.mono (i3.g.i)⟩ rfl (.inl rfl) (World.size_alloc _ _).symm rfl (by simp [Value.oneCell']) (by omega) (i3.g.j.trans x4.inc) fun v6 w6 o6 k6 n6 j6 _ => ?_
    refine goZ ?_
    refine hK2 _ _ (i+1,v6) ?_ ⟨hi,d3,by simp only; rw [more]; exact (i3.ext SpE.mono x4).more o6 k6 n6 j6⟩ (by simp only; omega)
    exact agZ
end
end Go.Proofs
