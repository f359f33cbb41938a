/- Parts of the proof: Yd. -/
import Derived.Test.YtjcbeinpkafjiaaGreatUXXy
set_option linter.all false
set_option maxRecDepth 10000
namespace Go.E
open Go Go.Sort Go.Proofs Go.Proofs.Tryz
def keyed (s:Sp):Bool:=decide (s.ks≠[])
structure VOk (Lv:List (List Sp)) (snap:Nat):Prop where
 rin:RIn Lv snap none none
 n6:Lv.length≤6
 sz:∀ x ∈ Lv,x.length≤1000∧∀ y ∈ x,y.ks.length≤100
 n:Lv.flatten.length≤300
theorem VOk.vl {Lv:List (List Sp)} {snap:Nat} (h:VOk Lv snap):(rV Lv snap none none).length≤601:=by
 have:=rV_length Lv snap
 have:=h.n
 omega
theorem VOk.vk {Lv:List (List Sp)} {snap:Nat} (h:VOk Lv snap):∀ x ∈ rV Lv snap none none,x.ks.length≤30000:=fun x hx=>by
 have h1:=rV_ks h.rin (m:=100) (fun L hL s hs=>(h.sz L hL).2 s hs) x hx
 have h2:Lv.flatten.length * 100≤300 * 100:=Nat.mul_le_mul_right _ h.n
 omega
end Go.E
namespace Go.Proofs
open Go Go.E Go.Sort Go.Proofs.Tryz
section
variable {k:Kont} {d w:World}
theorem rangeSeen_run {v:Value} {l:List An} (hv:Sl AnE 5 d v l) (hl:l.length≤10000) (hks:∀ x ∈ fndP l,x.ks.length≤100000) (hinc:Inc d w) (hk:∀ d' w' v',Gr d w d' w'→Sl SpE 3 d' v' (((fndP l).map bareS).filter keyed)→k v' w'):callK prog 31 #[v] k w:=by
 obtain ⟨ka,kc,rfl⟩:=hv.form
 have hfl:(fndP l).length≤l.length:=by
  unfold fndP
  rw [List.length_map]
  exact List.length_filter_le _ _
 refine callZ [.tmp 2] func31 ?_
 refine goZ ?_
 refine spanList_run hv (by omega) hinc fun d1 w1 v1 g1 s1 => ?_
 refine goZ ?_
 refine rangeBare_run s1 (by omega) (fun x hx=>by have:=hks x hx; omega) g1.j fun d2 w2 v2 g2 s2 => ?_
 have g12:=g1.trans g2
 obtain ⟨M,hM⟩:∃ M,M=(fndP l).map bareS:=⟨_,rfl⟩
 have hMl:M.length≤10000:=by rw [hM,List.length_map]; omega
 rw [← hM] at s2 hk
 obtain ⟨va,vc,rfl⟩:=s2.form
 refine goZ ?_
 refine loopC (fun b:Nat × Value=>[(3,b.2),(8,.slice va M.length vc),(9,.int .i64 M.length),(10,.int .i64 b.1)])
  (fun b w'=>b.1≤M.length∧∃ d1,LoopL SpE 3 46 d2 w2 d1 w' b.2 ((M.take b.1).filter keyed)) (fun b _=>M.length - b.1) (0,.slice none 0 0) (by kernel_rfl) ?_ ⟨Nat.zero_le _,d2,LoopL.nil g12.j⟩ ?_
 ·exact agZ
 rintro K2 e ⟨i,vo⟩ w3 ⟨i2,d3,i3⟩ hK2
 simp only at i2 i3
 rcases Nat.lt_or_ge i M.length with hi | hi
 rotate_left
 ·have hi':¬ (i:Int) < M.length:=by omega
  refine gY1 @hi' ?_
  obtain rfl:i=M.length:=by omega
  rw [List.take_length] at i3
  obtain ⟨d4,g4,_,_,s4⟩:=i3.done SpE.mono
  exact hk d4 w3 vo (g12.trans g4) s4
 have hi':(i:Int) < M.length:=by omega
 obtain ⟨g,f,c,hv',hc,hat⟩:=(s2.inc SpE.mono i3.g.i).at (by omega)
 obtain ⟨rfl,rfl⟩:va=some ⟨g,f,none⟩∧vc=c:=by simpa using hv'
 obtain ⟨x,hx⟩:∃ x,M[i]? = some x:=⟨_,List.getElem?_eq_getElem hi⟩
 obtain ⟨h0,h1,a,cc,h2,hkx⟩:=cells_spe (hat i x hx)
 have h0:=i3.g.j _ _ _ h0
 have h1:=i3.g.j _ _ _ h1
 have h2:=i3.g.j _ _ _ h2
 have hmore:(M.take (i+1)).filter keyed=(M.take i).filter keyed++if keyed x then [x] else []:=by
  rw [take_more hx,List.filter_append]
  cases h:keyed x <;> simp [List.filter_cons,h]
 obtain ⟨T,hT⟩:∃ T,T=w3.heap.size:=⟨_,rfl⟩
 obtain ⟨w4,hw4⟩:∃ w4,w4=w3.alloc (.cells #[.string ⟨x.s.toArray⟩,.string ⟨x.e.toArray⟩,.slice a x.ks.length cc] 46):=⟨_,rfl⟩
 have x4:Ext w3 w4:=by rw [hw4]; exact ext_alloc _
 have a0:w4.cell? ⟨T,0,none⟩=some (.string ⟨x.s.toArray⟩):=by rw [hw4,hT]; exact eY1 @cell_newN
 have a1:w4.cell? ⟨T,1,none⟩=some (.string ⟨x.e.toArray⟩):=by rw [hw4,hT]; exact eY1 @cell_newN
 have a2:w4.cell? ⟨T,2,none⟩=some (.slice a x.ks.length cc):=by rw [hw4,hT]; exact eY1 @cell_newN
 have i5:=i3.ext SpE.mono x4
 refine gY4 @hi' @h0 @h1 @h2 ?_
 rw [← hw4,← hT]
 by_cases hz:x.ks=[]
 ·have hz1:¬ (0:Int) < x.ks.length:=by rw [hz]; simp
  have hz2:keyed x=false:=decide_eq_false fun h=>h hz
  rw [hz2] at hmore
  refine gY2 @a2 @hz1 ?_
  refine hK2 _ _ (i+1,vo) ?_ ⟨hi,d3,?_⟩ (by simp only; omega)
  ·exact agZ
  ·simp only
   rw [hmore,if_neg (by decide),List.append_nil]
   exact i5
 ·have hz0:x.ks.length≠0:=fun h=>hz (List.length_eq_zero_iff.1 h)
  have hz1:(0:Int) < x.ks.length:=by omega
  have hz2:keyed x=true:=decide_eq_true hz
  rw [hz2] at hmore
  obtain ⟨css,o5⟩:=i5.o
  obtain ⟨wa,wcap,rfl,_⟩:=i5.form
  have hfl2:((M.take i).filter keyed).length≤i:=by
   refine Nat.le_trans (List.length_filter_le _ _) ?_
   rw [List.length_take]; omega
  refine gY4 @a0 @a1 @a2 @hz1 ?_
  refine appN x [.string ⟨x.s.toArray⟩,.string ⟨x.e.toArray⟩,.slice a x.ks.length cc] rw28 o5 ⟨_,rfl,hkx⟩ rfl (.inl rfl) rfl rfl (by simp [Value.oneCell']) (by omega) i5.g.j fun v6 w6 o6 k6 n6 j6 _ => ?_
  refine goZ ?_
  refine hK2 _ _ (i+1,v6) ?_ ⟨hi,d3,?_⟩ (by simp only; omega)
  ·exact agZ
  ·simp only
   rw [hmore,if_pos rfl]
   exact i5.more o6 k6 n6 j6
theorem rangeAll_run {lv:Value} {Lv:List (List Sp)} {snap:Nat} (hv:Sl LvE 1 d lv Lv) (u:VOk Lv snap) (hinc:Inc d w) (hk:∀ d' w' v',Gr d w d' w'→Sl SpE 3 d' v' ((seenP (rV Lv snap none none)).map bareS)→k v' w'):callK prog 34 #[lv,.int .u64 snap] k w:=by
 obtain ⟨la,lc,rfl⟩:=hv.form
 refine callZ [.tmp 4] func34 ?_
 refine goZ ?_
 have eS:ByteArray.empty=⟨([]:Bytes).toArray⟩:=rfl
 have hVl:=u.vl
 have hVk:=u.vk
 obtain ⟨V,hV⟩:∃ V,V=rV Lv snap none none:=⟨_,rfl⟩
 rw [← hV] at hVl hVk hk
 refine toLevels_run hv (by have:=u.n6; omega) (fun x hx=>⟨by have:=(u.sz x hx).1; omega,fun y hy=>by have:=(u.sz x hx).2 y hy; omega⟩) hinc fun d5 w5 v5 g5 s5 => ?_
 refine goZ ?_
 refine spanForth_run (n:=600) (by decide) g5.j fun d6 w6 v6 g6 s6 => ?_
 have i6:=g5.trans g6
 refine goZ ?_
 rw [eS]
 refine RangeUser_run (kl:=[]) (kh:=[]) (bl:=false) (bh:=false) (s5.inc LvE.mono g6.i) s6 i6.j u.rin (by decide) (by decide) (st_ok 600).1 (by rw [(st_length 600).1]; decide) fun d7 w7 v7 l7 g7 s7 hp => ?_
 have i7:=i6.trans g7
 have hp:Pw (AnsOk V AllSet) (wlk V (-2) false 0 (stF 600)) l7:=by rw [hV]; exact hp
 have hl7:l7.length=601:=by rw [← hp.1,wlk_length,(st_length 600).1]
 have hb7:=fnd_forth (by omega) hp
 have hk7:=bare_ks_le hb7 hVk
 refine goZ ?_
 refine rangeSeen_run s7 (by omega) (fun x hx=>by have:=hk7 x hx; omega) i7.j fun d8 w8 v8 g8 s8 => ?_
 rw [hb7,show keyed=fun s:Sp=>decide (s.ks≠[]) from rfl,seen_bare] at s8
 refine goZ ?_
 exact hk d8 w8 v8 (i7.trans g8) s8
end
end Go.Proofs
