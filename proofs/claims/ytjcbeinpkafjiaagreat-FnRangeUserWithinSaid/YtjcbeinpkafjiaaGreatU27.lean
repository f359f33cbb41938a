/- Parts of the proof: Xq, Xl, Xr, Xs, Xv, Ta. -/
import Derived.Laws.StructEq
import Derived.Deep.Slices
import Derived.Test.YtjcbeinpkafjiaaGreatU22
import Derived.Test.YtjcbeinpkafjiaaGreatU24
import Derived.Test.YtjcbeinpkafjiaaGreatU25
import Derived.Test.YtjcbeinpkafjiaaGreatU26
set_option linter.all false
section
set_option maxRecDepth 10000
namespace Go.E
open Go Go.Sort Go.Proofs Go.Proofs.Tryz
theorem Gr.mut {d w d1 w1 w2:World} {M:Nat→Nat→Prop} (g:Gr d w d1 w1) (k:Keep M w1 w2) (hM:∀ b o,M b o→w.heap.size≤b∧Out d1 b):Gr d w d1 w2:=by
 refine ⟨g.x.tr k fun b o hb hm=>by have:=(hM b o hm).1; omega,g.i,fun b o u hu=>k.some (g.j _ _ _ hu) fun hm => ?_,g.o⟩
 rw [(hM b o hm).2 o] at hu
 simp at hu
end Go.E
namespace Go.Proofs
open Go Go.E Go.Sort Go.Proofs.Tryz
section
variable {k:Kont} {d w:World}
theorem toKeys_run {v:Value} {l:List K} (hv:Sl KE 3 d v l) (hl:l.length≤100000) (hinc:Inc d w) (hk:∀ d' w' v',Gr d w d' w'→Sl KE 3 d' v' l→k v' w'):callK prog 123 #[v] k w:=by
 obtain ⟨ka,kc,rfl⟩:=hv.form
 refine callZ [.tmp 2] func123 ?_
 refine goZ ?_
 refine loopC (fun b:Nat × Value=>[(3,b.2),(6,.slice ka l.length kc),(7,.int .i64 l.length),(8,.int .i64 b.1)])
  (fun b w'=>b.1≤l.length∧∃ d1,LoopL KE 3 62 d w d1 w' b.2 (l.take b.1)) (fun b _=>l.length - b.1) (0,.slice none 0 0) (by kernel_rfl) ?_ ⟨Nat.zero_le _,d,LoopL.nil hinc⟩ ?_
 ·exact agZ
 rintro K2 e ⟨i,v⟩ w1 ⟨i2,d1,i3⟩ hK2
 simp only at i2 i3
 rcases Nat.lt_or_ge i l.length with hi | hi
 rotate_left
 ·have hi':¬ (i:Int) < l.length:=by omega
  refine gY1 @hi' ?_
  obtain rfl:i=l.length:=by omega
  rw [List.take_length] at i3
  obtain ⟨d2,g2,_,_,s2⟩:=i3.done KE.mono
  exact hk d2 w1 v g2 s2
 have hi':(i:Int) < l.length:=by omega
 obtain ⟨g,f,c,hv',hc,hat⟩:=(hv.inc KE.mono i3.g.i).at (by omega)
 obtain ⟨rfl,rfl⟩:ka=some ⟨g,f,none⟩∧kc=c:=by simpa using hv'
 obtain ⟨x,hx⟩:∃ x,l[i]? = some x:=⟨_,List.getElem?_eq_getElem hi⟩
 obtain ⟨cs,_,hcs,hR⟩:=hat i x hx
 have hmem:=List.mem_of_getElem? hx
 obtain ⟨rfl,htr⟩:=hR
 have h0:w1.cell? ⟨g,f+i * 3,none⟩=some (.int .u64 x.tr):=i3.g.j _ _ _ (hcs 0 _ rfl)
 have h1:w1.cell? ⟨g,f+i * 3+1,none⟩=some (.string ⟨x.suf.toArray⟩):=i3.g.j _ _ _ (hcs 1 _ rfl)
 have h2:w1.cell? ⟨g,f+i * 3+2,none⟩=some (.string ⟨x.val.toArray⟩):=i3.g.j _ _ _ (hcs 2 _ rfl)
 obtain ⟨va,vcap,rfl,_⟩:=i3.form
 have i4:=i3.ext KE.mono (ext_alloc (.cells #[.int .u64 x.tr,.string ⟨x.suf.toArray⟩,.string ⟨x.val.toArray⟩] 88))
 obtain ⟨css,o4⟩:=i4.o
 refine gY5 @hi' @h0 @h1 @h2 @cell_newN ?_
 refine appN x [.int .u64 x.tr,.string ⟨x.suf.toArray⟩,.string ⟨x.val.toArray⟩] rw54 o4 ⟨rfl,htr⟩ rfl (.inl rfl) (World.size_alloc _ _).symm rfl (by simp [Value.oneCell']) (by rw [take_len i2]; omega) i4.g.j fun v2 w2 o2 k2 n2 j2 _ => ?_
 refine goZ ?_
 refine hK2 _ _ (i+1,v2) ?_ ⟨hi,d1,?_⟩ (by simp only; omega)
 ·exact agZ
 ·rw [take_more hx]
  exact i4.more o2 k2 n2 j2
theorem toSpan_run {kv:Value} {x:Sp} (hv:Sl KE 3 d kv x.ks) (hl:x.ks.length≤100000) (hinc:Inc d w) (hk:∀ d' w' v',Gr d w d' w'→Sl KE 3 d' v' x.ks→k (.agg #[.string ⟨x.s.toArray⟩,.string ⟨x.e.toArray⟩,v']) w') :
    callK prog 89 #[.agg #[.string ⟨x.s.toArray⟩,.string ⟨x.e.toArray⟩,kv]] k w:=by
 obtain ⟨ka,kc,rfl⟩:=hv.form
 refine callZ [.cell 2 56] func89 ?_
 refine goZ ?_
 refine drawZ (sq [0] (.read 1 (sq [2] (.read 3 (sq [4] (.read 5 (.eff 6 [1,3] (sq [7] (.eff 8 [] .done))))))))) ?_
 obtain ⟨A,hA⟩:∃ A,A=w.heap.size:=⟨_,rfl⟩
 obtain ⟨W,hW⟩:∃ W,W=((w.alloc (.cells #[.string ⟨x.s.toArray⟩,.string ⟨x.e.toArray⟩,.slice ka x.ks.length kc] 46)).alloc (.cells #[.string ByteArray.empty,.string ByteArray.empty,.slice none 0 0] 56)).drew:=⟨_,rfl⟩
 have xW:Ext w W:=by rw [hW]; exact Ext.drew' ((ext_alloc _).trans (ext_alloc _))
 have a0:W.cell? ⟨A,0,none⟩=some (.string ⟨x.s.toArray⟩):=by rw [hW,hA]; exact eY1 @cell_newN
 have a1:W.cell? ⟨A,1,none⟩=some (.string ⟨x.e.toArray⟩):=by rw [hW,hA]; exact eY1 @cell_newN
 have b0:W.cell? ⟨A+1,0,none⟩=some (.string ByteArray.empty):=by rw [hW,hA]; exact eY1 @cell_newN
 have b1:W.cell? ⟨A+1,1,none⟩=some (.string ByteArray.empty):=by rw [hW,hA]; exact eY1 @cell_newN
 have b2:W.cell? ⟨A+1,2,none⟩=some (.slice none 0 0):=by rw [hW,hA]; exact eY1 @cell_newN
 have fz:∀ y,W.frozen? ⟨A+1,y,none⟩=false:=fun y=>by rw [hW,hA]; exact eY1 @frozen_newN
 have zW:W.heap.size=A+2:=by rw [hW,hA]; simp only [World.size_drew,World.size_alloc]
 refine gY1 @cell_newN ?_
 rw [← hA,← hW]
 refine toKeys_run hv hl (hinc.trans xW.inc) fun d1 w1 v1 g1 s1 => ?_
 obtain ⟨va,vc,rfl⟩:=s1.form
 have a0:=g1.x.cell a0
 have a1:=g1.x.cell a1
 have b0:=g1.x.cell b0
 have b1:=g1.x.cell b1
 have b2:=g1.x.cell b2
 have fz:∀ y,w1.frozen? ⟨A+1,y,none⟩=false:=fun y=>by rw [g1.x.frozen _ y (by omega)]; exact fz y
 have hoA:Out d (A+1):=hinc.out (by omega)
 refine gY6 @a0 @a1 @b0 @b1 @b2 @fz ?_
 have kk:=(((Keep.refl (M:=fun b _=>b=A+1) w1).set (b:=A+1) (o:=0) (v := .string ⟨x.s.toArray⟩) fun _=>rfl).set (b:=A+1) (o:=1) (v := .string ⟨x.e.toArray⟩) fun _=>rfl).set (b:=A+1) (o:=2) (v := .slice va x.ks.length vc) fun _=>rfl
 exact hk _ _ _ (((Gr.ext hinc xW).trans g1).mut kk fun b o h=>by
  subst h
  exact ⟨by omega,g1.o _ (by omega) hoA⟩) s1
theorem toSpans_run {v:Value} {l:List Sp} (hv:Sl SpE 3 d v l) (hl:l.length≤100000) (hks:∀ x ∈ l,x.ks.length≤100000) (hinc:Inc d w) (hk:∀ d' w' v',Gr d w d' w'→Sl SpE 3 d' v' l→k v' w'):callK prog 53 #[v] k w:=by
 obtain ⟨ka,kc,rfl⟩:=hv.form
 refine callZ [.tmp 2] func53 ?_
 refine goZ ?_
 refine loopC (fun b:Nat × Value=>[(3,b.2),(6,.slice ka l.length kc),(7,.int .i64 l.length),(8,.int .i64 b.1)])
  (fun b w'=>b.1≤l.length∧∃ d1,LoopL SpE 3 56 d w d1 w' b.2 (l.take b.1)) (fun b _=>l.length - b.1) (0,.slice none 0 0) (by kernel_rfl) ?_ ⟨Nat.zero_le _,d,LoopL.nil hinc⟩ ?_
 ·exact agZ
 rintro K2 e ⟨i,v⟩ w1 ⟨i2,d1,i3⟩ hK2
 simp only at i2 i3
 rcases Nat.lt_or_ge i l.length with hi | hi
 rotate_left
 ·have hi':¬ (i:Int) < l.length:=by omega
  refine gY1 @hi' ?_
  obtain rfl:i=l.length:=by omega
  rw [List.take_length] at i3
  obtain ⟨d2,g2,_,_,s2⟩:=i3.done SpE.mono
  exact hk d2 w1 v g2 s2
 have hi':(i:Int) < l.length:=by omega
 obtain ⟨g,f,c,hv',hc,hat⟩:=(hv.inc SpE.mono i3.g.i).at (by omega)
 obtain ⟨rfl,rfl⟩:ka=some ⟨g,f,none⟩∧kc=c:=by simpa using hv'
 obtain ⟨x,hx⟩:∃ x,l[i]? = some x:=⟨_,List.getElem?_eq_getElem hi⟩
 obtain ⟨cs,_,hcs,hR⟩:=hat i x hx
 have hmem:=List.mem_of_getElem? hx
 obtain ⟨kv,rfl,hkv⟩:=hR
 obtain ⟨kva,kvc,rfl⟩:=hkv.form
 have h0:w1.cell? ⟨g,f+i * 3,none⟩=some (.string ⟨x.s.toArray⟩):=i3.g.j _ _ _ (hcs 0 _ rfl)
 have h1:w1.cell? ⟨g,f+i * 3+1,none⟩=some (.string ⟨x.e.toArray⟩):=i3.g.j _ _ _ (hcs 1 _ rfl)
 have h2:w1.cell? ⟨g,f+i * 3+2,none⟩=some (.slice kva x.ks.length kvc):=i3.g.j _ _ _ (hcs 2 _ rfl)
 have i4:=i3.ext SpE.mono (ext_alloc (.cells #[.string ⟨x.s.toArray⟩,.string ⟨x.e.toArray⟩,.slice kva x.ks.length kvc] 46))
 refine gY5 @hi' @h0 @h1 @h2 @cell_newN ?_
 refine toSpan_run (x:=x) hkv (hks x hmem) i4.g.j fun d4 w4 v4 g4 s4 => ?_
 have i5:=i4.call SpE.mono g4
 obtain ⟨css,o5⟩:=i5.o
 obtain ⟨va,vcap,rfl,_⟩:=i5.form
 obtain ⟨k4,c4,rfl⟩:=s4.form
 refine goZ ?_
 refine appN x [.string ⟨x.s.toArray⟩,.string ⟨x.e.toArray⟩,.slice k4 x.ks.length c4] rw74 o5 ⟨_,rfl,s4⟩ rfl (.inl rfl) rfl rfl (by simp [Value.oneCell']) (by rw [take_len i2]; omega) i5.g.j fun v2 w2 o2 k2 n2 j2 _ => ?_
 refine goZ ?_
 refine hK2 _ _ (i+1,v2) ?_ ⟨hi,d4,?_⟩ (by simp only; omega)
 ·exact agZ
 ·rw [take_more hx]
  exact i5.more o2 k2 n2 j2
theorem toLevels_run {v:Value} {l:List (List Sp)} (hv:Sl LvE 1 d v l) (hl:l.length≤100000) (hs:∀ x ∈ l,x.length≤100000∧∀ y ∈ x,y.ks.length≤100000) (hinc:Inc d w) (hk:∀ d' w' v',Gr d w d' w'→Sl LvE 1 d' v' l→k v' w'):callK prog 19 #[v] k w:=by
 obtain ⟨ka,kc,rfl⟩:=hv.form
 refine callZ [.tmp 2] func19 ?_
 refine goZ ?_
 refine loopC (fun b:Nat × Value=>[(3,b.2),(6,.slice ka l.length kc),(7,.int .i64 l.length),(8,.int .i64 b.1)])
  (fun b w'=>b.1≤l.length∧∃ d1,LoopL LvE 1 74 d w d1 w' b.2 (l.take b.1)) (fun b _=>l.length - b.1) (0,.slice none 0 0) (by kernel_rfl) ?_ ⟨Nat.zero_le _,d,LoopL.nil hinc⟩ ?_
 ·exact agZ
 rintro K2 e ⟨i,v⟩ w1 ⟨i2,d1,i3⟩ hK2
 simp only at i2 i3
 rcases Nat.lt_or_ge i l.length with hi | hi
 rotate_left
 ·have hi':¬ (i:Int) < l.length:=by omega
  refine gY1 @hi' ?_
  obtain rfl:i=l.length:=by omega
  rw [List.take_length] at i3
  obtain ⟨d2,g2,_,_,s2⟩:=i3.done LvE.mono
  exact hk d2 w1 v g2 s2
 have hi':(i:Int) < l.length:=by omega
 obtain ⟨g,f,c,hv',hc,hat⟩:=(hv.inc LvE.mono i3.g.i).at (by omega)
 obtain ⟨rfl,rfl⟩:ka=some ⟨g,f,none⟩∧kc=c:=by simpa using hv'
 obtain ⟨x,hx⟩:∃ x,l[i]? = some x:=⟨_,List.getElem?_eq_getElem hi⟩
 obtain ⟨cs,_,hcs,hR⟩:=hat i x hx
 have hmem:=List.mem_of_getElem? hx
 obtain ⟨kv,rfl,hkv⟩:=hR
 obtain ⟨kva,kvc,rfl⟩:=hkv.form
 have h0:w1.cell? ⟨g,f+i * 1,none⟩=some (.slice kva x.length kvc):=i3.g.j _ _ _ (hcs 0 _ rfl)
 refine gY2 @hi' @h0 ?_
 refine toSpans_run hkv (hs x hmem).1 (hs x hmem).2 i3.g.j fun d4 w4 v4 g4 s4 => ?_
 have i5:=i3.call LvE.mono g4
 obtain ⟨css,o5⟩:=i5.o
 obtain ⟨va,vcap,rfl,_⟩:=i5.form
 obtain ⟨k4,c4,rfl⟩:=s4.form
 refine goZ ?_
 refine appN x [.slice k4 x.length c4] rw35 o5 ⟨_,rfl,s4⟩ rfl (.inl rfl) rfl rfl (by simp [Value.oneCell']) (by rw [take_len i2]; omega) i5.g.j fun v2 w2 o2 k2 n2 j2 _ => ?_
 refine goZ ?_
 refine hK2 _ _ (i+1,v2) ?_ ⟨hi,d4,?_⟩ (by simp only; omega)
 ·exact agZ
 ·rw [take_more hx]
  exact i5.more o2 k2 n2 j2
theorem toSteps_run {v:Value} {l:List (Nat × Bytes)} (hv:Sl StE 2 d v l) (hl:l.length≤100000) (hinc:Inc d w) (hk:∀ d' w' v',Gr d w d' w'→Sl StE 2 d' v' l→k v' w'):callK prog 20 #[v] k w:=by
 obtain ⟨ka,kc,rfl⟩:=hv.form
 refine callZ [.tmp 2] func20 ?_
 refine goZ ?_
 refine loopC (fun b:Nat × Value=>[(3,b.2),(6,.slice ka l.length kc),(7,.int .i64 l.length),(8,.int .i64 b.1)])
  (fun b w'=>b.1≤l.length∧∃ d1,LoopL StE 2 53 d w d1 w' b.2 (l.take b.1)) (fun b _=>l.length - b.1) (0,.slice none 0 0) (by kernel_rfl) ?_ ⟨Nat.zero_le _,d,LoopL.nil hinc⟩ ?_
 ·exact agZ
 rintro K2 e ⟨i,v⟩ w1 ⟨i2,d1,i3⟩ hK2
 simp only at i2 i3
 rcases Nat.lt_or_ge i l.length with hi | hi
 rotate_left
 ·have hi':¬ (i:Int) < l.length:=by omega
  refine gY1 @hi' ?_
  obtain rfl:i=l.length:=by omega
  rw [List.take_length] at i3
  obtain ⟨d2,g2,_,_,s2⟩:=i3.done StE.mono
  exact hk d2 w1 v g2 s2
 have hi':(i:Int) < l.length:=by omega
 obtain ⟨g,f,c,hv',hc,hat⟩:=(hv.inc StE.mono i3.g.i).at (by omega)
 obtain ⟨rfl,rfl⟩:ka=some ⟨g,f,none⟩∧kc=c:=by simpa using hv'
 obtain ⟨x,hx⟩:∃ x,l[i]? = some x:=⟨_,List.getElem?_eq_getElem hi⟩
 obtain ⟨cs,_,hcs,hR⟩:=hat i x hx
 have hmem:=List.mem_of_getElem? hx
 obtain ⟨rfl,htr⟩:=hR
 have h0:w1.cell? ⟨g,f+i * 2,none⟩=some (.int .u8 x.1):=i3.g.j _ _ _ (hcs 0 _ rfl)
 have h1:w1.cell? ⟨g,f+i * 2+1,none⟩=some (.string ⟨x.2.toArray⟩):=i3.g.j _ _ _ (hcs 1 _ rfl)
 obtain ⟨va,vcap,rfl,_⟩:=i3.form
 have i4:=i3.ext StE.mono (ext_alloc (.cells #[.int .u8 x.1,.string ⟨x.2.toArray⟩] 97))
 obtain ⟨css,o4⟩:=i4.o
 refine gY4 @hi' @h0 @h1 @cell_newN ?_
 refine appN x [.int .u8 x.1,.string ⟨x.2.toArray⟩] rw38 o4 ⟨rfl,htr⟩ rfl (.inl rfl) (World.size_alloc _ _).symm rfl (by simp [Value.oneCell']) (by rw [take_len i2]; omega) i4.g.j fun v2 w2 o2 k2 n2 j2 _ => ?_
 refine goZ ?_
 refine hK2 _ _ (i+1,v2) ?_ ⟨hi,d1,?_⟩ (by simp only; omega)
 ·exact agZ
 ·rw [take_more hx]
  exact i4.more o2 k2 n2 j2
end
end Go.Proofs
end
section
set_option maxRecDepth 10000
namespace Go.E
open Go Go.Sort Go.Proofs Go.Proofs.Tryz
def f3P (P : Program) (t : TypeId) (l : List (TypeId × Nat)) : Bool := (P.fieldsOf t).toList.map (fun f => (f.name != "_", f.type, f.offset)) == l.map fun x => (true, x.1, x.2)
theorem f3_88:f3P prog 88 [(23,0),(9,1),(9,2)]=true:=by kernel_rfl
theorem part1 {P:Program} {t:TypeId} {cs:Array Value} {off:Nat} {v:Value} (w:World) (h:partE P t cs off (fun u=>u=v)):(part t cs off).run P w = .ok v w:=by
 obtain ⟨u,h1,rfl⟩:=partE_run (w:=w) h
 exact h1
def vK (x:K):Array Value := #[.int .u64 x.tr,.string ⟨x.suf.toArray⟩,.string ⟨x.val.toArray⟩]
theorem eqK (x y:K) (w:World):(Op.equalIn 10000 88 (.agg (vK x)) (.agg (vK y))).run prog w = .ok (decide (x=y)) w:=by
 rw [show (10000:Nat)=9999+1 from rfl,run_equalIn_agg w 9999 88 _ _ (by kernel_rfl) (by kernel_rfl)]
 have hf:=f3_88
 unfold f3P at hf
 rw [beq_iff_eq] at hf
 generalize (prog.fieldsOf 88).toList=fs at hf ⊢
 rcases fs with _ | ⟨a,_ | ⟨b,_ | ⟨c,_ | ⟨e,r⟩⟩⟩⟩
 ·simp at hf
 ·simp at hf
 ·simp at hf
 ·simp only [List.map_cons,List.map_nil,List.cons.injEq,Prod.mk.injEq,and_true,bne_iff_ne] at hf
  obtain ⟨⟨n1,t1,o1⟩,⟨n2,t2,o2⟩,n3,t3,o3⟩:=hf
  have e1:∀ (u:K) w,(part 23 (vK u) 0).run prog w = .ok (.int .u64 u.tr) w:=fun u w=>part1 w rfl
  have e2:∀ (u:K) w,(part 9 (vK u) 1).run prog w = .ok (.string ⟨u.suf.toArray⟩) w:=fun u w=>part1 w rfl
  have e3:∀ (u:K) w,(part 9 (vK u) 2).run prog w = .ok (.string ⟨u.val.toArray⟩) w:=fun u w=>part1 w rfl
  have q1:∀ (u v:Int) w,(Op.equalIn 9999 23 (.int .u64 u) (.int .u64 v)).run prog w = .ok (u == v) w:=fun u v w=>run_equalIn_int w 9998 23 .u64 .u64 u v (by kernel_rfl)
  have q2:∀ (u v:ByteArray) w,(Op.equalIn 9999 9 (.string u) (.string v)).run prog w = .ok (u.toList == v.toList) w:=fun u v w=>run_equalIn_string w 9998 9 u v (by kernel_rfl)
  simp only [Op.eqFields,n1,n2,n3,t1,t2,t3,o1,o2,o3,if_true,if_pos,ne_eq,not_false_eq_true,Sem.run_bind,Sem.run_ite,e1,e2,e3,q1,q2,Result.andThen_ok,Sem.run_pure,ByteArray.toList_mk]
  obtain ⟨xt,xs,xv⟩:=x
  obtain ⟨yt,ys,yv⟩:=y
  simp only [K.mk.injEq]
  by_cases g1:xt=yt
  ·by_cases g2:xs=ys
   ·by_cases g3:xv=yv
    ·simp [g1,g2,g3]
    ·simp [g1,g2,g3]
   ·simp [g1,g2]
  ·have:((xt:Int) == yt)=false:=beq_false_of_ne (by omega)
   simp [g1]
   omega
 ·simp at hf
theorem binE_neK {xo yo:Operand} {x y:K} {q:Value→Prop} (h:q (.bool (decide (x≠y)))):binE prog .neq 88 xo yo (.agg #[.int .u64 x.tr,.string ⟨x.suf.toArray⟩,.string ⟨x.val.toArray⟩]) (.agg #[.int .u64 y.tr,.string ⟨y.suf.toArray⟩,.string ⟨y.val.toArray⟩]) q:=by
 refine ⟨decide (x≠y),fun w => ?_,h⟩
 show (do eqGuard .neq 88 xo yo (.agg (vK x)) (.agg (vK y)); binOp .neq 88 (.agg (vK x)) (.agg (vK y)):Sem Value).run prog w=_
 have h1:=run_eqGuard_agg w .neq 88 xo yo (vK x) (vK y) (show prog.eqGuardType prog.depth 88=false by kernel_rfl)
 simp only [Sem.run_bind,h1,Result.andThen_ok,run_neq_struct,eqK]
 simp
end Go.E
namespace Go.Proofs
open Go Go.E Go.Sort Go.Proofs.Tryz
section
variable {k:Kont} {d w:World}
theorem sameKeys_run {va vb:Value} {a b:List K} (ha:Sl KE 3 w va a) (hb:Sl KE 3 w vb b) (hl:b.length≤2147483647) (hk:∀ w2,Ext w w2→k (.bool (decide (a=b))) w2):callK prog 62 #[va,vb] k w:=by
 obtain ⟨aa,ac,rfl⟩:=ha.form
 obtain ⟨ba,bc,rfl⟩:=hb.form
 refine callZ [.tmp 4] func62 ?_
 by_cases hlen:a.length=b.length
 rotate_left
 ·have h1:((a.length:Int) != b.length)=true:=by simp; omega
  refine gY1 @h1 ?_
  have:=hk w (Ext.refl _)
  rwa [decide_eq_false (fun h=>hlen (by rw [h]))] at this
 have h1:((a.length:Int) != b.length)=false:=by simp; omega
 refine gY1 @h1 ?_
 refine loopC (fun i:Nat=>[(1,.slice ba b.length bc),(12,.slice aa a.length ac),(13,.int .i64 a.length),(14,.int .i64 i)])
  (fun i w'=>i≤a.length∧Ext w w'∧a.take i=b.take i) (fun i _=>a.length - i) 0 (by kernel_rfl) ?_ ⟨Nat.zero_le _,Ext.refl _,rfl⟩ ?_
 ·exact agZ
 rintro K2 e i w1 ⟨i2,i3,i4⟩ hK2
 rcases Nat.lt_or_ge i a.length with hi | hi
 rotate_left
 ·have hi':¬ (i:Int) < a.length:=by omega
  refine gY1 @hi' ?_
  obtain rfl:i=a.length:=by omega
  rw [List.take_length,hlen,List.take_length] at i4
  have:=hk w1 i3
  rwa [decide_eq_true i4] at this
 have hi':(i:Int) < a.length:=by omega
 obtain ⟨g,f,c,hv',hc,hat⟩:=(ha.inc KE.mono i3.inc).at (by omega)
 obtain ⟨rfl,rfl⟩:aa=some ⟨g,f,none⟩∧ac=c:=by simpa using hv'
 obtain ⟨g2,f2,c2,hv2,hc2,hat2⟩:=(hb.inc KE.mono i3.inc).at (by omega)
 obtain ⟨rfl,rfl⟩:ba=some ⟨g2,f2,none⟩∧bc=c2:=by simpa using hv2
 obtain ⟨x,hx⟩:∃ x,a[i]? = some x:=⟨_,List.getElem?_eq_getElem hi⟩
 obtain ⟨y,hy⟩:∃ y,b[i]? = some y:=⟨_,List.getElem?_eq_getElem (by omega)⟩
 obtain ⟨h0,h1,h2,h3⟩:=cells_ke (hat i x hx)
 obtain ⟨p0,p1,p2,p3⟩:=cells_ke (hat2 i y hy)
 have x4:=ext_alloc (w:=w1) (.cells #[.int .u64 x.tr,.string ⟨x.suf.toArray⟩,.string ⟨x.val.toArray⟩] 88)
 have p0:=x4.cell p0
 have p1:=x4.cell p1
 have p2:=x4.cell p2
 have hib:(i:Int) < b.length:=by omega
 refine gY4 @hi' @h0 @h1 @h2 ?_
 refine drawZ (.read 0 (sq [1,2,3] (.read 4 (sq [5] .done)))) ?_
 refine gY5 @hib @p0 @p1 @p2 @cell_newN ?_
 refine binE_neK ?_
 by_cases hxy:x=y
 ·rw [decide_eq_false (fun h=>h hxy)]
  refine goZ ?_
  refine hK2 _ _ (i+1) ?_ ⟨hi,Ext.drew' (i3.trans x4),by rw [take_more hx,take_more hy,i4,hxy]⟩ (by omega)
  exact agZ
 ·rw [decide_eq_true hxy]
  refine goZ ?_
  have:=hk _ (Ext.drew' (i3.trans x4))
  rwa [decide_eq_false (fun h=>hxy (by rw [h,hy] at hx; exact (Option.some.inj hx).symm))] at this
end
end Go.Proofs
end
section
set_option maxRecDepth 10000
namespace Go.Proofs
open Go Go.E Go.Sort Go.Proofs.Tryz
section
variable {k:Kont} {d w:World}
theorem sameKeys2_run {va vb:Value} {a b:List K} (ha:Sl KE 3 w va a) (hb:Sl KE 3 w vb b) (hl:b.length≤2147483647) (hk:∀ w2,Ext w w2→k (.bool (decide (a=b))) w2):callK prog 113 #[va,vb] k w:=by
 obtain ⟨aa,ac,rfl⟩:=ha.form
 obtain ⟨ba,bc,rfl⟩:=hb.form
 refine callZ [.tmp 4] func113 ?_
 by_cases hlen:a.length=b.length
 rotate_left
 ·have h1:((a.length:Int) != b.length)=true:=by simp; omega
  refine gY1 @h1 ?_
  have:=hk w (Ext.refl _)
  rwa [decide_eq_false (fun h=>hlen (by rw [h]))] at this
 have h1:((a.length:Int) != b.length)=false:=by simp; omega
 refine gY1 @h1 ?_
 refine loopC (fun i:Nat=>[(1,.slice ba b.length bc),(12,.slice aa a.length ac),(13,.int .i64 a.length),(14,.int .i64 i)])
  (fun i w'=>i≤a.length∧Ext w w'∧a.take i=b.take i) (fun i _=>a.length - i) 0 (by kernel_rfl) ?_ ⟨Nat.zero_le _,Ext.refl _,rfl⟩ ?_
 ·exact agZ
 rintro K2 e i w1 ⟨i2,i3,i4⟩ hK2
 rcases Nat.lt_or_ge i a.length with hi | hi
 rotate_left
 ·have hi':¬ (i:Int) < a.length:=by omega
  refine gY1 @hi' ?_
  obtain rfl:i=a.length:=by omega
  rw [List.take_length,hlen,List.take_length] at i4
  have:=hk w1 i3
  rwa [decide_eq_true i4] at this
 have hi':(i:Int) < a.length:=by omega
 obtain ⟨g,f,c,hv',hc,hat⟩:=(ha.inc KE.mono i3.inc).at (by omega)
 obtain ⟨rfl,rfl⟩:aa=some ⟨g,f,none⟩∧ac=c:=by simpa using hv'
 obtain ⟨g2,f2,c2,hv2,hc2,hat2⟩:=(hb.inc KE.mono i3.inc).at (by omega)
 obtain ⟨rfl,rfl⟩:ba=some ⟨g2,f2,none⟩∧bc=c2:=by simpa using hv2
 obtain ⟨x,hx⟩:∃ x,a[i]? = some x:=⟨_,List.getElem?_eq_getElem hi⟩
 obtain ⟨y,hy⟩:∃ y,b[i]? = some y:=⟨_,List.getElem?_eq_getElem (by omega)⟩
 obtain ⟨h0,h1,h2,h3⟩:=cells_ke (hat i x hx)
 obtain ⟨p0,p1,p2,p3⟩:=cells_ke (hat2 i y hy)
 have x4:=ext_alloc (w:=w1) (.cells #[.int .u64 x.tr,.string ⟨x.suf.toArray⟩,.string ⟨x.val.toArray⟩] 88)
 have p0:=x4.cell p0
 have p1:=x4.cell p1
 have p2:=x4.cell p2
 have hib:(i:Int) < b.length:=by omega
 refine gY4 @hi' @h0 @h1 @h2 ?_
 refine drawZ (.read 0 (sq [1,2,3] (.read 4 (sq [5] .done)))) ?_
 refine gY5 @hib @p0 @p1 @p2 @cell_newN ?_
 refine binE_neK ?_
 by_cases hxy:x=y
 ·rw [decide_eq_false (fun h=>h hxy)]
  refine goZ ?_
  refine hK2 _ _ (i+1) ?_ ⟨hi,Ext.drew' (i3.trans x4),by rw [take_more hx,take_more hy,i4,hxy]⟩ (by omega)
  exact agZ
 ·rw [decide_eq_true hxy]
  refine goZ ?_
  have:=hk _ (Ext.drew' (i3.trans x4))
  rwa [decide_eq_false (fun h=>hxy (by rw [h,hy] at hx; exact (Option.some.inj hx).symm))] at this
theorem sameSpan_run {va vb:Value} {a b:Sp} (ha:Sl KE 3 w va a.ks) (hb:Sl KE 3 w vb b.ks) (hl:b.ks.length≤2147483647) (hk:∀ w2,Ext w w2→k (.bool (decide (a=b))) w2) :
    callK prog 76 #[.agg #[.string ⟨a.s.toArray⟩,.string ⟨a.e.toArray⟩,va],.agg #[.string ⟨b.s.toArray⟩,.string ⟨b.e.toArray⟩,vb]] k w:=by
 obtain ⟨aa,ac,rfl⟩:=ha.form
 obtain ⟨ba,bc,rfl⟩:=hb.form
 have xA:=(ext_alloc (w:=w) (.cells #[.string ⟨a.s.toArray⟩,.string ⟨a.e.toArray⟩,.slice aa a.ks.length ac] 46)).trans (ext_alloc (.cells #[.string ⟨b.s.toArray⟩,.string ⟨b.e.toArray⟩,.slice ba b.ks.length bc] 46))
 have no:¬ (a.s=b.s∧a.e=b.e)→decide (a=b)=false:=fun h=>decide_eq_false fun h2=>h (by rw [h2]; exact ⟨rfl,rfl⟩)
 refine callZ [.tmp 4] func76 ?_
 by_cases h1:a.s=b.s
 rotate_left
 ·have g1:=decide_eq_false h1
  refine gY2 @cell_newN @g1 ?_
  have:=hk _ xA
  rwa [no fun h=>h1 h.1] at this
 have g1:=decide_eq_true h1
 by_cases h2:a.e=b.e
 rotate_left
 ·have g2:=decide_eq_false h2
  refine gY3 @cell_newN @g1 @g2 ?_
  have:=hk _ xA
  rwa [no fun h=>h2 h.2] at this
 have g2:=decide_eq_true h2
 refine gY3 @cell_newN @g1 @g2 ?_
 refine sameKeys2_run (ha.inc KE.mono xA.inc) (hb.inc KE.mono xA.inc) hl fun w2 x2 => ?_
 have:=hk _ (xA.trans x2)
 have e:decide (a=b)=decide (a.ks=b.ks):=by
  obtain ⟨s1,e1,k1⟩:=a
  obtain ⟨s2,e2,k2⟩:=b
  simp only at h1 h2
  subst h1 h2
  simp [Bool.eq_iff_iff]
 rw [e] at this
 refine goZ ?_
 exact this
theorem sameSpans_run {va vb:Value} {a b:List Sp} (ha:Sl SpE 3 w va a) (hb:Sl SpE 3 w vb b) (hl:b.length≤2147483647) (hks:∀ x ∈ b,x.ks.length≤2147483647) (hk:∀ w2,Ext w w2→k (.bool (decide (a=b))) w2):callK prog 33 #[va,vb] k w:=by
 obtain ⟨aa,ac,rfl⟩:=ha.form
 obtain ⟨ba,bc,rfl⟩:=hb.form
 refine callZ [.tmp 4] func33 ?_
 by_cases hlen:a.length=b.length
 rotate_left
 ·have h1:((a.length:Int) != b.length)=true:=by simp; omega
  refine gY1 @h1 ?_
  have:=hk w (Ext.refl _)
  rwa [decide_eq_false (fun h=>hlen (by rw [h]))] at this
 have h1:((a.length:Int) != b.length)=false:=by simp; omega
 refine gY1 @h1 ?_
 refine loopC (fun i:Nat=>[(1,.slice ba b.length bc),(12,.slice aa a.length ac),(13,.int .i64 a.length),(14,.int .i64 i)])
  (fun i w'=>i≤a.length∧Ext w w'∧a.take i=b.take i) (fun i _=>a.length - i) 0 (by kernel_rfl) ?_ ⟨Nat.zero_le _,Ext.refl _,rfl⟩ ?_
 ·exact agZ
 rintro K2 e i w1 ⟨i2,i3,i4⟩ hK2
 rcases Nat.lt_or_ge i a.length with hi | hi
 rotate_left
 ·have hi':¬ (i:Int) < a.length:=by omega
  refine gY1 @hi' ?_
  obtain rfl:i=a.length:=by omega
  rw [List.take_length,hlen,List.take_length] at i4
  have:=hk w1 i3
  rwa [decide_eq_true i4] at this
 have hi':(i:Int) < a.length:=by omega
 obtain ⟨g,f,c,hv',hc,hat⟩:=(ha.inc SpE.mono i3.inc).at (by omega)
 obtain ⟨rfl,rfl⟩:aa=some ⟨g,f,none⟩∧ac=c:=by simpa using hv'
 obtain ⟨g2,f2,c2,hv2,hc2,hat2⟩:=(hb.inc SpE.mono i3.inc).at (by omega)
 obtain ⟨rfl,rfl⟩:ba=some ⟨g2,f2,none⟩∧bc=c2:=by simpa using hv2
 obtain ⟨x,hx⟩:∃ x,a[i]? = some x:=⟨_,List.getElem?_eq_getElem hi⟩
 obtain ⟨y,hy⟩:∃ y,b[i]? = some y:=⟨_,List.getElem?_eq_getElem (by omega)⟩
 obtain ⟨h0,h1,xa,xc,h2,hxk⟩:=cells_spe (hat i x hx)
 obtain ⟨p0,p1,ya,yc,p2,hyk⟩:=cells_spe (hat2 i y hy)
 obtain ⟨S,hS⟩:∃ S,S=w1.heap.size:=⟨_,rfl⟩
 obtain ⟨w4,hw4⟩:∃ w4,w4=(w1.alloc (.cells #[.string ⟨x.s.toArray⟩,.string ⟨x.e.toArray⟩,.slice xa x.ks.length xc] 46)).drew:=⟨_,rfl⟩
 have x4:Ext w1 w4:=by rw [hw4]; exact Ext.drew' (ext_alloc _)
 have c0:w4.cell? ⟨S,0,none⟩=some (.string ⟨x.s.toArray⟩):=by rw [hw4,hS]; exact eY1 @cell_newN
 have c1:w4.cell? ⟨S,1,none⟩=some (.string ⟨x.e.toArray⟩):=by rw [hw4,hS]; exact eY1 @cell_newN
 have c2:w4.cell? ⟨S,2,none⟩=some (.slice xa x.ks.length xc):=by rw [hw4,hS]; exact eY1 @cell_newN
 have p0:=x4.cell p0
 have p1:=x4.cell p1
 have p2:=x4.cell p2
 have hib:(i:Int) < b.length:=by omega
 refine gY4 @hi' @h0 @h1 @h2 ?_
 refine drawZ (.read 0 (sq [1,2,3] (.read 4 (.eff 5 [] (sq [6] .done))))) ?_
 rw [← hS,← hw4]
 refine gY7 @hib @p0 @p1 @p2 @c0 @c1 @c2 ?_
 refine sameSpan_run (a:=x) (b:=y) (hxk.inc KE.mono x4.inc) (hyk.inc KE.mono x4.inc) (hks y (List.mem_of_getElem? hy)) fun w5 x5 => ?_
 by_cases hxy:x=y
 ·rw [decide_eq_true hxy]
  refine gY6 (x5.cell p0) (x5.cell p1) (x5.cell p2) (x5.cell c0) (x5.cell c1) (x5.cell c2) ?_
  refine hK2 _ _ (i+1) ?_ ⟨hi,i3.trans (x4.trans x5),by rw [take_more hx,take_more hy,i4,hxy]⟩ (by omega)
  exact agZ
 ·rw [decide_eq_false hxy]
  refine gY6 (x5.cell p0) (x5.cell p1) (x5.cell p2) (x5.cell c0) (x5.cell c1) (x5.cell c2) ?_
  have:=hk _ (i3.trans (x4.trans x5))
  rwa [decide_eq_false (fun h=>hxy (by rw [h,hy] at hx; exact (Option.some.inj hx).symm))] at this
theorem rangeSets_run {v:Value} {l:List Sp} (hv:Sl SpE 3 w v l) (hl:l.length≤2147483647) (hks:∀ x ∈ l,x.ks.length≤2147483647) (hset:∀ x ∈ l,∀ y ∈ x.ks,kindT y.tr=21) (hk:∀ w2,Ext w w2→k (.bool true) w2):callK prog 63 #[v] k w:=by
 obtain ⟨ka,kc,rfl⟩:=hv.form
 refine callZ [.tmp 2] func63 ?_
 refine goZ ?_
 refine loopC (fun i:Nat=>[(2,.bool false),(7,.slice ka l.length kc),(8,.int .i64 l.length),(9,.int .i64 i)])
  (fun i w'=>i≤l.length∧Ext w w') (fun i _=>l.length - i) 0 (by kernel_rfl) ?_ ⟨Nat.zero_le _,Ext.refl _⟩ ?_
 ·exact agZ
 rintro K2 e i w1 ⟨i2,i3⟩ hK2
 rcases Nat.lt_or_ge i l.length with hi | hi
 rotate_left
 ·have hi':¬ (i:Int) < l.length:=by omega
  refine gY1 @hi' ?_
  exact hk _ i3
 have hi':(i:Int) < l.length:=by omega
 obtain ⟨g,f,c,hv',hc,hat⟩:=(hv.inc SpE.mono i3.inc).at (by omega)
 obtain ⟨rfl,rfl⟩:ka=some ⟨g,f,none⟩∧kc=c:=by simpa using hv'
 obtain ⟨x,hx⟩:∃ x,l[i]? = some x:=⟨_,List.getElem?_eq_getElem hi⟩
 have hxm:=List.mem_of_getElem? hx
 obtain ⟨h0,h1,a,cc,h2,hxk⟩:=cells_spe (hat i x hx)
 have hxl:=hks x hxm
 have hxs:=hset x hxm
 have x4:=ext_alloc (w:=w1) (.cells #[.string ⟨x.s.toArray⟩,.string ⟨x.e.toArray⟩,.slice a x.ks.length cc] 56)
 have hxk:=hxk.inc KE.mono x4.inc
 refine gY5 @hi' @h0 @h1 @h2 @cell_newN ?_
 refine loopC (fun j:Nat=>[(2,.bool false),(7,.slice (some ⟨g,f,none⟩) l.length kc),(8,.int .i64 l.length),(9,.int .i64 i),(14,.slice a x.ks.length cc),(15,.int .i64 x.ks.length),(16,.int .i64 j)])
  (fun j w'=>j≤x.ks.length∧Ext (w1.alloc (.cells #[.string ⟨x.s.toArray⟩,.string ⟨x.e.toArray⟩,.slice a x.ks.length cc] 56)) w') (fun j _=>x.ks.length - j) 0 (by kernel_rfl) ?_ ⟨Nat.zero_le _,Ext.refl _⟩ ?_
 ·exact agZ
 rintro K3 e3 j w3 ⟨j2,j3⟩ hK3
 rcases Nat.lt_or_ge j x.ks.length with hj | hj
 rotate_left
 ·have hj':¬ (j:Int) < x.ks.length:=by omega
  refine gY1 @hj' ?_
  refine hK2 _ _ (i+1) ?_ ⟨hi,i3.trans (x4.trans j3)⟩ (by omega)
  exact agZ
 have hj':(j:Int) < x.ks.length:=by omega
 obtain ⟨g2,f2,c2,hv2,hc2,hat2⟩:=(hxk.inc KE.mono j3.inc).at (by omega)
 obtain ⟨rfl,rfl⟩:a=some ⟨g2,f2,none⟩∧cc=c2:=by simpa using hv2
 obtain ⟨y,hy⟩:∃ y,x.ks[j]? = some y:=⟨_,List.getElem?_eq_getElem hj⟩
 obtain ⟨p0,p1,p2,p3⟩:=cells_ke (hat2 j y hy)
 have x5:=ext_alloc (w:=w3) (.cells #[.int .u64 y.tr,.string ⟨y.suf.toArray⟩,.string ⟨y.val.toArray⟩] 62)
 have h21:((kindT y.tr:Int) != 21)=false:=by have:=hxs y (List.mem_of_getElem? hy); simp; omega
 refine gY5 @hj' @p0 @p1 @p2 @cell_newN ?_
 refine kind_run ?_
 refine gY1 @h21 ?_
 refine hK3 _ _ (j+1) ?_ ⟨hj,j3.trans x5⟩ (by omega)
 exact agZ
end
end Go.Proofs
end
section
set_option maxRecDepth 10000
namespace Go.E
open Go Go.Sort Go.Proofs Go.Proofs.Tryz
theorem bareS_eqn (x:Sp):bareS x=⟨x.s,x.e,x.ks.map fun y=>bareK y.sv⟩:=by
 unfold bareS
 rw [List.map_map]
 rfl
end Go.E
namespace Go.Proofs
open Go Go.E Go.Sort Go.Proofs.Tryz
section
variable {k:Kont} {d w:World}
theorem rangeBare_run {v:Value} {l:List Sp} (hv:Sl SpE 3 d v l) (hl:l.length≤100000) (hks:∀ x ∈ l,x.ks.length≤1000000) (hinc:Inc d w) (hk:∀ d' w' v',Gr d w d' w'→Sl SpE 3 d' v' (l.map bareS)→k v' w'):callK prog 38 #[v] k w:=by
 obtain ⟨ka,kc,rfl⟩:=hv.form
 refine callZ [.tmp 2] func38 ?_
 refine goZ ?_
 refine loopC (fun b:Nat × Value=>[(3,b.2),(9,.slice ka l.length kc),(10,.int .i64 l.length),(11,.int .i64 b.1)])
  (fun b w'=>b.1≤l.length∧∃ d1,LoopL SpE 3 46 d w d1 w' b.2 ((l.take b.1).map bareS)) (fun b _=>l.length - b.1) (0,.slice none 0 0) (by kernel_rfl) ?_ ⟨Nat.zero_le _,d,LoopL.nil hinc⟩ ?_
 ·exact agZ
 rintro K2 e ⟨i,vo⟩ w1 ⟨i2,d1,i3⟩ hK2
 simp only at i2 i3
 rcases Nat.lt_or_ge i l.length with hi | hi
 rotate_left
 ·have hi':¬ (i:Int) < l.length:=by omega
  refine gY1 @hi' ?_
  obtain rfl:i=l.length:=by omega
  rw [List.take_length] at i3
  obtain ⟨d4,g4,_,_,s4⟩:=i3.done SpE.mono
  exact hk d4 w1 vo g4 s4
 have hi':(i:Int) < l.length:=by omega
 obtain ⟨g,f,c,hv',hc,hat⟩:=(hv.inc SpE.mono (i3.g.i.trans i3.g.j)).at (by omega)
 obtain ⟨rfl,rfl⟩:ka=some ⟨g,f,none⟩∧kc=c:=by simpa using hv'
 obtain ⟨x,hx⟩:∃ x,l[i]? = some x:=⟨_,List.getElem?_eq_getElem hi⟩
 have hxm:=List.mem_of_getElem? hx
 have hxl:=hks x hxm
 obtain ⟨h0,h1,a,cc,h2,hkx⟩:=cells_spe (hat i x hx)
 obtain ⟨B,hB⟩:∃ B,B=w1.heap.size:=⟨_,rfl⟩
 obtain ⟨w4,hw4⟩:∃ w4,w4=((((w1.alloc (.cells #[.string ⟨x.s.toArray⟩,.string ⟨x.e.toArray⟩,.slice a x.ks.length cc] 56)).alloc (.cells #[.string ByteArray.empty,.string ByteArray.empty,.slice none 0 0] 46)).setCell ⟨w1.heap.size+1,0,none⟩ (.string ⟨x.s.toArray⟩)).setCell ⟨w1.heap.size+1,1,none⟩ (.string ⟨x.e.toArray⟩)).setCell ⟨w1.heap.size+1,2,none⟩ (.slice none 0 0):=⟨_,rfl⟩
 have x4:Ext w1 w4:=by rw [hw4]; exact ext_set (ext_set (ext_set ((ext_alloc _).trans (ext_alloc _)) (by omega)) (by omega)) (by omega)
 have z4:w4.heap.size=B+2:=by rw [hw4,hB]; simp only [World.size_setCell,World.size_alloc]
 have c0:w4.cell? ⟨B+1,0,none⟩=some (.string ⟨x.s.toArray⟩):=by rw [hw4,hB]; exact eY1 @cell_newN
 have c1:w4.cell? ⟨B+1,1,none⟩=some (.string ⟨x.e.toArray⟩):=by rw [hw4,hB]; exact eY1 @cell_newN
 have c2:w4.cell? ⟨B+1,2,none⟩=some (.slice none 0 0):=by rw [hw4,hB]; exact eY1 @cell_newN
 have f4:∀ y,w4.frozen? ⟨B+1,y,none⟩=false:=fun y=>by rw [hw4,hB]; exact eY1 @frozen_newN
 refine gY6 @hi' @h0 @h1 @h2 @cell_newN @frozen_newN ?_
 rw [← hw4,← hB]
 refine cutL (fun _:Unit=>[(3,vo),(6,.pointer (some ⟨B+1,0,none⟩)),(9,.slice (some ⟨g,f,none⟩) l.length kc),(10,.int .i64 l.length),(11,.int .i64 i)])
  (fun _ w'=>Ext w1 w'∧w'.cell? ⟨B+1,0,none⟩=some (.string ⟨x.s.toArray⟩)∧w'.cell? ⟨B+1,1,none⟩=some (.string ⟨x.e.toArray⟩)∧∃ v,w'.cell? ⟨B+1,2,none⟩=some v∧OwnC kce 3 88 w' v (x.ks.map fun y=>bareK y.sv)∧∀ g,v.ownBlock=some g→w1.heap.size≤g) (by kernel_rfl) (fun K hK => ?_) ?_
 ·refine loopC (fun j:Nat=>[(3,vo),(6,.pointer (some ⟨B+1,0,none⟩)),(9,.slice (some ⟨g,f,none⟩) l.length kc),(10,.int .i64 l.length),(11,.int .i64 i),(21,.slice a x.ks.length cc),(22,.int .i64 x.ks.length),(23,.int .i64 j)])
    (fun j w'=>j≤x.ks.length∧Ext w1 w'∧w'.cell? ⟨B+1,0,none⟩=some (.string ⟨x.s.toArray⟩)∧w'.cell? ⟨B+1,1,none⟩=some (.string ⟨x.e.toArray⟩)∧(∀ y,w'.frozen? ⟨B+1,y,none⟩=false) ∧
     ∃ v,w'.cell? ⟨B+1,2,none⟩=some v∧OwnC kce 3 88 w' v ((x.ks.take j).map fun y=>bareK y.sv)∧∀ g,v.ownBlock=some g→B+1 < g) (fun j _=>x.ks.length - j) 0 (by kernel_rfl) ?_
     ⟨Nat.zero_le _,x4,c0,c1,f4,_,c2,OwnC.nil kce_len,by simp [Value.ownBlock]⟩ ?_
  ·exact agZ
  rintro K3 e3 j w6 ⟨j1,j2,j4,j5,j6,v,j8,j9,j10⟩ hK3
  have hS6:=lt_of_cell j8
  rcases Nat.lt_or_ge j x.ks.length with hj | hj
  rotate_left
  ·have hj':¬ (j:Int) < x.ks.length:=by omega
   refine gY1 @hj' ?_
   obtain rfl:j=x.ks.length:=by omega
   rw [List.take_length] at j9
   refine hK _ _ () ?_ ⟨j2,j4,j5,v,j8,j9,fun g hg=>by have:=j10 g hg; omega⟩
   exact agZ
  have hj':(j:Int) < x.ks.length:=by omega
  obtain ⟨g2,f2,cc2,hv2,hc2,hat2⟩:=(hkx.inc KE.mono j2.inc).at (by omega)
  obtain ⟨rfl,rfl⟩:a=some ⟨g2,f2,none⟩∧cc=cc2:=by simpa using hv2
  obtain ⟨y,hy⟩:∃ y,x.ks[j]? = some y:=⟨_,List.getElem?_eq_getElem hj⟩
  obtain ⟨p0,p1,p2,p3⟩:=cells_ke (hat2 j y hy)
  obtain ⟨w7,hw7⟩:∃ w7,w7=w6.alloc (.cells #[.int .u64 y.tr,.string ⟨y.suf.toArray⟩,.string ⟨y.val.toArray⟩] 62):=⟨_,rfl⟩
  have x7:Ext w6 w7:=by rw [hw7]; exact ext_alloc _
  have j8':=x7.cell j8
  obtain ⟨va,vc,rfl,_⟩:=j9.form
  refine gY6 @hj' @p0 @p1 @p2 @j8 @cell_newN ?_
  rw [← hw7]
  refine appC1 (bareK y.sv) rw44 (j9.ext x7) rfl (.inl rfl) (by rw [hw7,World.size_alloc]) (kce_one _) (by rw [List.length_map,take_len j1]; omega) fun v8 w8 o8 k8 n8 => ?_
  have j10':∀ g,v8.ownBlock=some g→B+1 < g:=fun g hg=>by
   rcases n8 g hg with h | h
   ·exact j10 g h
   ·have:=x7.size; omega
  have nS:(Value.slice va ((x.ks.take j).map fun y=>bareK y.sv).length vc).ownBlock≠some (B+1):=fun h=>by have:=j10 _ h; omega
  have q2:=k8.some j8' nS
  have f8:∀ y,w8.frozen? ⟨B+1,y,none⟩=false:=fun y=>by rw [k8.frozen _ y (by have:=x7.size; omega),x7.frozen _ y hS6]; exact j6 y
  obtain ⟨va8,vc8,rfl,_⟩:=o8.form
  refine gY2 @q2 @f8 ?_
  have k9:Keep (fun b y=>b=B+1∧y=2) w8 (w8.setCell ⟨B+1,2,none⟩ (.slice va8 (((x.ks.take j).map fun y=>bareK y.sv)++[bareK y.sv]).length vc8)):=keep_set ⟨rfl,rfl⟩
  refine hK3 _ _ (j+1) ?_ ⟨hj,ext_set ((j2.trans x7).tr k8 fun b o hb h=>by have:=j10 b h; omega) (by omega),k9.some (k8.some (x7.cell j4) nS) (by omega),k9.some (k8.some (x7.cell j5) nS) (by omega),fun y=>by rw [World.frozen?_setCell]; exact f8 y,
   _,by rw [cell_self,q2]; rfl,?_,j10'⟩ (by omega)
  ·exact agZ
  ·rw [take_more hy,List.map_append]
   exact o8.keep k9 fun g hg o h=>by have:=j10' g hg; omega
 rintro e _ w6 ⟨j2,c0,c1,v,c2,o6,n6⟩
 obtain ⟨d5,g5,e5⟩:=grAll i3.g.j j2
 have i6:=i3.call SpE.mono g5
 have hsl:Sl KE 3 d5 v (x.ks.map fun y=>bareK y.sv):=o6.slg (fun y hy=>by
  obtain ⟨p,_,rfl⟩:=List.mem_map.1 hy
  exact ⟨rfl,show (0:Nat) < _ by decide⟩) fun g hg o u hu=>e5 _ _ _ (n6 g hg) hu
 obtain ⟨va,vc,rfl,_⟩:=o6.form
 obtain ⟨vo1,vo2,rfl,_⟩:=i6.form
 obtain ⟨css,oo⟩:=i6.o
 refine gY3 @c0 @c1 @c2 ?_
 refine appN (bareS x) [.string ⟨x.s.toArray⟩,.string ⟨x.e.toArray⟩,.slice va (x.ks.map fun y=>bareK y.sv).length vc] rw28 oo (by rw [bareS_eqn]; exact ⟨_,rfl,hsl⟩) rfl (.inl rfl) rfl rfl (by simp [Value.oneCell']) (by rw [List.length_map,take_len i2]; omega) i6.g.j fun v8 w8 o8 k8 n8 j8 _ => ?_
 refine goZ ?_
 refine hK2 _ _ (i+1,v8) ?_ ⟨hi,d5,by simp only; rw [take_more hx,List.map_append]; exact i6.more o8 k8 n8 j8⟩ (by simp only; omega)
 exact agZ
end
end Go.Proofs
end
section
set_option maxRecDepth 10000
namespace Go.E
open Go Go.Sort Go.Proofs Go.Proofs.Tryz
def sp0:Sp:=⟨[97],[98],[⟨277,[115],[]⟩]⟩
def lv0:List (List Sp):=[[sp0]]
theorem frags0:fragsP lv0.flatten=[sp0]:=by decide +kernel
theorem view0:viewP lv0.flatten 2 none none=[⟨[97],[98],[⟨0,[115],[]⟩]⟩]:=by decide +kernel
theorem slOne {α:Type} {R:Elem α} {sz N:Nat} {d:World} {cs:List Value} {x:α} (hl:cs.length=sz) (hc:∀ (j:Nat) u,cs[j]? = some u→d.cell? ⟨N,j,none⟩=some u) (hR:R d cs x):Sl R sz d (.slice (some ⟨N,0,none⟩) 1 1) [x]:=by
 refine ⟨fun _=>rfl,rfl,Nat.le_refl _,fun i y hy => ?_⟩
 rcases i with _ | i
 ·obtain rfl:x=y:=by simpa using hy
  refine ⟨cs,hl,fun j u hu => ?_,hR⟩
  rw [show 0+0 * sz+j=j by omega]
  exact hc j u hu
 ·simp at hy
theorem wf0:Wf [sp0]:=by
 refine ⟨fun i hi => ?_,fun i j h1 h2 => ?_⟩
 ·obtain rfl:i=0:=by simp at hi; omega
  decide
 ·simp at h2; omega
theorem lvOk0:LvOk lv0 8:=by
 have h1:∀ L ∈ lv0,L=[sp0]:=fun L h=>by simpa [lv0] using h
 refine ⟨by decide,fun L h=>by rw [h1 L h]; decide,fun L h=>by rw [h1 L h]; exact wf0,fun L h s hs => ?_,fun f hf => ?_⟩
 ·rw [h1 L h] at hs
  rw [List.mem_singleton.1 hs]
  exact ⟨by simp [sp0],by decide⟩
 ·rw [frags0] at hf
  rw [List.mem_singleton.1 hf]
  refine ⟨fun x hx => ?_,by simp [sp0]⟩
  have:x=⟨277,[115],[]⟩:=by simpa [sp0] using hx
  subst this
  exact ⟨.inr (.inr (by decide)),fun h=>by simp [kindT] at h,fun h=>by simp [kindT] at h⟩
theorem rin0:RIn lv0 2 none none:=by
 have h1:∀ L ∈ lv0,L=[sp0]:=fun L h=>by simpa [lv0] using h
 refine ⟨by decide,by decide,lvOk0.wf,fun L h => ?_,lvOk0.cdF,?_⟩
 ·rw [h1 L h]
  refine ⟨by decide,fun s hs => ?_⟩
  rw [List.mem_singleton.1 hs]
  refine ⟨by decide,by decide,by decide,by simp [sp0],fun x hx => ?_⟩
  have:x=⟨277,[115],[]⟩:=by simpa [sp0] using hx
  subst this
  exact ⟨by decide,by decide⟩
 ·exact fun l h hl=>by cases hl
end Go.E
namespace Go.Proofs
open Go Go.E Go.Sort Go.Proofs.Tryz
section
variable {k:Kont} {d w:World}
theorem spanFound_run {v:Value} {l:List An} {a:An} (hv:Sl AnE 5 w v l) (hl:l=[a]) (hok:a.ok=true) (hk:k (.bool true) w):callK prog 73 #[v] k w:=by
 subst hl
 obtain ⟨ka,kc,rfl⟩:=hv.form
 obtain ⟨g,f,c,hv',hc,hat⟩:=hv.at (by simp)
 obtain ⟨rfl,rfl⟩:ka=some ⟨g,f,none⟩∧kc=c:=by simpa using hv'
 obtain ⟨h0,h1,h2,h3,xa,xc,h4,hxk⟩:=cells_ane (hat 0 a rfl)
 rw [hok] at h1
 simp only [Nat.zero_mul,Nat.add_zero] at h1
 refine callZ [.tmp 2] func73 ?_
 have e1:(((1:Nat):Int) == 1)=true:=rfl
 have e2:(0:Int) < ((1:Nat):Int):=by decide
 simp (disch:=first | exact dZ | fail) only [go_sem,↓reduceIte,Nat.reduceEqDiff,Nat.reduceAdd,h1,List.length_singleton,e1,e2,Int.toNat_zero,Nat.zero_mul,Nat.add_zero]
 exact hk
theorem rangeFound_run (hinc:Inc d w) (hk:∀ w2,Ext w w2→k (.bool true) w2):callK prog 22 #[] k w:=by
 refine callZ [.tmp 0] func22 ?_
 refine goZ ?_
 refine callZ [.tmp 0] func72 ?_
 refine goZ ?_
 obtain ⟨A,hA⟩:∃ A,A=w.heap.size:=⟨_,rfl⟩
 have eS:ByteArray.empty=⟨([]:Bytes).toArray⟩:=rfl
 obtain ⟨W,hW⟩:∃ W,W=(((w.alloc (.cells #[.int .u64 277,.string ⟨#[115]⟩,.string ByteArray.empty] 62)).alloc (.cells #[.string ⟨#[97]⟩,.string ⟨#[98]⟩,.slice (some ⟨w.heap.size,0,none⟩) 1 1] 56)).alloc (.cells #[.slice (some ⟨w.heap.size+1,0,none⟩) 1 1] 74)).alloc (.cells #[.int .u8 0,.string ByteArray.empty] 53):=⟨_,rfl⟩
 have xW:Ext w W:=by rw [hW]; exact (((ext_alloc _).trans (ext_alloc _)).trans (ext_alloc _)).trans (ext_alloc _)
 have k0:W.cell? ⟨A,0,none⟩=some (.int .u64 277):=by rw [hW,hA]; exact eY1 @cell_newN
 have k1:W.cell? ⟨A,1,none⟩=some (.string ⟨#[115]⟩):=by rw [hW,hA]; exact eY1 @cell_newN
 have k2:W.cell? ⟨A,2,none⟩=some (.string ByteArray.empty):=by rw [hW,hA]; exact eY1 @cell_newN
 have s0:W.cell? ⟨A+1,0,none⟩=some (.string ⟨#[97]⟩):=by rw [hW,hA]; exact eY1 @cell_newN
 have s1:W.cell? ⟨A+1,1,none⟩=some (.string ⟨#[98]⟩):=by rw [hW,hA]; exact eY1 @cell_newN
 have s2:W.cell? ⟨A+1,2,none⟩=some (.slice (some ⟨A,0,none⟩) 1 1):=by rw [hW,hA]; exact eY1 @cell_newN
 have l0:W.cell? ⟨A+1+1,0,none⟩=some (.slice (some ⟨A+1,0,none⟩) 1 1):=by rw [hW,hA]; exact eY1 @cell_newN
 have t0:W.cell? ⟨A+1+1+1,0,none⟩=some (.int .u8 0):=by rw [hW,hA]; exact eY1 @cell_newN
 have t1:W.cell? ⟨A+1+1+1,1,none⟩=some (.string ByteArray.empty):=by rw [hW,hA]; exact eY1 @cell_newN
 rw [← hW,← hA]
 obtain ⟨d4,g4,e4⟩:=grAll hinc xW
 have sk:Sl KE 3 d4 (.slice (some ⟨A,0,none⟩) 1 1) [⟨277,[115],[]⟩]:=slOne (cs:=[.int .u64 277,str [115],str []]) rfl (fun j u hu=>by
  match j,hu with
  | 0,hu=>obtain rfl:=Option.some.inj hu; exact e4 _ _ _ (by omega) k0
  | 1,hu=>obtain rfl:=Option.some.inj hu; exact e4 _ _ _ (by omega) k1
  | 2,hu=>obtain rfl:=Option.some.inj hu; exact e4 _ _ _ (by omega) k2) ⟨rfl,by decide⟩
 have ss:Sl SpE 3 d4 (.slice (some ⟨A+1,0,none⟩) 1 1) [sp0]:=sl1 (e4 _ _ _ (by omega) s0) (e4 _ _ _ (by omega) s1) (e4 _ _ _ (by omega) s2) sk
 have sl:Sl LvE 1 d4 (.slice (some ⟨A+1+1,0,none⟩) 1 1) lv0:=slOne (cs:=[.slice (some ⟨A+1,0,none⟩) 1 1]) rfl (fun j u hu=>by
  match j,hu with
  | 0,hu=>obtain rfl:=Option.some.inj hu; exact e4 _ _ _ (by omega) l0) ⟨_,rfl,ss⟩
 have st:Sl StE 2 d4 (.slice (some ⟨A+1+1+1,0,none⟩) 1 1) [(0,[])]:=slOne (cs:=[.int .u8 0,str []]) rfl (fun j u hu=>by
  match j,hu with
  | 0,hu=>obtain rfl:=Option.some.inj hu; exact e4 _ _ _ (by omega) t0
  | 1,hu=>obtain rfl:=Option.some.inj hu; exact e4 _ _ _ (by omega) t1) ⟨rfl,by decide⟩
 rw [eS]
 have stok:StOk (bdO [] false) (bdO [] false) [(0,[])]:=fun x hx=>by
  rw [List.mem_singleton.1 hx]
  exact ⟨fun _=>rfl,fun _=>rfl,fun h=>by simp at h,by decide⟩
 refine RangeUser_run (kl:=[]) (kh:=[]) (bl:=false) (bh:=false) sl st g4.j rin0 (by decide) (by decide) stok (by decide) fun d5 w5 v l g5 s5 hp => ?_
 have hv0:(rV lv0 2 none none).map bareS=[⟨[97],[98],[⟨0,[115],[]⟩]⟩]:=by
  rw [← view_eq lvOk0.wf (fun L h s hs=>(lvOk0.ks L h s hs).1) lvOk0.cdF]
  exact view0
 obtain ⟨V,hV⟩:∃ V,V=rV lv0 2 none none:=⟨_,rfl⟩
 have hp:Pw (AnsOk V AllSet) (wlk V (-2) false 0 [(0,[])]) l:=by rw [hV]; exact hp
 rw [← hV] at hv0
 have hVl:V.length=1:=by have:=congrArg List.length hv0; simpa using this
 have hw0:wlk V (-2) false 0 [(0,[])]=[some 0]:=rfl
 rw [hw0] at hp
 obtain ⟨a,rfl⟩:∃ a,l=[a]:=by
  have:=hp.1
  match l,this with
  | [a],_=>exact ⟨a,rfl⟩
 obtain ⟨h1,h2,h3,h4⟩:=hp.2 0 _ _ rfl rfl
 have hok:a.ok=true:=by rw [h2]; exact decide_eq_true ⟨Int.le_refl _,by omega⟩
 obtain ⟨_,_,h5,_⟩:=h3 0 rfl (by omega)
 have hkl:a.sp.ks.length=1:=by
  have e1:=congrArg List.length h5
  rw [List.length_map,List.length_map] at e1
  have e2:((V.map bareS)[0]!).ks.length=1:=by rw [hv0]; rfl
  rw [getElem!_pos (V.map bareS) 0 (by simp; omega),List.getElem_map,bareS_eqn,List.length_map] at e2
  rw [getElem!_pos V 0 (by omega)] at e1
  rw [e1,e2]
 have s6:=s5.inc AnE.mono g5.j
 obtain ⟨va,vc,rfl⟩:=s6.form
 obtain ⟨g,f,c,hv',hc,hat⟩:=s6.at (by simp)
 obtain ⟨rfl,rfl⟩:va=some ⟨g,f,none⟩∧vc=c:=by simpa using hv'
 obtain ⟨_,_,_,_,xa,xc,p4,_⟩:=cells_ane (hat 0 a rfl)
 simp only [Nat.zero_mul,Nat.add_zero,hkl] at p4
 refine goZ ?_
 refine spanFound_run s6 rfl hok ?_
 have e1:(((1:Nat):Int) == 1)=true:=rfl
 have e2:(0:Int) < ((1:Nat):Int):=by decide
 simp (disch:=first | exact dZ | fail) only [go_sem,↓reduceIte,Nat.reduceEqDiff,Nat.reduceAdd,p4,List.length_singleton,e1,e2,Int.toNat_zero,Nat.zero_mul,Nat.add_zero]
 exact hk _ (xW.trans g5.x)
end
end Go.Proofs
end
section
set_option maxRecDepth 10000
namespace Go.E
open Go Go.Sort Go.Proofs Go.Proofs.Tryz
section
variable {H:Type} {enc:TypeId × Value→H} {w:World} {base:Nat} {spare:Nat→Bool} {held:Bool} {fuel:Nat} {cs:List Value} {x:DataW H × List MemPlace}
theorem sl_of_trod {α:Type} [Inhabited α] {R:Elem α} {t e:TypeId} {sz:Nat} (ht:prog.underlying t=some (.slice e)) (hsz:prog.cellsOf e=sz) (hp:0 < sz) (el:∀ n cs x,DataW.trod enc prog w base spare held n e cs=some x→∃ y,R w cs y) (h:DataW.trod enc prog w base spare held fuel t cs=some x):∃ v l,cs=[v]∧Sl R sz w v l:=by
 rcases Go.Deep.open_slice ht h with ⟨rfl,_⟩ | ⟨a,len,cap,m,n,D,Pl,rfl,_,hl,_,hm,_,hx⟩
 ·exact ⟨_,[],rfl,rfl,rfl⟩
 ·have hlm:len≤m:=by rw [hm]; split <;> omega
  have hx:∀ i,i < len→∃ y,∃ cs',w.cells? base (a.add (i * sz)) sz=some cs'∧R w cs' y:=fun i hi=>by
   obtain ⟨cs',h1,h2⟩:=hx i (by omega)
   obtain ⟨y,hy⟩:=el _ _ _ h2
   rw [hsz] at h1
   exact ⟨y,cs',h1,hy⟩
  obtain ⟨Y,hY⟩:=Go.Deep.choose_lt hx
  have hsp:0 < len→a.spot=none:=fun h0=>by
   obtain ⟨cs',h1,_⟩:=hY 0 h0
   obtain ⟨_,h2,h3⟩:=World.cells?_some h1
   have:=h3 0 hp
   rw [List.getElem?_eq_getElem (by omega)] at this
   have:=World.cell?_spot this
   simpa [Addr.add] using this
  refine ⟨_,(List.range len).map Y,rfl,hsp,by simp,hl,fun i y hy => ?_⟩
  have hi:i < len:=by have:=(List.getElem?_eq_some_iff.1 hy).1; simpa using this
  obtain ⟨cs',h1,h2⟩:=hY i hi
  obtain ⟨_,h4,h5⟩:=World.cells?_some h1
  have:Y i=y:=by simpa [List.getElem?_map,List.getElem?_range hi] using hy
  subst this
  refine ⟨cs',h4,fun j u hu => ?_,h2⟩
  have hj:=(List.getElem?_eq_some_iff.1 hu).1
  have:=h5 j (by omega)
  rw [hu,addr_at (hsp (by omega)),addr_at rfl] at this
  exact this
theorem str_of_trod (h:DataW.trod enc prog w base spare held fuel 9 cs=some x):∃ l,cs=[str l]:=by
 obtain ⟨s,rfl,_⟩:=DataW.trod_string Tryz.underlying9 h
 exact ⟨s.data.toList,rfl⟩
theorem nat_of_trod (h:DataW.trod enc prog w base spare held fuel 23 cs=some x):∃ n:Nat,cs=[.int .u64 n]∧n < 18446744073709551616:=by
 obtain ⟨n,rfl,_,hw⟩:=DataW.trod_int Tryz.underlying23 h
 have hw:0≤n∧n≤18446744073709551615:=by simpa [Lit.wf,IntKind.min,IntKind.max,IntKind.bits,IntKind.signed] using hw
 have:0≤n∧n < 18446744073709551616:=by omega
 refine ⟨n.toNat,?_,by omega⟩
 rw [Int.toNat_of_nonneg this.1]
theorem ke_of_trod (h:DataW.trod enc prog w base spare held fuel 88 cs=some x):∃ y,KE w cs y:=by
 obtain ⟨xs,n,_,_,hl,hlen,hf⟩:=DataW.trod_struct Tryz.underlying88 h
 rw [show prog.cellsOf 88=3 by kernel_rfl] at hl
 match cs,hl with
 | [c0,c1,c2],_ =>
  match xs,hlen with
  | [y0,y1,y2],_ =>
   have f0:DataW.trod enc prog w base spare held n 23 (([c0,c1,c2].drop 0).take (prog.cellsOf 23))=some y0:=hf 0 _ rfl
   have f1:DataW.trod enc prog w base spare held n 9 (([c0,c1,c2].drop 1).take (prog.cellsOf 9))=some y1:=hf 1 _ rfl
   have f2:DataW.trod enc prog w base spare held n 9 (([c0,c1,c2].drop 2).take (prog.cellsOf 9))=some y2:=hf 2 _ rfl
   rw [show prog.cellsOf 23=1 by kernel_rfl] at f0
   rw [show prog.cellsOf 9=1 by kernel_rfl] at f1 f2
   obtain ⟨a,ha,hw⟩:=nat_of_trod f0
   obtain ⟨b,hb⟩:=str_of_trod f1
   obtain ⟨c,hc⟩:=str_of_trod f2
   simp at ha hb hc
   subst ha hb hc
   exact ⟨⟨a,b,c⟩,rfl,hw⟩
theorem spe_of_trod (h:DataW.trod enc prog w base spare held fuel 46 cs=some x):∃ y,SpE w cs y:=by
 obtain ⟨xs,n,_,_,hl,hlen,hf⟩:=DataW.trod_struct Tryz.underlying46 h
 rw [show prog.cellsOf 46=3 by kernel_rfl] at hl
 match cs,hl with
 | [c0,c1,c2],_ =>
  match xs,hlen with
  | [y0,y1,y2],_ =>
   have f0:DataW.trod enc prog w base spare held n 9 (([c0,c1,c2].drop 0).take (prog.cellsOf 9))=some y0:=hf 0 _ rfl
   have f1:DataW.trod enc prog w base spare held n 9 (([c0,c1,c2].drop 1).take (prog.cellsOf 9))=some y1:=hf 1 _ rfl
   have f2:DataW.trod enc prog w base spare held n 44 (([c0,c1,c2].drop 2).take (prog.cellsOf 44))=some y2:=hf 2 _ rfl
   rw [show prog.cellsOf 44=1 by kernel_rfl] at f2
   rw [show prog.cellsOf 9=1 by kernel_rfl] at f0 f1
   obtain ⟨a,ha⟩:=str_of_trod f0
   obtain ⟨b,hb⟩:=str_of_trod f1
   obtain ⟨v,l,hv,hs⟩:=sl_of_trod (R:=KE) (sz:=3) Tryz.underlying44 (by kernel_rfl) (by decide) (fun n cs x h=>ke_of_trod h) f2
   simp at ha hb hv
   subst ha hb hv
   exact ⟨⟨a,b,l⟩,_,rfl,hs⟩
theorem spans_of_trod (h:DataW.trod enc prog w base spare held fuel 28 cs=some x):∃ v l,cs=[v]∧Sl SpE 3 w v l:=sl_of_trod (sz:=3) Tryz.underlying28 (by kernel_rfl) (by decide) (fun n cs x h=>spe_of_trod h) h
theorem levels_of_trod (h:DataW.trod enc prog w base spare held fuel 22 cs=some x):∃ v l,cs=[v]∧Sl LvE 1 w v l :=
 sl_of_trod (sz:=1) Tryz.underlying22 (by kernel_rfl) (by decide) (fun n cs x h=>by obtain ⟨v,l,rfl,hs⟩:=spans_of_trod h; exact ⟨l,v,rfl,hs⟩) h
theorem ste_of_trod (h:DataW.trod enc prog w base spare held fuel 97 cs=some x):∃ y,StE w cs y:=by
 obtain ⟨xs,n,_,_,hl,hlen,hf⟩:=DataW.trod_struct Tryz.underlying97 h
 rw [show prog.cellsOf 97=2 by kernel_rfl] at hl
 match cs,hl with
 | [c0,c1],_ =>
  match xs,hlen with
  | [y0,y1],_ =>
   have f0:DataW.trod enc prog w base spare held n 5 (([c0,c1].drop 0).take (prog.cellsOf 5))=some y0:=hf 0 _ rfl
   have f1:DataW.trod enc prog w base spare held n 9 (([c0,c1].drop 1).take (prog.cellsOf 9))=some y1:=hf 1 _ rfl
   rw [show prog.cellsOf 5=1 by kernel_rfl] at f0
   rw [show prog.cellsOf 9=1 by kernel_rfl] at f1
   obtain ⟨m,hm,_,hw⟩:=DataW.trod_int Tryz.underlying5 f0
   have hw:0≤m∧m≤255:=by simpa [Lit.wf,IntKind.min,IntKind.max,IntKind.bits,IntKind.signed] using hw
   obtain ⟨b,hb⟩:=str_of_trod f1
   simp at hm hb
   subst hm hb
   refine ⟨(m.toNat,b),?_,by simp only; omega⟩
   rw [show ((m.toNat:Nat):Int)=m by omega]
theorem steps_of_trod (h:DataW.trod enc prog w base spare held fuel 24 cs=some x):∃ v l,cs=[v]∧Sl StE 2 w v l:=sl_of_trod (sz:=2) Tryz.underlying24 (by kernel_rfl) (by decide) (fun n cs x h=>ste_of_trod h) h
end
theorem below_of {w w2:World} (x:Ext w w2):RowKit.Below w.heap.size w w2:=⟨x.st.1,x.st.2.1,x.st.2.2,x.size,fun b hb=>x.block b hb fun _ h=>h⟩
end Go.E
end
