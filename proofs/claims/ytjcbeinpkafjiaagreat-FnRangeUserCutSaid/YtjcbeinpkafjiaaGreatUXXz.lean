/- Parts of the proof: Xz. -/
import Derived.Test.YtjcbeinpkafjiaaGreatUXXy
set_option linter.all false
set_option maxRecDepth 10000
namespace Go.E
open Go Go.Sort Go.Proofs Go.Proofs.Tryz
def TxE:Elem Bytes:=fun _ cs x=>cs=[str x]
theorem TxE.mono:MonoE TxE:=fun _ _ _ _ _ h=>h
def cntK (keys:List Bytes) (s e:Bytes):Nat:=keys.countP fun k=>decide (s < k∧k < e)
theorem countP_less {α:Type} {P Q:α→Bool} {l:List α} {n:α} (h:∀ x,Q x=true→P x=true) (hn:n ∈ l) (hp:P n=true) (hq:Q n=false):l.countP Q < l.countP P:=by
 induction l with
 | nil=>cases hn
 | cons x l ih =>
  have hm:l.countP Q≤l.countP P:=List.countP_mono_left fun x _=>h x
  rw [List.countP_cons,List.countP_cons]
  rcases List.mem_cons.1 hn with rfl | hn
  ·rw [if_pos hp,if_neg (by rw [hq]; decide)]; omega
  ·have:=ih hn
   by_cases hx:Q x=true
   ·rw [if_pos hx,if_pos (h x hx)]; omega
   ·rw [if_neg hx]; split <;> omega
theorem cnt_next {s e:Bytes} {keys:List Bytes} (h:nextK s keys e≠e):cntK keys (nextK s keys e) e < cntK keys s e:=by
 obtain ⟨h1,h2,h3⟩:=(nextK_spec s keys e).1.resolve_left h
 refine countP_less (fun x hx => ?_) h1 (decide_eq_true ⟨h2,h3⟩) (decide_eq_false fun h=>List.lt_irrefl _ h.1)
 have hx:=of_decide_eq_true hx
 exact decide_eq_true ⟨List.lt_trans h2 hx.1,hx.2⟩
theorem nextK_more {s e:Bytes} {keys:List Bytes} {j:Nat} {x:Bytes} (h:keys[j]? = some x):nextK s (keys.take (j+1)) e=if s < x∧x < nextK s (keys.take j) e then x else nextK s (keys.take j) e:=by
 rw [take_more h]
 unfold nextK
 rw [List.foldl_append]
 rfl
theorem cutF_end {keys:List Bytes} {f:Nat} {s:Sp} (h:nextK s.s keys s.e=s.e):cutF keys f s=[s]:=by
 cases f with
 | zero=>rfl
 | succ f=>unfold cutF; rw [if_pos h]
theorem cutF_more {keys:List Bytes} {f:Nat} {s:Sp} (h:nextK s.s keys s.e≠s.e) (hf:cntK keys s.s s.e≤f):∃ m,f=m+1∧cutF keys f s=⟨s.s,nextK s.s keys s.e,s.ks⟩ :: cutF keys m ⟨nextK s.s keys s.e,s.e,s.ks⟩∧cntK keys (nextK s.s keys s.e) s.e≤m:=by
 have:=cnt_next h
 obtain ⟨m,rfl⟩:∃ m,f=m+1:=⟨f - 1,by omega⟩
 refine ⟨m,rfl,?_,by omega⟩
 rw [cutF,if_neg h]
theorem cutP_more {keys:List Bytes} {l:List Sp} {i:Nat} {x:Sp} (h:l[i]? = some x):cutP keys (l.take (i+1))=cutP keys (l.take i)++cutF keys keys.length x:=by
 rw [take_more h]
 unfold cutP
 rw [List.flatMap_append]
 simp
end Go.E
namespace Go.Proofs
open Go Go.E Go.Sort Go.Proofs.Tryz
section
variable {k:Kont} {d w:World}
theorem fits11_run {v:Value} {l:List Bytes} (hv:Sl TxE 1 w v l) (hk:Chk (l.length≤2147483647∧∀ x ∈ l,x.length≤2147483647) k w):callK prog 29 #[v] k w:=by
 obtain ⟨ka,kc,rfl⟩:=hv.form
 refine callZ [.tmp 2] func29 ?_
 by_cases hz:2147483647 < (l.length:Int)
 ·refine gY1 @hz ?_
  exact hk.no (Ext.refl _)
 refine gY1 @hz ?_
 refine loopC (fun i:Nat=>[(2,.bool false),(8,.slice ka l.length kc),(8+1,.int .i64 l.length),(8+2,.int .i64 i)])
  (fun i w'=>i≤l.length∧Ext w w'∧∀ x ∈ l.take i,x.length≤2147483647) (fun i _=>l.length - i) 0 (by kernel_rfl) ?_ ⟨Nat.zero_le _,Ext.refl _,by simp⟩ ?_
 ·exact agZ
 rintro K2 e i w1 ⟨i2,i3,i4⟩ hK2
 rcases Nat.lt_or_ge i l.length with hi | hi
 rotate_left
 ·have hi':¬ (i:Int) < l.length:=by omega
  obtain rfl:i=l.length:=by omega
  rw [List.take_length] at i4
  refine gY1 @hi' ?_
  exact hk.yes i3 ⟨by omega,i4⟩
 have hi':(i:Int) < l.length:=by omega
 obtain ⟨g,f,c,hv',hc,hat⟩:=(hv.inc TxE.mono i3.inc).at (by omega)
 obtain ⟨rfl,rfl⟩:ka=some ⟨g,f,none⟩∧kc=c:=by simpa using hv'
 obtain ⟨x,hx⟩:∃ x,l[i]? = some x:=⟨_,List.getElem?_eq_getElem hi⟩
 obtain ⟨cs,_,hcs,hR⟩:=hat i x hx
 obtain rfl:=hR
 have h0:w1.cell? ⟨g,f+i * 1,none⟩=some (.string ⟨x.toArray⟩):=hcs 0 _ rfl
 by_cases h1:2147483647 < (x.length:Int)
 ·refine gY3 @hi' @h0 @h1 ?_
  exact hk.no i3
 ·refine gY3 @hi' @h0 @h1 ?_
  refine hK2 _ _ (i+1) ?_ ⟨hi,i3,all_more i4 hx (by omega)⟩ (by omega)
  exact agZ
set_option maxHeartbeats 1000000 in
theorem spanSplit_run {v kv:Value} {l:List Sp} {keys:List Bytes} (hv:Sl SpE 3 d v l) (hkv:Sl TxE 1 d kv keys) (hl:l.length≤1000) (hkl:keys.length≤100) (hinc:Inc d w) (hk:∀ d' w' v',Gr d w d' w'→Sl SpE 3 d' v' (cutP keys l)→k v' w') :
    callK prog 30 #[v,kv] k w:=by
 obtain ⟨ka,kc,rfl⟩:=hv.form
 obtain ⟨ya,yc,rfl⟩:=hkv.form
 refine callZ [.tmp 4] func30 ?_
 refine goZ ?_
 refine loopC (fun b:Nat × Value=>[(1,.slice ya keys.length yc),(5,b.2),(11,.slice ka l.length kc),(12,.int .i64 l.length),(13,.int .i64 b.1)])
  (fun b w'=>b.1≤l.length∧∃ d1,LoopL SpE 3 46 d w d1 w' b.2 (cutP keys (l.take b.1))) (fun b _=>l.length - b.1) (0,.slice none 0 0) (by kernel_rfl) ?_ ⟨Nat.zero_le _,d,LoopL.nil hinc⟩ ?_
 ·exact agZ
 rintro K2 e ⟨i,vo⟩ w1 ⟨i2,d1,i3⟩ hK2
 simp only at i2 i3
 rcases Nat.lt_or_ge i l.length with hi | hi
 rotate_left
 ·have hi':¬ (i:Int) < l.length:=by omega
  refine gY1 @hi' ?_
  obtain rfl:i=l.length:=by omega
  rw [List.take_length] at i3
  obtain ⟨d2,g2,_,_,s2⟩:=i3.done SpE.mono
  exact hk d2 w1 vo g2 s2
 have hi':(i:Int) < l.length:=by omega
 obtain ⟨g,f,c,hv',hc,hat⟩:=(hv.inc SpE.mono i3.g.i).at (by omega)
 obtain ⟨rfl,rfl⟩:ka=some ⟨g,f,none⟩∧kc=c:=by simpa using hv'
 obtain ⟨x,hx⟩:∃ x,l[i]? = some x:=⟨_,List.getElem?_eq_getElem hi⟩
 obtain ⟨h0,h1,a,cc,h2,hkx⟩:=cells_spe (hat i x hx)
 have h0:=i3.g.j _ _ _ h0
 have h1:=i3.g.j _ _ _ h1
 have h2:=i3.g.j _ _ _ h2
 have hl1:=cutP_length keys (l.take i)
 rw [take_len i2] at hl1
 have hl2:=cutF_length keys keys.length x
 have hl3:i * (keys.length+1)≤1000 * 101:=Nat.mul_le_mul (by omega) (by omega)
 have hmore:=cutP_more (keys:=keys) hx
 obtain ⟨T,hT⟩:∃ T,T=w1.heap.size:=⟨_,rfl⟩
 obtain ⟨w2,hw2⟩:∃ w2,w2=w1.alloc (.cells #[.string ⟨x.s.toArray⟩,.string ⟨x.e.toArray⟩,.slice a x.ks.length cc] 46):=⟨_,rfl⟩
 have x2:Ext w1 w2:=by rw [hw2]; exact ext_alloc _
 have a0:w2.cell? ⟨T,0,none⟩=some (.string ⟨x.s.toArray⟩):=by rw [hw2,hT]; exact eY1 @cell_newN
 have a1:w2.cell? ⟨T,1,none⟩=some (.string ⟨x.e.toArray⟩):=by rw [hw2,hT]; exact eY1 @cell_newN
 have a2:w2.cell? ⟨T,2,none⟩=some (.slice a x.ks.length cc):=by rw [hw2,hT]; exact eY1 @cell_newN
 have fz:∀ y,w2.frozen? ⟨T,y,none⟩=false:=fun y=>by rw [hw2,hT]; exact World.frozen?_alloc_new w1 _ _ y
 have hoT:Out d1 T:=i3.g.j.out (by omega)
 have hvT:∀ b,vo.ownBlock=some b→b≠T:=fun b hb=>by
  obtain ⟨css,o⟩:=i3.o
  have:=(o.own.lt _ hb).2
  omega
 have hcnt:cntK keys x.s x.e≤keys.length:=List.countP_le_length
 refine gY5 @hi' @h0 @h1 @h2 @cell_newN ?_
 rw [← hw2,← hT]
 refine loopC (fun c:Bytes × Value × Nat=>[(1,.slice ya keys.length yc),(5,c.2.1),(7,.pointer (some ⟨T,0,none⟩)),(11,.slice (some ⟨g,f,none⟩) l.length kc),(12,.int .i64 l.length),(13,.int .i64 i)])
  (fun c w'=>∃ L2,LoopL SpE 3 46 d w d1 w' c.2.1 L2∧w'.cell? ⟨T,0,none⟩=some (.string ⟨c.1.toArray⟩)∧w'.cell? ⟨T,1,none⟩=some (.string ⟨x.e.toArray⟩)∧w'.cell? ⟨T,2,none⟩=some (.slice a x.ks.length cc)∧(∀ y,w'.frozen? ⟨T,y,none⟩=false) ∧
   L2++cutF keys c.2.2 ⟨c.1,x.e,x.ks⟩=cutP keys (l.take i)++cutF keys keys.length x∧cntK keys c.1 x.e≤c.2.2∧∀ b,c.2.1.ownBlock=some b→b≠T) (fun c _=>c.2.2) (x.s,vo,keys.length) (by kernel_rfl) ?_ ⟨_,i3.ext SpE.mono x2,a0,a1,a2,fz,rfl,hcnt,hvT⟩ ?_
 ·exact agZ
 rintro K3 e3 ⟨cs,v3,f3⟩ w3 ⟨L2,j1,j3,j4,j5,j6,j7,j8,j9⟩ hK3
 simp only at j1 j3 j7 j8 j9
 have hTl:=lt_of_cell j3
 have hLl:L2.length≤101101:=by
  have:=congrArg List.length j7
  rw [List.length_append,List.length_append] at this
  omega
 refine gY1 @j4 ?_
 refine loopC (fun c:Nat=>[(1,.slice ya keys.length yc),(5,v3),(7,.pointer (some ⟨T,0,none⟩)),(8,.string ⟨(nextK cs (keys.take c) x.e).toArray⟩),(11,.slice (some ⟨g,f,none⟩) l.length kc),(12,.int .i64 l.length),(13,.int .i64 i),(19,.slice ya keys.length yc),(20,.int .i64 keys.length),(21,.int .i64 c)])
  (fun c w'=>c≤keys.length∧w'=w3) (fun c _=>keys.length - c) 0 (by kernel_rfl) ?_ ⟨Nat.zero_le _,rfl⟩ ?_
 ·have n0:nextK cs (keys.take 0) x.e=x.e:=rfl
  rw [n0]
  exact agZ
 rintro K4 e4 j w4 ⟨q1,rfl⟩ hK4
 rcases Nat.lt_or_ge j keys.length with hj | hj
 ·have hj':(j:Int) < keys.length:=by omega
  obtain ⟨yg,yf,yc',hyv,hyc,hyat⟩:=((hkv.inc TxE.mono i3.g.i).inc TxE.mono j1.g.j).at (by omega)
  obtain ⟨rfl,rfl⟩:ya=some ⟨yg,yf,none⟩∧yc=yc':=by simpa using hyv
  obtain ⟨z,hz⟩:∃ z,keys[j]? = some z:=⟨_,List.getElem?_eq_getElem hj⟩
  obtain ⟨zs,_,hzs,hzR⟩:=hyat j z hz
  obtain rfl:=hzR
  have z0:w4.cell? ⟨yg,yf+j * 1,none⟩=some (.string ⟨z.toArray⟩):=hzs 0 _ rfl
  have nm:=nextK_more (s:=cs) (e:=x.e) hz
  by_cases p1:cs < z
  ·by_cases p2:z < nextK cs (keys.take j) x.e
   ·rw [if_pos ⟨p1,p2⟩] at nm
    refine gY6 @hj' @z0 @j3 @p1 @p2 @decide_true ?_
    refine hK4 _ _ (j+1) ?_ ⟨hj,rfl⟩ (by omega)
    rw [nm]
    exact agZ
   ·rw [if_neg fun h=>p2 h.2] at nm
    refine gY7 @hj' @z0 @j3 @p1 @p2 @decide_true @decide_false ?_
    refine hK4 _ _ (j+1) ?_ ⟨hj,rfl⟩ (by omega)
    rw [nm]
    exact agZ
  ·rw [if_neg fun h=>p1 h.1] at nm
   refine gY5 @hj' @z0 @j3 @p1 @decide_false ?_
   refine hK4 _ _ (j+1) ?_ ⟨hj,rfl⟩ (by omega)
   rw [nm]
   exact agZ
 have hj':¬ (j:Int) < keys.length:=by omega
 obtain rfl:j=keys.length:=by omega
 rw [List.take_length]
 obtain ⟨N,hN⟩:∃ N,N=nextK cs keys x.e:=⟨_,rfl⟩
 rw [← hN]
 obtain ⟨css,o1⟩:=j1.o
 obtain ⟨va,vcap,rfl,_⟩:=j1.form
 by_cases hend:N=x.e
 ·have e1:decide (N=x.e)=true:=decide_eq_true hend
  rw [cutF_end (s:=⟨cs,x.e,x.ks⟩) (by rw [← hN]; exact hend)] at j7
  refine gY5 @hj' @j3 @j4 @j5 @e1 ?_
  refine appN (⟨cs,x.e,x.ks⟩:Sp) [.string ⟨cs.toArray⟩,.string ⟨x.e.toArray⟩,.slice a x.ks.length cc] rw28 o1 ⟨_,rfl,hkx⟩ rfl (.inl rfl) rfl rfl (by simp [Value.oneCell']) (by omega) j1.g.j fun v6 w6 o6 k6 n6 j6 _ => ?_
  refine goZ ?_
  refine hK2 _ _ (i+1,v6) ?_ ⟨hi,d1,?_⟩ (by simp only; omega)
  ·exact agZ
  ·simp only
   rw [hmore,← j7]
   exact j1.more o6 k6 n6 j6
 have e1:decide (N=x.e)=false:=decide_eq_false hend
 obtain ⟨m,hm,hcf,hcm⟩:=cutF_more (s:=⟨cs,x.e,x.ks⟩) (by rw [← hN]; exact hend) j8
 simp only [← hN] at hcf hcm
 refine gY5 @hj' @j3 @j4 @j5 @e1 ?_
 refine appN (⟨cs,N,x.ks⟩:Sp) [.string ⟨cs.toArray⟩,.string ⟨N.toArray⟩,.slice a x.ks.length cc] rw28 o1 ⟨_,rfl,hkx⟩ rfl (.inl rfl) rfl rfl (by simp [Value.oneCell']) (by omega) j1.g.j fun v6 w6 o6 k6 n6 j6' _ => ?_
 have k6':∀ {o u},w4.cell? ⟨T,o,none⟩=some u→w6.cell? ⟨T,o,none⟩=some u:=fun h=>k6.some h fun h2=>j9 T h2 rfl
 have c0:=k6' j3
 have c1:=k6' j4
 have c2:=k6' j5
 have f6:∀ y,w6.frozen? ⟨T,y,none⟩=false:=fun y=>by rw [k6.frozen T y hTl]; exact j6 y
 have n6':∀ b,v6.ownBlock=some b→b≠T:=fun b hb=>by
  rcases n6 b hb with h | h
  ·exact j9 b h
  ·omega
 refine gY2 @c0 @f6 ?_
 have k7:Keep (fun b y=>b=T∧y=0) w6 (w6.setCell ⟨T,0,none⟩ (.string ⟨N.toArray⟩)):=keep_set ⟨rfl,rfl⟩
 have j10:=j1.more o6 k6 n6 j6'
 refine hK3 _ _ (N,v6,m) ?_ ⟨_,j10.mut k7 ?_,by rw [cell_self,c0]; rfl,k7.some c1 (by omega),k7.some c2 (by omega),fun y=>by rw [World.frozen?_setCell]; exact f6 y,?_,hcm,n6'⟩ (by simp only; omega)
 ·exact agZ
 ·rintro b o ⟨rfl,_⟩
  exact ⟨by have:=i3.g.x.size; omega,hoT,fun h=>n6' _ h rfl⟩
 ·simp only
  rw [List.append_assoc,List.singleton_append,← hcf]
  exact j7
end
end Go.Proofs
