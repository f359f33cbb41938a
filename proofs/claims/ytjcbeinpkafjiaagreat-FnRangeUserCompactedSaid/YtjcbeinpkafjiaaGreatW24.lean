/- Parts of the proof: Xq, Xl, Xr, Xs, Xv, Vj, Xy, Fa. -/
import Derived.Laws.StructEq
import Derived.Test.YtjcbeinpkafjiaaGreatW21
import Derived.Test.YtjcbeinpkafjiaaGreatW22
import Derived.Test.YtjcbeinpkafjiaaGreatW23
set_option linter.all false
set_option maxRecDepth 10000
section
namespace Go.E
open Go Go.Sort Go.Proofs Go.Proofs.Tryz
theorem Gr.mut {d w d1 w1 w2:World} {M:Nat→Nat→Prop} (g:Gr d w d1 w1) (k:Keep M w1 w2) (hM:∀ b o,M b o→w.heap.size≤b∧cx d1 b):Gr d w d1 w2:=by
 refine ⟨g.x.tr k fun b o hb hm=>by have:=(hM b o hm).1; omega,g.i,fun b o u hu=>k.some (g.j _ _ _ hu) fun hm => ?_,g.o⟩
 rw [(hM b o hm).2 o] at hu
 simp at hu
end Go.E
namespace Go.Proofs
open Go Go.E Go.Sort Go.Proofs.Tryz
section
variable {k:au} {d w:World}
theorem zI {v:Value} {l:List K} (hv:Sl KE 3 d v l) (hl:l.length≤100000) (hinc:cN d w) (hk:∀ d' w' v',Gr d w d' w'→Sl KE 3 d' v' l→k v' w'):aX prog 123 #[v] k w:=by
 obtain ⟨ka,kc,rfl⟩:=hv.form
 refine ae [.tmp 2] func123 ?_
 refine an ?_
 refine bR (fun b:Nat × Value=>[(3,b.2),(6,.slice ka l.length kc),(7,.int .i64 l.length),(8,.int .i64 b.1)])
  (fun b w'=>b.1≤l.length∧∃ d1,LoopL KE 3 62 d w d1 w' b.2 (l.take b.1)) (fun b _=>l.length - b.1) (0,.slice none 0 0) (by kernel_rfl) ?_ ⟨aP _,d,LoopL.nil hinc⟩ ?_
 ·exact bO
 rintro K2 e ⟨i,v⟩ w1 ⟨i2,d1,i3⟩ hK2
 simp only at i2 i3
 rcases aG i l.length with hi | hi
 rotate_left
 ·have hi':¬ (i:Int) < l.length:=by omega
  refine bf @hi' ?_
  obtain rfl:i=l.length:=by omega
  rw [ah] at i3
  obtain ⟨d2,g2,_,_,s2⟩:=i3.done KE.mono
  exact hk d2 w1 v g2 s2
 have hi':(i:Int) < l.length:=by omega
 obtain ⟨g,f,c,hv',hc,hat⟩:=(hv.inc KE.mono i3.g.i).at (by omega)
 obtain ⟨rfl,rfl⟩:=sEq hv'
 obtain ⟨x,hx⟩:=gEl hi
 obtain ⟨cs,_,hcs,hR⟩:=hat i x hx
 have hmem:=aK hx
 obtain ⟨rfl,htr⟩:=hR
 have h0:w1.cell? ⟨g,f+i * 3,none⟩=some (.int .u64 x.tr):=i3.g.j _ _ _ (hcs 0 _ rfl)
 have h1:w1.cell? ⟨g,f+i * 3+1,none⟩=some (.string ⟨x.suf.toArray⟩):=i3.g.j _ _ _ (hcs 1 _ rfl)
 have h2:w1.cell? ⟨g,f+i * 3+2,none⟩=some (.string ⟨x.val.toArray⟩):=i3.g.j _ _ _ (hcs 2 _ rfl)
 obtain ⟨va,vcap,rfl,_⟩:=i3.form
 have i4:=i3.ext KE.mono (aM (.cells #[.int .u64 x.tr,.string ⟨x.suf.toArray⟩,.string ⟨x.val.toArray⟩] 88))
 obtain ⟨css,o4⟩:=i4.o
 refine gq @hi' @h0 @h1 @h2 @aA ?_
 refine ju x [.int .u64 x.tr,.string ⟨x.suf.toArray⟩,.string ⟨x.val.toArray⟩] rw54 o4 ⟨rfl,htr⟩ rfl (.inl rfl) (World.size_alloc _ _).symm rfl (by simp [Value.oneCell']) (by rw [dS i2]; omega) i4.g.j fun v2 w2 o2 k2 n2 j2 _ => ?_
 refine an ?_
 refine hK2 _ _ (i+1,v2) ?_ ⟨hi,d1,?_⟩ (by simp only; omega)
 ·exact bO
 ·rw [bw hx]
  exact i4.more o2 k2 n2 j2
theorem zJ {kv:Value} {x:Sp} (hv:Sl KE 3 d kv x.ks) (hl:x.ks.length≤100000) (hinc:cN d w) (hk:∀ d' w' v',Gr d w d' w'→Sl KE 3 d' v' x.ks→k (.agg #[.string ⟨x.s.toArray⟩,.string ⟨x.e.toArray⟩,v']) w') :
    aX prog 89 #[.agg #[.string ⟨x.s.toArray⟩,.string ⟨x.e.toArray⟩,kv]] k w:=by
 obtain ⟨ka,kc,rfl⟩:=hv.form
 refine ae [.cell 2 56] func89 ?_
 refine an ?_
 refine ay (sq [0] (.read 1 (sq [2] (.read 3 (sq [4] (.read 5 (.eff 6 [1,3] (sq [7] (.eff 8 [] .done))))))))) ?_
 obtain ⟨A,hA⟩:∃ A,A=w.heap.size:=⟨_,rfl⟩
 obtain ⟨W,hW⟩:∃ W,W=((w.alloc (.cells #[.string ⟨x.s.toArray⟩,.string ⟨x.e.toArray⟩,.slice ka x.ks.length kc] 46)).alloc (.cells #[.string ByteArray.empty,.string ByteArray.empty,.slice none 0 0] 56)).drew:=⟨_,rfl⟩
 have xW:bj w W:=by rw [hW]; exact bj.drew' ((aM _).trans (aM _))
 have a0:W.cell? ⟨A,0,none⟩=some (.string ⟨x.s.toArray⟩):=by rw [hW,hA]; exact bk @aA
 have a1:W.cell? ⟨A,1,none⟩=some (.string ⟨x.e.toArray⟩):=by rw [hW,hA]; exact bk @aA
 have b0:W.cell? ⟨A+1,0,none⟩=some (.string ByteArray.empty):=by rw [hW,hA]; exact bk @aA
 have b1:W.cell? ⟨A+1,1,none⟩=some (.string ByteArray.empty):=by rw [hW,hA]; exact bk @aA
 have b2:W.cell? ⟨A+1,2,none⟩=some (.slice none 0 0):=by rw [hW,hA]; exact bk @aA
 have fz:∀ y,W.frozen? ⟨A+1,y,none⟩=false:=fun y=>by rw [hW,hA]; exact bk @dA
 have zW:W.heap.size=A+2:=by rw [hW,hA]; simp only [World.size_drew,World.size_alloc]
 refine bf @aA ?_
 rw [← hA,← hW]
 refine zI hv hl (hinc.trans xW.inc) fun d1 w1 v1 g1 s1 => ?_
 obtain ⟨va,vc,rfl⟩:=s1.form
 have a0:=g1.x.cell a0
 have a1:=g1.x.cell a1
 have b0:=g1.x.cell b0
 have b1:=g1.x.cell b1
 have b2:=g1.x.cell b2
 have fz:∀ y,w1.frozen? ⟨A+1,y,none⟩=false:=fun y=>by rw [g1.x.frozen _ y (by omega)]; exact fz y
 have hoA:cx d (A+1):=hinc.out (by omega)
 refine pI @a0 @a1 @b0 @b1 @b2 @fz ?_
 have kk:=(((Keep.refl (M:=fun b _=>b=A+1) w1).set (b:=A+1) (o:=0) (v := .string ⟨x.s.toArray⟩) fun _=>rfl).set (b:=A+1) (o:=1) (v := .string ⟨x.e.toArray⟩) fun _=>rfl).set (b:=A+1) (o:=2) (v := .slice va x.ks.length vc) fun _=>rfl
 exact hk _ _ _ (((Gr.ext hinc xW).trans g1).mut kk fun b o h=>by
  subst h
  exact ⟨by omega,g1.o _ (by omega) hoA⟩) s1
theorem qY {v:Value} {l:List Sp} (hv:Sl eJ 3 d v l) (hl:l.length≤100000) (hks:∀ x ∈ l,x.ks.length≤100000) (hinc:cN d w) (hk:∀ d' w' v',Gr d w d' w'→Sl eJ 3 d' v' l→k v' w'):aX prog 53 #[v] k w:=by
 obtain ⟨ka,kc,rfl⟩:=hv.form
 refine ae [.tmp 2] func53 ?_
 refine an ?_
 refine bR (fun b:Nat × Value=>[(3,b.2),(6,.slice ka l.length kc),(7,.int .i64 l.length),(8,.int .i64 b.1)])
  (fun b w'=>b.1≤l.length∧∃ d1,LoopL eJ 3 56 d w d1 w' b.2 (l.take b.1)) (fun b _=>l.length - b.1) (0,.slice none 0 0) (by kernel_rfl) ?_ ⟨aP _,d,LoopL.nil hinc⟩ ?_
 ·exact bO
 rintro K2 e ⟨i,v⟩ w1 ⟨i2,d1,i3⟩ hK2
 simp only at i2 i3
 rcases aG i l.length with hi | hi
 rotate_left
 ·have hi':¬ (i:Int) < l.length:=by omega
  refine bf @hi' ?_
  obtain rfl:i=l.length:=by omega
  rw [ah] at i3
  obtain ⟨d2,g2,_,_,s2⟩:=i3.done eJ.mono
  exact hk d2 w1 v g2 s2
 have hi':(i:Int) < l.length:=by omega
 obtain ⟨g,f,c,hv',hc,hat⟩:=(hv.inc eJ.mono i3.g.i).at (by omega)
 obtain ⟨rfl,rfl⟩:=sEq hv'
 obtain ⟨x,hx⟩:=gEl hi
 obtain ⟨cs,_,hcs,hR⟩:=hat i x hx
 have hmem:=aK hx
 obtain ⟨kv,rfl,hkv⟩:=hR
 obtain ⟨kva,kvc,rfl⟩:=hkv.form
 have h0:w1.cell? ⟨g,f+i * 3,none⟩=some (.string ⟨x.s.toArray⟩):=i3.g.j _ _ _ (hcs 0 _ rfl)
 have h1:w1.cell? ⟨g,f+i * 3+1,none⟩=some (.string ⟨x.e.toArray⟩):=i3.g.j _ _ _ (hcs 1 _ rfl)
 have h2:w1.cell? ⟨g,f+i * 3+2,none⟩=some (.slice kva x.ks.length kvc):=i3.g.j _ _ _ (hcs 2 _ rfl)
 have i4:=i3.ext eJ.mono (aM (.cells #[.string ⟨x.s.toArray⟩,.string ⟨x.e.toArray⟩,.slice kva x.ks.length kvc] 46))
 refine gq @hi' @h0 @h1 @h2 @aA ?_
 refine zJ (x:=x) hkv (hks x hmem) i4.g.j fun d4 w4 v4 g4 s4 => ?_
 have i5:=i4.call eJ.mono g4
 obtain ⟨css,o5⟩:=i5.o
 obtain ⟨va,vcap,rfl,_⟩:=i5.form
 obtain ⟨k4,c4,rfl⟩:=s4.form
 refine an ?_
 refine ju x [.string ⟨x.s.toArray⟩,.string ⟨x.e.toArray⟩,.slice k4 x.ks.length c4] rw74 o5 ⟨_,rfl,s4⟩ rfl (.inl rfl) rfl rfl (by simp [Value.oneCell']) (by rw [dS i2]; omega) i5.g.j fun v2 w2 o2 k2 n2 j2 _ => ?_
 refine an ?_
 refine hK2 _ _ (i+1,v2) ?_ ⟨hi,d4,?_⟩ (by simp only; omega)
 ·exact bO
 ·rw [bw hx]
  exact i5.more o2 k2 n2 j2
theorem vD {v:Value} {l:List (List Sp)} (hv:Sl mf 1 d v l) (hl:l.length≤100000) (hs:∀ x ∈ l,x.length≤100000∧∀ y ∈ x,y.ks.length≤100000) (hinc:cN d w) (hk:∀ d' w' v',Gr d w d' w'→Sl mf 1 d' v' l→k v' w'):aX prog 19 #[v] k w:=by
 obtain ⟨ka,kc,rfl⟩:=hv.form
 refine ae [.tmp 2] func19 ?_
 refine an ?_
 refine bR (fun b:Nat × Value=>[(3,b.2),(6,.slice ka l.length kc),(7,.int .i64 l.length),(8,.int .i64 b.1)])
  (fun b w'=>b.1≤l.length∧∃ d1,LoopL mf 1 74 d w d1 w' b.2 (l.take b.1)) (fun b _=>l.length - b.1) (0,.slice none 0 0) (by kernel_rfl) ?_ ⟨aP _,d,LoopL.nil hinc⟩ ?_
 ·exact bO
 rintro K2 e ⟨i,v⟩ w1 ⟨i2,d1,i3⟩ hK2
 simp only at i2 i3
 rcases aG i l.length with hi | hi
 rotate_left
 ·have hi':¬ (i:Int) < l.length:=by omega
  refine bf @hi' ?_
  obtain rfl:i=l.length:=by omega
  rw [ah] at i3
  obtain ⟨d2,g2,_,_,s2⟩:=i3.done mf.mono
  exact hk d2 w1 v g2 s2
 have hi':(i:Int) < l.length:=by omega
 obtain ⟨g,f,c,hv',hc,hat⟩:=(hv.inc mf.mono i3.g.i).at (by omega)
 obtain ⟨rfl,rfl⟩:=sEq hv'
 obtain ⟨x,hx⟩:=gEl hi
 obtain ⟨cs,_,hcs,hR⟩:=hat i x hx
 have hmem:=aK hx
 obtain ⟨kv,rfl,hkv⟩:=hR
 obtain ⟨kva,kvc,rfl⟩:=hkv.form
 have h0:w1.cell? ⟨g,f+i * 1,none⟩=some (.slice kva x.length kvc):=i3.g.j _ _ _ (hcs 0 _ rfl)
 refine dU @hi' @h0 ?_
 refine qY hkv (hs x hmem).1 (hs x hmem).2 i3.g.j fun d4 w4 v4 g4 s4 => ?_
 have i5:=i3.call mf.mono g4
 obtain ⟨css,o5⟩:=i5.o
 obtain ⟨va,vcap,rfl,_⟩:=i5.form
 obtain ⟨k4,c4,rfl⟩:=s4.form
 refine an ?_
 refine ju x [.slice k4 x.length c4] rw35 o5 ⟨_,rfl,s4⟩ rfl (.inl rfl) rfl rfl (by simp [Value.oneCell']) (by rw [dS i2]; omega) i5.g.j fun v2 w2 o2 k2 n2 j2 _ => ?_
 refine an ?_
 refine hK2 _ _ (i+1,v2) ?_ ⟨hi,d4,?_⟩ (by simp only; omega)
 ·exact bO
 ·rw [bw hx]
  exact i5.more o2 k2 n2 j2
end
end Go.Proofs
end
section
namespace Go.E
open Go Go.Sort Go.Proofs Go.Proofs.Tryz
def JW (P : Program) (t : TypeId) (l : List (TypeId × Nat)) : Bool := (P.fieldsOf t).toList.map (fun f => (f.name != "_", f.type, f.offset)) == l.map fun x => (true, x.1, x.2)
theorem IC:JW prog 88 [(23,0),(9,1),(9,2)]=true:=by kernel_rfl
theorem Db {P:Program} {t:TypeId} {cs:Array Value} {off:Nat} {v:Value} (w:World) (h:ml P t cs off (fun u=>u=v)):(part t cs off).run P w = .ok v w:=by
 obtain ⟨u,h1,rfl⟩:=tR (w:=w) h
 exact h1
def vK (x:K):Array Value := #[.int .u64 x.tr,.string ⟨x.suf.toArray⟩,.string ⟨x.val.toArray⟩]
theorem Jv (x y:K) (w:World):(Op.equalIn 10000 88 (.agg (vK x)) (.agg (vK y))).run prog w = .ok (decide (x=y)) w:=by
 rw [show (10000:Nat)=9999+1 from rfl,run_equalIn_agg w 9999 88 _ _ (by kernel_rfl) (by kernel_rfl)]
 have hf:=IC
 unfold JW at hf
 rw [beq_iff_eq] at hf
 generalize (prog.fieldsOf 88).toList=fs at hf ⊢
 rcases fs with _ | ⟨a,_ | ⟨b,_ | ⟨c,_ | ⟨e,r⟩⟩⟩⟩
 ·simp at hf
 ·simp at hf
 ·simp at hf
 ·simp only [List.map_cons,List.map_nil,List.cons.injEq,Prod.mk.injEq,and_true,bne_iff_ne] at hf
  obtain ⟨⟨n1,t1,o1⟩,⟨n2,t2,o2⟩,n3,t3,o3⟩:=hf
  have e1:∀ (u:K) w,(part 23 (vK u) 0).run prog w = .ok (.int .u64 u.tr) w:=fun u w=>Db w rfl
  have e2:∀ (u:K) w,(part 9 (vK u) 1).run prog w = .ok (.string ⟨u.suf.toArray⟩) w:=fun u w=>Db w rfl
  have e3:∀ (u:K) w,(part 9 (vK u) 2).run prog w = .ok (.string ⟨u.val.toArray⟩) w:=fun u w=>Db w rfl
  have q1:∀ (u v:Int) w,(Op.equalIn 9999 23 (.int .u64 u) (.int .u64 v)).run prog w = .ok (u == v) w:=fun u v w=>run_equalIn_int w 9998 23 .u64 .u64 u v (by kernel_rfl)
  have q2:∀ (u v:ByteArray) w,(Op.equalIn 9999 9 (.string u) (.string v)).run prog w = .ok (u.toList == v.toList) w:=fun u v w=>run_equalIn_string w 9998 9 u v (by kernel_rfl)
  simp only [Op.eqFields,n1,n2,n3,t1,t2,t3,o1,o2,o3,if_true,if_pos,ne_eq,not_false_eq_true,Sem.run_bind,Sem.run_ite,e1,e2,e3,q1,q2,Result.andThen_ok,Sem.run_pure,ByteArray.toList_mk]
  obtain ⟨xt,xs,xv⟩:=x
  obtain ⟨yt,ys,yv⟩:=y
  simp only [K.mk.injEq]
  by_cases g1:xt=yt
  ·by_cases g2:xs=ys
   ·by_cases g3:xv=yv
    ·simp [g1,g2,g3]
    ·simp [g1,g2,g3]
   ·simp [g1,g2]
  ·have:((xt:Int) == yt)=false:=beq_false_of_ne (by omega)
   simp [g1]
   omega
 ·simp at hf
theorem Dc {xo yo:Operand} {x y:K} {q:Value→Prop} (h:q (.bool (decide (x≠y)))):dC prog .neq 88 xo yo (.agg #[.int .u64 x.tr,.string ⟨x.suf.toArray⟩,.string ⟨x.val.toArray⟩]) (.agg #[.int .u64 y.tr,.string ⟨y.suf.toArray⟩,.string ⟨y.val.toArray⟩]) q:=by
 refine ⟨decide (x≠y),fun w => ?_,h⟩
 show (do eqGuard .neq 88 xo yo (.agg (vK x)) (.agg (vK y)); binOp .neq 88 (.agg (vK x)) (.agg (vK y)):Sem Value).run prog w=_
 have h1:=run_eqGuard_agg w .neq 88 xo yo (vK x) (vK y) (show prog.eqGuardType prog.depth 88=false by kernel_rfl)
 simp only [Sem.run_bind,h1,Result.andThen_ok,run_neq_struct,Jv]
 simp
end Go.E
namespace Go.Proofs
open Go Go.E Go.Sort Go.Proofs.Tryz
section
variable {k:au} {d w:World}
end
end Go.Proofs
end
section
namespace Go.Proofs
open Go Go.E Go.Sort Go.Proofs.Tryz
section
variable {k:au} {d w:World}
theorem tJ {va vb:Value} {a b:List K} (ha:Sl KE 3 w va a) (hb:Sl KE 3 w vb b) (hl:b.length≤2147483647) (hk:∀ w2,bj w w2→k (.bool (decide (a=b))) w2):aX prog 113 #[va,vb] k w:=by
 obtain ⟨aa,ac,rfl⟩:=ha.form
 obtain ⟨ba,bc,rfl⟩:=hb.form
 refine ae [.tmp 4] func113 ?_
 by_cases hlen:a.length=b.length
 rotate_left
 ·have h1:((a.length:Int) != b.length)=true:=by simp; omega
  refine bf @h1 ?_
  have:=hk w (bj.refl _)
  rwa [aF (fun h=>hlen (by rw [h]))] at this
 have h1:((a.length:Int) != b.length)=false:=by simp; omega
 refine bf @h1 ?_
 refine bR (fun i:Nat=>[(1,.slice ba b.length bc),(12,.slice aa a.length ac),(13,.int .i64 a.length),(14,.int .i64 i)])
  (fun i w'=>i≤a.length∧bj w w'∧a.take i=b.take i) (fun i _=>a.length - i) 0 (by kernel_rfl) ?_ ⟨aP _,bj.refl _,rfl⟩ ?_
 ·exact bO
 rintro K2 e i w1 ⟨i2,i3,i4⟩ hK2
 rcases aG i a.length with hi | hi
 rotate_left
 ·have hi':¬ (i:Int) < a.length:=by omega
  refine bf @hi' ?_
  obtain rfl:i=a.length:=by omega
  rw [ah,hlen,ah] at i4
  have:=hk w1 i3
  rwa [aU i4] at this
 have hi':(i:Int) < a.length:=by omega
 obtain ⟨g,f,c,hv',hc,hat⟩:=(ha.inc KE.mono i3.inc).at (by omega)
 obtain ⟨rfl,rfl⟩:=sEq hv'
 obtain ⟨g2,f2,c2,hv2,hc2,hat2⟩:=(hb.inc KE.mono i3.inc).at (by omega)
 obtain ⟨rfl,rfl⟩:ba=some ⟨g2,f2,none⟩∧bc=c2:=by simpa using hv2
 obtain ⟨x,hx⟩:=gEl hi
 obtain ⟨y,hy⟩:∃ y,b[i]? = some y:=⟨_,aC (by omega)⟩
 obtain ⟨h0,h1,h2,h3⟩:=iw (hat i x hx)
 obtain ⟨p0,p1,p2,p3⟩:=iw (hat2 i y hy)
 have x4:=aM (w:=w1) (.cells #[.int .u64 x.tr,.string ⟨x.suf.toArray⟩,.string ⟨x.val.toArray⟩] 88)
 have p0:=x4.cell p0
 have p1:=x4.cell p1
 have p2:=x4.cell p2
 have hib:(i:Int) < b.length:=by omega
 refine fI @hi' @h0 @h1 @h2 ?_
 refine ay (.read 0 (sq [1,2,3] (.read 4 (sq [5] .done)))) ?_
 refine gq @hib @p0 @p1 @p2 @aA ?_
 refine Dc ?_
 by_cases hxy:x=y
 ·rw [aF (fun h=>h hxy)]
  refine an ?_
  refine hK2 _ _ (i+1) ?_ ⟨hi,bj.drew' (i3.trans x4),by rw [bw hx,bw hy,i4,hxy]⟩ (by omega)
  exact bO
 ·rw [aU hxy]
  refine an ?_
  have:=hk _ (bj.drew' (i3.trans x4))
  rwa [aF (fun h=>hxy (by rw [h,hy] at hx; exact (bn hx).symm))] at this
theorem vE {va vb:Value} {a b:Sp} (ha:Sl KE 3 w va a.ks) (hb:Sl KE 3 w vb b.ks) (hl:b.ks.length≤2147483647) (hk:∀ w2,bj w w2→k (.bool (decide (a=b))) w2) :
    aX prog 76 #[.agg #[.string ⟨a.s.toArray⟩,.string ⟨a.e.toArray⟩,va],.agg #[.string ⟨b.s.toArray⟩,.string ⟨b.e.toArray⟩,vb]] k w:=by
 obtain ⟨aa,ac,rfl⟩:=ha.form
 obtain ⟨ba,bc,rfl⟩:=hb.form
 have xA:=(aM (w:=w) (.cells #[.string ⟨a.s.toArray⟩,.string ⟨a.e.toArray⟩,.slice aa a.ks.length ac] 46)).trans (aM (.cells #[.string ⟨b.s.toArray⟩,.string ⟨b.e.toArray⟩,.slice ba b.ks.length bc] 46))
 have no:¬ (a.s=b.s∧a.e=b.e)→decide (a=b)=false:=fun h=>aF fun h2=>h (by rw [h2]; exact ⟨rfl,rfl⟩)
 refine ae [.tmp 4] func76 ?_
 by_cases h1:a.s=b.s
 rotate_left
 ·have g1:=aF h1
  refine dU @aA @g1 ?_
  have:=hk _ xA
  rwa [no fun h=>h1 h.1] at this
 have g1:=aU h1
 by_cases h2:a.e=b.e
 rotate_left
 ·have g2:=aF h2
  refine eA @aA @g1 @g2 ?_
  have:=hk _ xA
  rwa [no fun h=>h2 h.2] at this
 have g2:=aU h2
 refine eA @aA @g1 @g2 ?_
 refine tJ (ha.inc KE.mono xA.inc) (hb.inc KE.mono xA.inc) hl fun w2 x2 => ?_
 have:=hk _ (xA.trans x2)
 have e:decide (a=b)=decide (a.ks=b.ks):=by
  obtain ⟨s1,e1,k1⟩:=a
  obtain ⟨s2,e2,k2⟩:=b
  simp only at h1 h2
  subst h1 h2
  simp [bF]
 rw [e] at this
 refine an ?_
 exact this
theorem tK {va vb:Value} {a b:List Sp} (ha:Sl eJ 3 w va a) (hb:Sl eJ 3 w vb b) (hl:b.length≤2147483647) (hks:∀ x ∈ b,x.ks.length≤2147483647) (hk:∀ w2,bj w w2→k (.bool (decide (a=b))) w2):aX prog 33 #[va,vb] k w:=by
 obtain ⟨aa,ac,rfl⟩:=ha.form
 obtain ⟨ba,bc,rfl⟩:=hb.form
 refine ae [.tmp 4] func33 ?_
 by_cases hlen:a.length=b.length
 rotate_left
 ·have h1:((a.length:Int) != b.length)=true:=by simp; omega
  refine bf @h1 ?_
  have:=hk w (bj.refl _)
  rwa [aF (fun h=>hlen (by rw [h]))] at this
 have h1:((a.length:Int) != b.length)=false:=by simp; omega
 refine bf @h1 ?_
 refine bR (fun i:Nat=>[(1,.slice ba b.length bc),(12,.slice aa a.length ac),(13,.int .i64 a.length),(14,.int .i64 i)])
  (fun i w'=>i≤a.length∧bj w w'∧a.take i=b.take i) (fun i _=>a.length - i) 0 (by kernel_rfl) ?_ ⟨aP _,bj.refl _,rfl⟩ ?_
 ·exact bO
 rintro K2 e i w1 ⟨i2,i3,i4⟩ hK2
 rcases aG i a.length with hi | hi
 rotate_left
 ·have hi':¬ (i:Int) < a.length:=by omega
  refine bf @hi' ?_
  obtain rfl:i=a.length:=by omega
  rw [ah,hlen,ah] at i4
  have:=hk w1 i3
  rwa [aU i4] at this
 have hi':(i:Int) < a.length:=by omega
 obtain ⟨g,f,c,hv',hc,hat⟩:=(ha.inc eJ.mono i3.inc).at (by omega)
 obtain ⟨rfl,rfl⟩:=sEq hv'
 obtain ⟨g2,f2,c2,hv2,hc2,hat2⟩:=(hb.inc eJ.mono i3.inc).at (by omega)
 obtain ⟨rfl,rfl⟩:ba=some ⟨g2,f2,none⟩∧bc=c2:=by simpa using hv2
 obtain ⟨x,hx⟩:=gEl hi
 obtain ⟨y,hy⟩:∃ y,b[i]? = some y:=⟨_,aC (by omega)⟩
 obtain ⟨h0,h1,xa,xc,h2,hxk⟩:=eL (hat i x hx)
 obtain ⟨p0,p1,ya,yc,p2,hyk⟩:=eL (hat2 i y hy)
 obtain ⟨S,hS⟩:∃ S,S=w1.heap.size:=⟨_,rfl⟩
 obtain ⟨w4,hw4⟩:∃ w4,w4=(w1.alloc (.cells #[.string ⟨x.s.toArray⟩,.string ⟨x.e.toArray⟩,.slice xa x.ks.length xc] 46)).drew:=⟨_,rfl⟩
 have x4:bj w1 w4:=by rw [hw4]; exact bj.drew' (aM _)
 have c0:w4.cell? ⟨S,0,none⟩=some (.string ⟨x.s.toArray⟩):=by rw [hw4,hS]; exact bk @aA
 have c1:w4.cell? ⟨S,1,none⟩=some (.string ⟨x.e.toArray⟩):=by rw [hw4,hS]; exact bk @aA
 have c2:w4.cell? ⟨S,2,none⟩=some (.slice xa x.ks.length xc):=by rw [hw4,hS]; exact bk @aA
 have p0:=x4.cell p0
 have p1:=x4.cell p1
 have p2:=x4.cell p2
 have hib:(i:Int) < b.length:=by omega
 refine fI @hi' @h0 @h1 @h2 ?_
 refine ay (.read 0 (sq [1,2,3] (.read 4 (.eff 5 [] (sq [6] .done))))) ?_
 rw [← hS,← hw4]
 refine vO @hib @p0 @p1 @p2 @c0 @c1 @c2 ?_
 refine vE (a:=x) (b:=y) (hxk.inc KE.mono x4.inc) (hyk.inc KE.mono x4.inc) (hks y (aK hy)) fun w5 x5 => ?_
 by_cases hxy:x=y
 ·rw [aU hxy]
  refine pI (x5.cell p0) (x5.cell p1) (x5.cell p2) (x5.cell c0) (x5.cell c1) (x5.cell c2) ?_
  refine hK2 _ _ (i+1) ?_ ⟨hi,i3.trans (x4.trans x5),by rw [bw hx,bw hy,i4,hxy]⟩ (by omega)
  exact bO
 ·rw [aF hxy]
  refine pI (x5.cell p0) (x5.cell p1) (x5.cell p2) (x5.cell c0) (x5.cell c1) (x5.cell c2) ?_
  have:=hk _ (i3.trans (x4.trans x5))
  rwa [aF (fun h=>hxy (by rw [h,hy] at hx; exact (bn hx).symm))] at this
end
end Go.Proofs
end
section
namespace Go.E
open Go Go.Sort Go.Proofs Go.Proofs.Tryz
theorem uB (x:Sp):cT x=⟨x.s,x.e,x.ks.map fun y=>iu y.sv⟩:=by
 unfold cT
 rw [dI]
 rfl
end Go.E
namespace Go.Proofs
open Go Go.E Go.Sort Go.Proofs.Tryz
section
variable {k:au} {d w:World}
theorem tL {v:Value} {l:List Sp} (hv:Sl eJ 3 d v l) (hl:l.length≤100000) (hks:∀ x ∈ l,x.ks.length≤1000000) (hinc:cN d w) (hk:∀ d' w' v',Gr d w d' w'→Sl eJ 3 d' v' (l.map cT)→k v' w'):aX prog 38 #[v] k w:=by
 obtain ⟨ka,kc,rfl⟩:=hv.form
 refine ae [.tmp 2] func38 ?_
 refine an ?_
 refine bR (fun b:Nat × Value=>[(3,b.2),(9,.slice ka l.length kc),(10,.int .i64 l.length),(11,.int .i64 b.1)])
  (fun b w'=>b.1≤l.length∧∃ d1,LoopL eJ 3 46 d w d1 w' b.2 ((l.take b.1).map cT)) (fun b _=>l.length - b.1) (0,.slice none 0 0) (by kernel_rfl) ?_ ⟨aP _,d,LoopL.nil hinc⟩ ?_
 ·exact bO
 rintro K2 e ⟨i,vo⟩ w1 ⟨i2,d1,i3⟩ hK2
 simp only at i2 i3
 rcases aG i l.length with hi | hi
 rotate_left
 ·have hi':¬ (i:Int) < l.length:=by omega
  refine bf @hi' ?_
  obtain rfl:i=l.length:=by omega
  rw [ah] at i3
  obtain ⟨d4,g4,_,_,s4⟩:=i3.done eJ.mono
  exact hk d4 w1 vo g4 s4
 have hi':(i:Int) < l.length:=by omega
 obtain ⟨g,f,c,hv',hc,hat⟩:=(hv.inc eJ.mono (i3.g.i.trans i3.g.j)).at (by omega)
 obtain ⟨rfl,rfl⟩:=sEq hv'
 obtain ⟨x,hx⟩:=gEl hi
 have hxm:=aK hx
 have hxl:=hks x hxm
 obtain ⟨h0,h1,a,cc,h2,hkx⟩:=eL (hat i x hx)
 obtain ⟨B,hB⟩:∃ B,B=w1.heap.size:=⟨_,rfl⟩
 obtain ⟨w4,hw4⟩:∃ w4,w4=((((w1.alloc (.cells #[.string ⟨x.s.toArray⟩,.string ⟨x.e.toArray⟩,.slice a x.ks.length cc] 56)).alloc (.cells #[.string ByteArray.empty,.string ByteArray.empty,.slice none 0 0] 46)).setCell ⟨w1.heap.size+1,0,none⟩ (.string ⟨x.s.toArray⟩)).setCell ⟨w1.heap.size+1,1,none⟩ (.string ⟨x.e.toArray⟩)).setCell ⟨w1.heap.size+1,2,none⟩ (.slice none 0 0):=⟨_,rfl⟩
 have x4:bj w1 w4:=by rw [hw4]; exact cC (cC (cC ((aM _).trans (aM _)) (by omega)) (by omega)) (by omega)
 have z4:w4.heap.size=B+2:=by rw [hw4,hB]; simp only [World.size_setCell,World.size_alloc]
 have c0:w4.cell? ⟨B+1,0,none⟩=some (.string ⟨x.s.toArray⟩):=by rw [hw4,hB]; exact bk @aA
 have c1:w4.cell? ⟨B+1,1,none⟩=some (.string ⟨x.e.toArray⟩):=by rw [hw4,hB]; exact bk @aA
 have c2:w4.cell? ⟨B+1,2,none⟩=some (.slice none 0 0):=by rw [hw4,hB]; exact bk @aA
 have f4:∀ y,w4.frozen? ⟨B+1,y,none⟩=false:=fun y=>by rw [hw4,hB]; exact bk @dA
 refine pI @hi' @h0 @h1 @h2 @aA @dA ?_
 rw [← hw4,← hB]
 refine iq (fun _:Unit=>[(3,vo),(6,.pointer (some ⟨B+1,0,none⟩)),(9,.slice (some ⟨g,f,none⟩) l.length kc),(10,.int .i64 l.length),(11,.int .i64 i)])
  (fun _ w'=>bj w1 w'∧w'.cell? ⟨B+1,0,none⟩=some (.string ⟨x.s.toArray⟩)∧w'.cell? ⟨B+1,1,none⟩=some (.string ⟨x.e.toArray⟩)∧∃ v,w'.cell? ⟨B+1,2,none⟩=some v∧OwnC xw 3 88 w' v (x.ks.map fun y=>iu y.sv)∧∀ g,v.ownBlock=some g→w1.heap.size≤g) (by kernel_rfl) (fun K hK => ?_) ?_
 ·refine bR (fun j:Nat=>[(3,vo),(6,.pointer (some ⟨B+1,0,none⟩)),(9,.slice (some ⟨g,f,none⟩) l.length kc),(10,.int .i64 l.length),(11,.int .i64 i),(21,.slice a x.ks.length cc),(22,.int .i64 x.ks.length),(23,.int .i64 j)])
    (fun j w'=>j≤x.ks.length∧bj w1 w'∧w'.cell? ⟨B+1,0,none⟩=some (.string ⟨x.s.toArray⟩)∧w'.cell? ⟨B+1,1,none⟩=some (.string ⟨x.e.toArray⟩)∧(∀ y,w'.frozen? ⟨B+1,y,none⟩=false) ∧
     ∃ v,w'.cell? ⟨B+1,2,none⟩=some v∧OwnC xw 3 88 w' v ((x.ks.take j).map fun y=>iu y.sv)∧∀ g,v.ownBlock=some g→B+1 < g) (fun j _=>x.ks.length - j) 0 (by kernel_rfl) ?_
     ⟨aP _,x4,c0,c1,f4,_,c2,OwnC.nil rB,by simp [Value.ownBlock]⟩ ?_
  ·exact bO
  rintro K3 e3 j w6 ⟨j1,j2,j4,j5,j6,v,j8,j9,j10⟩ hK3
  have hS6:=aD j8
  rcases aG j x.ks.length with hj | hj
  rotate_left
  ·have hj':¬ (j:Int) < x.ks.length:=by omega
   refine bf @hj' ?_
   obtain rfl:j=x.ks.length:=by omega
   rw [ah] at j9
   refine hK _ _ () ?_ ⟨j2,j4,j5,v,j8,j9,fun g hg=>by have:=j10 g hg; omega⟩
   exact bO
  have hj':(j:Int) < x.ks.length:=by omega
  obtain ⟨g2,f2,cc2,hv2,hc2,hat2⟩:=(hkx.inc KE.mono j2.inc).at (by omega)
  obtain ⟨rfl,rfl⟩:a=some ⟨g2,f2,none⟩∧cc=cc2:=by simpa using hv2
  obtain ⟨y,hy⟩:=gEl hj
  obtain ⟨p0,p1,p2,p3⟩:=iw (hat2 j y hy)
  obtain ⟨w7,hw7⟩:∃ w7,w7=w6.alloc (.cells #[.int .u64 y.tr,.string ⟨y.suf.toArray⟩,.string ⟨y.val.toArray⟩] 62):=⟨_,rfl⟩
  have x7:bj w6 w7:=by rw [hw7]; exact aM _
  have j8':=x7.cell j8
  obtain ⟨va,vc,rfl,_⟩:=j9.form
  refine pI @hj' @p0 @p1 @p2 @j8 @aA ?_
  rw [← hw7]
  refine z8 (iu y.sv) rw44 (j9.ext x7) rfl (.inl rfl) (by rw [hw7,World.size_alloc]) (rC _) (by rw [aS,dS j1]; omega) fun v8 w8 o8 k8 n8 => ?_
  have j10':∀ g,v8.ownBlock=some g→B+1 < g:=fun g hg=>by
   rcases n8 g hg with h | h
   ·exact j10 g h
   ·have:=x7.size; omega
  have nS:(Value.slice va ((x.ks.take j).map fun y=>iu y.sv).length vc).ownBlock≠some (B+1):=fun h=>by have:=j10 _ h; omega
  have q2:=k8.some j8' nS
  have f8:∀ y,w8.frozen? ⟨B+1,y,none⟩=false:=fun y=>by rw [k8.frozen _ y (by have:=x7.size; omega),x7.frozen _ y hS6]; exact j6 y
  obtain ⟨va8,vc8,rfl,_⟩:=o8.form
  refine dU @q2 @f8 ?_
  have k9:Keep (fun b y=>b=B+1∧y=2) w8 (w8.setCell ⟨B+1,2,none⟩ (.slice va8 (((x.ks.take j).map fun y=>iu y.sv)++[iu y.sv]).length vc8)):=bW ⟨rfl,rfl⟩
  refine hK3 _ _ (j+1) ?_ ⟨hj,cC ((j2.trans x7).tr k8 fun b o hb h=>by have:=j10 b h; omega) (by omega),k9.some (k8.some (x7.cell j4) nS) (by omega),k9.some (k8.some (x7.cell j5) nS) (by omega),fun y=>by rw [World.frozen?_setCell]; exact f8 y,
   _,by rw [bu,q2]; rfl,?_,j10'⟩ (by omega)
  ·exact bO
  ·rw [bw hy,bH]
   exact o8.keep k9 fun g hg o h=>by have:=j10' g hg; omega
 rintro e _ w6 ⟨j2,c0,c1,v,c2,o6,n6⟩
 obtain ⟨d5,g5,e5⟩:=tq i3.g.j j2
 have i6:=i3.call eJ.mono g5
 have hsl:Sl KE 3 d5 v (x.ks.map fun y=>iu y.sv):=o6.slg (fun y hy=>by
  obtain ⟨p,_,rfl⟩:=bU.1 hy
  exact ⟨rfl,show (0:Nat) < _ by decide⟩) fun g hg o u hu=>e5 _ _ _ (n6 g hg) hu
 obtain ⟨va,vc,rfl,_⟩:=o6.form
 obtain ⟨vo1,vo2,rfl,_⟩:=i6.form
 obtain ⟨css,oo⟩:=i6.o
 refine eA @c0 @c1 @c2 ?_
 refine ju (cT x) [.string ⟨x.s.toArray⟩,.string ⟨x.e.toArray⟩,.slice va (x.ks.map fun y=>iu y.sv).length vc] rw28 oo (by rw [uB]; exact ⟨_,rfl,hsl⟩) rfl (.inl rfl) rfl rfl (by simp [Value.oneCell']) (by rw [aS,dS i2]; omega) i6.g.j fun v8 w8 o8 k8 n8 j8 _ => ?_
 refine an ?_
 refine hK2 _ _ (i+1,v8) ?_ ⟨hi,d5,by simp only; rw [bw hx,bH]; exact i6.more o8 k8 n8 j8⟩ (by simp only; omega)
 exact bO
end
end Go.Proofs
end
section
namespace Go.E
open Go Go.Sort Go.Proofs Go.Proofs.Tryz
def Dd:Sp:=⟨[97],[98],[⟨277,[115],[]⟩]⟩
def Di:List (List Sp):=[[Dd]]
theorem GR:dw Di.flatten=[Dd]:=by decide +kernel
theorem ID:tu Di.flatten 2 none none=[⟨[97],[98],[⟨0,[115],[]⟩]⟩]:=by decide +kernel
theorem AD {α:Type} {R:iK α} {sz N:Nat} {d:World} {cs:List Value} {x:α} (hl:cs.length=sz) (hc:∀ (j:Nat) u,cs[j]? = some u→d.cell? ⟨N,j,none⟩=some u) (hR:R d cs x):Sl R sz d (.slice (some ⟨N,0,none⟩) 1 1) [x]:=by
 refine ⟨fun _=>rfl,rfl,aE _,fun i y hy => ?_⟩
 rcases i with _ | i
 ·obtain rfl:x=y:=by simpa using hy
  refine ⟨cs,hl,fun j u hu => ?_,hR⟩
  rw [show 0+0 * sz+j=j by omega]
  exact hc j u hu
 ·simp at hy
theorem Jw:Wf [Dd]:=by
 refine ⟨fun i hi => ?_,fun i j h1 h2 => ?_⟩
 ·obtain rfl:i=0:=by simp at hi; omega
  decide
 ·simp at h2; omega
theorem xP:LvOk Di 8:=by
 have h1:∀ L ∈ Di,L=[Dd]:=fun L h=>by simpa [Di] using h
 refine ⟨by decide,fun L h=>by rw [h1 L h]; decide,fun L h=>by rw [h1 L h]; exact Jw,fun L h s hs => ?_,fun f hf => ?_⟩
 ·rw [h1 L h] at hs
  rw [aQ.1 hs]
  exact ⟨by simp [Dd],by decide⟩
 ·rw [GR] at hf
  rw [aQ.1 hf]
  refine ⟨fun x hx => ?_,by simp [Dd]⟩
  have:x=⟨277,[115],[]⟩:=by simpa [Dd] using hx
  subst this
  exact ⟨.inr (.inr (by decide)),fun h=>by simp [bI] at h,fun h=>by simp [bI] at h⟩
theorem JC:RIn Di 2 none none:=by
 have h1:∀ L ∈ Di,L=[Dd]:=fun L h=>by simpa [Di] using h
 refine ⟨by decide,by decide,xP.wf,fun L h => ?_,xP.cdF,?_⟩
 ·rw [h1 L h]
  refine ⟨by decide,fun s hs => ?_⟩
  rw [aQ.1 hs]
  refine ⟨by decide,by decide,by decide,by simp [Dd],fun x hx => ?_⟩
  have:x=⟨277,[115],[]⟩:=by simpa [Dd] using hx
  subst this
  exact ⟨by decide,by decide⟩
 ·exact fun l h hl=>by cases hl
end Go.E
namespace Go.Proofs
open Go Go.E Go.Sort Go.Proofs.Tryz
section
variable {k:au} {d w:World}
theorem tM {v:Value} {l:List An} {a:An} (hv:Sl yx 5 w v l) (hl:l=[a]) (hok:a.ok=true) (hk:k (.bool true) w):aX prog 73 #[v] k w:=by
 subst hl
 obtain ⟨ka,kc,rfl⟩:=hv.form
 obtain ⟨g,f,c,hv',hc,hat⟩:=hv.at (by simp)
 obtain ⟨rfl,rfl⟩:=sEq hv'
 obtain ⟨h0,h1,h2,h3,xa,xc,h4,hxk⟩:=pj (hat 0 a rfl)
 rw [hok] at h1
 simp only [Nat.zero_mul,Nat.add_zero] at h1
 refine ae [.tmp 2] func73 ?_
 have e1:(((1:Nat):Int) == 1)=true:=rfl
 have e2:(0:Int) < ((1:Nat):Int):=by decide
 simp (disch:=first | exact dZ | fail) only [go_sem,h1,ar,e1,e2,Int.toNat_zero,Nat.zero_mul,Nat.add_zero]
 exact hk
theorem sP (hinc:cN d w) (hk:∀ w2,bj w w2→k (.bool true) w2):aX prog 22 #[] k w:=by
 refine ae [.tmp 0] func22 ?_
 refine an ?_
 refine ae [.tmp 0] func72 ?_
 refine an ?_
 obtain ⟨A,hA⟩:∃ A,A=w.heap.size:=⟨_,rfl⟩
 have eS:ByteArray.empty=⟨([]:Bytes).toArray⟩:=rfl
 obtain ⟨W,hW⟩:∃ W,W=(((w.alloc (.cells #[.int .u64 277,.string ⟨#[115]⟩,.string ByteArray.empty] 62)).alloc (.cells #[.string ⟨#[97]⟩,.string ⟨#[98]⟩,.slice (some ⟨w.heap.size,0,none⟩) 1 1] 56)).alloc (.cells #[.slice (some ⟨w.heap.size+1,0,none⟩) 1 1] 74)).alloc (.cells #[.int .u8 0,.string ByteArray.empty] 53):=⟨_,rfl⟩
 have xW:bj w W:=by rw [hW]; exact (((aM _).trans (aM _)).trans (aM _)).trans (aM _)
 have k0:W.cell? ⟨A,0,none⟩=some (.int .u64 277):=by rw [hW,hA]; exact bk @aA
 have k1:W.cell? ⟨A,1,none⟩=some (.string ⟨#[115]⟩):=by rw [hW,hA]; exact bk @aA
 have k2:W.cell? ⟨A,2,none⟩=some (.string ByteArray.empty):=by rw [hW,hA]; exact bk @aA
 have s0:W.cell? ⟨A+1,0,none⟩=some (.string ⟨#[97]⟩):=by rw [hW,hA]; exact bk @aA
 have s1:W.cell? ⟨A+1,1,none⟩=some (.string ⟨#[98]⟩):=by rw [hW,hA]; exact bk @aA
 have s2:W.cell? ⟨A+1,2,none⟩=some (.slice (some ⟨A,0,none⟩) 1 1):=by rw [hW,hA]; exact bk @aA
 have l0:W.cell? ⟨A+1+1,0,none⟩=some (.slice (some ⟨A+1,0,none⟩) 1 1):=by rw [hW,hA]; exact bk @aA
 have t0:W.cell? ⟨A+1+1+1,0,none⟩=some (.int .u8 0):=by rw [hW,hA]; exact bk @aA
 have t1:W.cell? ⟨A+1+1+1,1,none⟩=some (.string ByteArray.empty):=by rw [hW,hA]; exact bk @aA
 rw [← hW,← hA]
 obtain ⟨d4,g4,e4⟩:=tq hinc xW
 have sk:Sl KE 3 d4 (.slice (some ⟨A,0,none⟩) 1 1) [⟨277,[115],[]⟩]:=AD (cs:=[.int .u64 277,str [115],str []]) rfl (fun j u hu=>by
  match j,hu with
  | 0,hu=>obtain rfl:=bn hu; exact e4 _ _ _ (by omega) k0
  | 1,hu=>obtain rfl:=bn hu; exact e4 _ _ _ (by omega) k1
  | 2,hu=>obtain rfl:=bn hu; exact e4 _ _ _ (by omega) k2) ⟨rfl,by decide⟩
 have ss:Sl eJ 3 d4 (.slice (some ⟨A+1,0,none⟩) 1 1) [Dd]:=Ju (e4 _ _ _ (by omega) s0) (e4 _ _ _ (by omega) s1) (e4 _ _ _ (by omega) s2) sk
 have sl:Sl mf 1 d4 (.slice (some ⟨A+1+1,0,none⟩) 1 1) Di:=AD (cs:=[.slice (some ⟨A+1,0,none⟩) 1 1]) rfl (fun j u hu=>by
  match j,hu with
  | 0,hu=>obtain rfl:=bn hu; exact e4 _ _ _ (by omega) l0) ⟨_,rfl,ss⟩
 have st:Sl DA 2 d4 (.slice (some ⟨A+1+1+1,0,none⟩) 1 1) [(0,[])]:=AD (cs:=[.int .u8 0,str []]) rfl (fun j u hu=>by
  match j,hu with
  | 0,hu=>obtain rfl:=bn hu; exact e4 _ _ _ (by omega) t0
  | 1,hu=>obtain rfl:=bn hu; exact e4 _ _ _ (by omega) t1) ⟨rfl,by decide⟩
 rw [eS]
 have stok:En (qs [] false) (qs [] false) [(0,[])]:=fun x hx=>by
  rw [aQ.1 hx]
  exact ⟨fun _=>rfl,fun _=>rfl,fun h=>by simp at h,by decide⟩
 refine nJ (kl:=[]) (kh:=[]) (bl:=false) (bh:=false) sl st g4.j JC (by decide) (by decide) stok (by decide) fun d5 w5 v l g5 s5 hp => ?_
 have hv0:(rV Di 2 none none).map cT=[⟨[97],[98],[⟨0,[115],[]⟩]⟩]:=by
  rw [← zu xP.wf (fun L h s hs=>(xP.ks L h s hs).1) xP.cdF]
  exact ID
 obtain ⟨V,hV⟩:∃ V,V=rV Di 2 none none:=⟨_,rfl⟩
 have hp:Pw (nE V rz) (pX V (-2) false 0 [(0,[])]) l:=by rw [hV]; exact hp
 rw [← hV] at hv0
 have hVl:V.length=1:=by have:=congrArg List.length hv0; simpa using this
 have hw0:pX V (-2) false 0 [(0,[])]=[some 0]:=rfl
 rw [hw0] at hp
 obtain ⟨a,rfl⟩:∃ a,l=[a]:=by
  have:=hp.1
  match l,this with
  | [a],_=>exact ⟨a,rfl⟩
 obtain ⟨h1,h2,h3,h4⟩:=hp.2 0 _ _ rfl rfl
 have hok:a.ok=true:=by rw [h2]; exact aU ⟨Int.le_refl _,by omega⟩
 obtain ⟨_,_,h5,_⟩:=h3 0 rfl (by omega)
 have hkl:a.sp.ks.length=1:=by
  have e1:=congrArg List.length h5
  rw [aS,aS] at e1
  have e2:((V.map cT)[0]!).ks.length=1:=by rw [hv0]; rfl
  rw [aH (V.map cT) 0 (by simp; omega),iZ,uB,aS] at e2
  rw [aH V 0 (by omega)] at e1
  rw [e1,e2]
 have s6:=s5.inc yx.mono g5.j
 obtain ⟨va,vc,rfl⟩:=s6.form
 obtain ⟨g,f,c,hv',hc,hat⟩:=s6.at (by simp)
 obtain ⟨rfl,rfl⟩:=sEq hv'
 obtain ⟨_,_,_,_,xa,xc,p4,_⟩:=pj (hat 0 a rfl)
 simp only [Nat.zero_mul,Nat.add_zero,hkl] at p4
 refine an ?_
 refine tM s6 rfl hok ?_
 have e1:(((1:Nat):Int) == 1)=true:=rfl
 have e2:(0:Int) < ((1:Nat):Int):=by decide
 simp (disch:=first | exact dZ | fail) only [go_sem,p4,ar,e1,e2,Int.toNat_zero,Nat.zero_mul,Nat.add_zero]
 exact hk _ (xW.trans g5.x)
end
end Go.Proofs
end
section
namespace Go.E
open Go Go.Sort Go.Proofs
theorem vF (G:List Sp):GB G none none=G:=by
 show (G.take G.length).drop 0=G
 rw [ah,List.drop_zero]
theorem pD (x:Sp):(cT x).ks=x.ks.map fun y=>iu y.sv:=by unfold cT; rw [dI]; rfl
theorem Be (V:List Sp):(V.map cT).filter (fun s=>decide (s.ks≠[]))=(gZ V).map cT:=by
 unfold gZ
 rw [List.filter_map]
 congr 1
 refine List.filter_congr fun s _ => ?_
 rw [Function.comp_apply,pD,decide_eq_decide,ne_eq,ne_eq,List.map_eq_nil_iff]
def GS (m:Nat):List (Nat × Bytes):=(0,[]) :: List.replicate m (2,[])
def JD (m:Nat):List (Nat × Bytes):=(1,[]) :: List.replicate m (3,[])
theorem Bg {V:List Sp} {KS:List K→Prop} {m:Nat} {l:List An} (hm:V.length≤m+1) (h:Pw (nE V KS) (pX V (-2) false 0 (GS m)) l):(mI l).map cT=V.map cT:=by
 rw [(DO h).1]
 unfold GS
 rw [BY V m hm]
 exact ur V
theorem zL {V l:List Sp} {m:Nat} (h:l.map cT=V.map cT) (hm:∀ x ∈ V,x.ks.length≤m):∀ x ∈ l,x.ks.length≤m:=fun x hx=>by
 have h1:cT x ∈ V.map cT:=by rw [← h]; exact List.mem_map_of_mem hx
 obtain ⟨y,hy,e⟩:=bU.1 h1
 have:=congrArg (fun s:Sp=>s.ks.length) e
 simp only [pD,aS] at this
 rw [← this]
 exact hm y hy
section
variable {Lv:List (List Sp)} {n snap:Nat} {x:Bytes}
end
section
variable {Lv:List (List Sp)} {n snap:Nat}
theorem GT (lo:LvOk Lv n) (hn:n≤900) (hsn:snap < 18446744073709551616) (f2:∀ x ∈ Lv,x.length≤2147483647∧∀ y ∈ x,sA y) {l h:Option Bytes} (hb:wT l h):RIn Lv snap l h :=
 ⟨by have:=lo.n6; omega,hsn,lo.wf,fun L h=>⟨by have:=lo.sz L h; omega,fun s hs=>by
  obtain ⟨q1,q2,q3,q4⟩:=(f2 L h).2 s hs
  refine ⟨by omega,by omega,by have:=(lo.ks L h s hs).2; omega,(lo.ks L h s hs).1,fun x hx => ?_⟩
  obtain ⟨q5,q6⟩:=q4 x hx
  exact ⟨by omega,by omega⟩⟩,lo.cdF,hb⟩
theorem uC:wT none none:=fun l h hl=>by cases hl
theorem Bh (Lv:List (List Sp)) (snap:Nat):(rV Lv snap none none).length≤2 * Lv.flatten.length+1:=by
 rw [rV,vF]
 exact xJ Lv snap
theorem IE {m:Nat} (r:RIn Lv snap none none) (hm:∀ L ∈ Lv,∀ s ∈ L,s.ks.length≤m):∀ x ∈ rV Lv snap none none,x.ks.length≤Lv.flatten.length * m:=fun x hx=>by
 have hv:tu Lv.flatten snap none none=(rV Lv snap none none).map cT:=zu r.wf (fun L h s hs=>((r.len L h).2 s hs).2.2.2.1) r.cd none none
 have:=DY (l:=Lv.flatten) (snap:=snap) (m:=m) (lo:=none) (hi:=none) (fun y hy=>by
  obtain ⟨L,hL,hy⟩:=cu.1 hy
  exact hm L hL y hy) (cT x) (by rw [hv]; exact List.mem_map_of_mem hx)
 rw [pD,aS] at this
 exact this
theorem IF (m:Nat):En none none (GS m)∧En none none (JD m):=by
 have h:∀ (a b:Nat) (x:Nat × Bytes),x ∈ ((a,[]) :: List.replicate m (b,[]):List (Nat × Bytes))→x.2=[]:=fun a b x hx=>by
  rcases al.1 hx with rfl | hx
  ·rfl
  ·rw [List.eq_of_mem_replicate hx]
 have k:∀ x,um none none x:=fun x=>⟨fun l h=>(by cases h),fun l h=>(by cases h)⟩
 exact ⟨fun x hx=>⟨fun _=>rfl,fun _=>rfl,fun _=>k _,by rw [h _ _ x hx]; decide⟩,fun x hx=>⟨fun _=>rfl,fun _=>rfl,fun _=>k _,by rw [h _ _ x hx]; decide⟩⟩
theorem uD (m:Nat):(GS m).length=m+1∧(JD m).length=m+1:=by simp [GS,JD]
end
end Go.E
end
section
namespace Go.E
open Go Go.Sort Go.Proofs Go.Proofs.Tryz
theorem LoopL.one {α:Type} {R:iK α} {sz:Nat} {el:TypeId} {d w:World} {x:α} {cs:List Value} (h:cN d w) (hR:R d cs x) (hs:cs.length=sz) :
    LoopL R sz el d w d (w.alloc (.cells cs.toArray el)) (.slice (some ⟨w.heap.size,0,none⟩) 1 1) [x]:=by
 refine ⟨Gr.ext h (aM _),⟨[cs],rfl,⟨by simp [hs],.inr ⟨w.heap.size,1,cs.toArray,rfl,aP _,(show (w.heap.push _)[w.heap.size]? = _ from Array.getElem?_push_size),aE _,by decide,by simp [hs],by simp [← hs]⟩⟩,fun c hc=>by rw [aQ.1 hc]; exact hs,fun i y c hy hc => ?_,fun g hg => ?_⟩,fun b hb => ?_⟩
 ·rcases i with _ | i
  ·obtain rfl:=bn hy
   obtain rfl:=bn hc
   exact hR
  ·simp at hy
 ·obtain rfl:=bn hg
  exact h.out (aE _)
 ·obtain rfl:=bn hb
  exact aE _
end Go.E
namespace Go.Proofs
open Go Go.E Go.Sort Go.Proofs.Tryz
section
variable {k:au} {d w:World}
theorem tN {n:Nat} (hn:n≤1000) (hinc:cN d w) (hk:∀ d' w' v,Gr d w d' w'→Sl DA 2 d' v (GS n)→k v w'):aX prog 36 #[.int .i64 n] k w:=by
 refine ae [.tmp 2] func36 ?_
 refine an ?_
 have i0:LoopL DA 2 53 d w d (w.alloc (.cells #[.int .u8 0,.string ByteArray.empty] 53)) (.slice (some ⟨w.heap.size,0,none⟩) 1 1) [(0,[])]:=LoopL.one (cs:=[.int .u8 0,str []]) hinc ⟨rfl,by decide⟩ rfl
 refine bR (fun b:Nat × Value=>[(3,b.2),(6,.int .i64 n),(7,.int .i64 b.1)])
  (fun b w'=>b.1≤n∧∃ d1,LoopL DA 2 53 d w d1 w' b.2 ((0,[]) :: List.replicate b.1 (2,[]))) (fun b _=>n - b.1) (0,.slice (some ⟨w.heap.size,0,none⟩) 1 1) (by kernel_rfl) ?_ ⟨aP _,d,i0⟩ ?_
 ·exact bO
 rintro K2 e ⟨i,v⟩ w1 ⟨i2,d1,i3⟩ hK2
 simp only at i2 i3
 rcases aG i n with hi | hi
 rotate_left
 ·have hi':¬ (i:Int) < n:=by omega
  refine bf @hi' ?_
  obtain rfl:i=n:=by omega
  obtain ⟨d2,g2,_,_,s2⟩:=i3.done DA.mono
  exact hk d2 w1 v g2 s2
 have hi':(i:Int) < n:=by omega
 obtain ⟨css,o3⟩:=i3.o
 obtain ⟨va,vcap,rfl,_⟩:=i3.form
 refine bf @hi' ?_
 refine ju ((2,[]):Nat × Bytes) [.int .u8 2,str []] rw38 o3 ⟨rfl,by decide⟩ rfl (.inl rfl) rfl rfl (by simp [Value.oneCell',str]) (by rw [aY,List.length_replicate]; omega) i3.g.j fun v2 w2 o2 k2 n2 j2 _ => ?_
 refine an ?_
 refine hK2 _ _ (i+1,v2) ?_ ⟨hi,d1,?_⟩ (by simp only; omega)
 ·exact bO
 ·simp only
  rw [List.replicate_succ',← List.cons_append]
  exact i3.more o2 k2 n2 j2
theorem vG {v:Value} {l:List An} (hv:Sl yx 5 d v l) (hl:l.length≤100000) (hinc:cN d w) (hk:∀ d' w' v',Gr d w d' w'→Sl eJ 3 d' v' (mI l)→k v' w'):aX prog 35 #[v] k w:=by
 obtain ⟨ka,kc,rfl⟩:=hv.form
 refine ae [.tmp 2] func35 ?_
 refine an ?_
 refine bR (fun b:Nat × Value=>[(3,b.2),(6,.slice ka l.length kc),(7,.int .i64 l.length),(8,.int .i64 b.1)])
  (fun b w'=>b.1≤l.length∧∃ d1,LoopL eJ 3 56 d w d1 w' b.2 (mI (l.take b.1))) (fun b _=>l.length - b.1) (0,.slice none 0 0) (by kernel_rfl) ?_ ⟨aP _,d,LoopL.nil hinc⟩ ?_
 ·exact bO
 rintro K2 e ⟨i,v⟩ w1 ⟨i2,d1,i3⟩ hK2
 simp only at i2 i3
 rcases aG i l.length with hi | hi
 rotate_left
 ·have hi':¬ (i:Int) < l.length:=by omega
  refine bf @hi' ?_
  obtain rfl:i=l.length:=by omega
  rw [ah] at i3
  obtain ⟨d2,g2,_,_,s2⟩:=i3.done eJ.mono
  exact hk d2 w1 v g2 s2
 have hi':(i:Int) < l.length:=by omega
 obtain ⟨g,f,c,hv',hc,hat⟩:=(hv.inc yx.mono i3.g.i).at (by omega)
 obtain ⟨rfl,rfl⟩:=sEq hv'
 obtain ⟨x,hx⟩:=gEl hi
 obtain ⟨h0,h1,h2,h3,xa,xc,h4,hxk⟩:=pj (hat i x hx)
 have h0:=i3.g.j _ _ _ h0
 have h1:=i3.g.j _ _ _ h1
 have h2:=i3.g.j _ _ _ h2
 have h3:=i3.g.j _ _ _ h3
 have h4:=i3.g.j _ _ _ h4
 have hmore:mI (l.take (i+1))=mI (l.take i)++if x.ok then [x.sp] else []:=by
  rw [bw hx]
  unfold mI
  rw [List.filter_append,bH]
  cases h:x.ok <;> simp [List.filter_cons,h]
 obtain ⟨T,hT⟩:∃ T,T=w1.heap.size:=⟨_,rfl⟩
 obtain ⟨w2,hw2⟩:∃ w2,w2=w1.alloc (.cells #[.bool x.dn,.bool x.ok,.string ⟨x.sp.s.toArray⟩,.string ⟨x.sp.e.toArray⟩,.slice xa x.sp.ks.length xc] 58):=⟨_,rfl⟩
 have x2:bj w1 w2:=by rw [hw2]; exact aM _
 have a1:w2.cell? ⟨T,1,none⟩=some (.bool x.ok):=by rw [hw2,hT]; exact bk @aA
 have a2:w2.cell? ⟨T,2,none⟩=some (.string ⟨x.sp.s.toArray⟩):=by rw [hw2,hT]; exact bk @aA
 have a3:w2.cell? ⟨T,3,none⟩=some (.string ⟨x.sp.e.toArray⟩):=by rw [hw2,hT]; exact bk @aA
 have a4:w2.cell? ⟨T,4,none⟩=some (.slice xa x.sp.ks.length xc):=by rw [hw2,hT]; exact bk @aA
 have i5:=i3.ext eJ.mono x2
 refine vO @hi' @h0 @h1 @h2 @h3 @h4 @aA ?_
 rw [← hw2,← hT]
 cases hok:x.ok with
 | false =>
  rw [hok] at a1 hmore
  refine bf @a1 ?_
  refine hK2 _ _ (i+1,v) ?_ ⟨hi,d1,?_⟩ (by simp only; omega)
  ·exact bO
  ·simp only
   rw [hmore,if_neg (by decide),av]
   exact i5
 | true =>
  rw [hok] at a1 hmore
  obtain ⟨css,o5⟩:=i5.o
  obtain ⟨va,vcap,rfl,_⟩:=i5.form
  have hfl:(mI (l.take i)).length≤i:=by
   unfold mI
   rw [aS]
   refine ai (bz _ _) ?_
   rw [bB]; omega
  refine fI @a1 @a2 @a3 @a4 ?_
  refine ju x.sp [.string ⟨x.sp.s.toArray⟩,.string ⟨x.sp.e.toArray⟩,.slice xa x.sp.ks.length xc] rw74 o5 ⟨_,rfl,hxk⟩ rfl (.inl rfl) rfl rfl (by simp [Value.oneCell']) (by omega) i5.g.j fun v6 w6 o6 k6 n6 j6 _ => ?_
  refine an ?_
  refine hK2 _ _ (i+1,v6) ?_ ⟨hi,d1,?_⟩ (by simp only; omega)
  ·exact bO
  ·simp only
   rw [hmore,if_pos rfl]
   exact i5.more o6 k6 n6 j6
end
end Go.Proofs
end
section
namespace Go.E
open Go Go.Sort Go.Proofs Go.Proofs.Tryz
structure SR where
 x:Sp
 sv:Value
 ev:Value
 kv:Value
 deriving Inhabited
def SR.good (d:World) (x:SR):Prop:=eN d x.sv x.x.s∧eN d x.ev x.x.e∧mn x.sv=true∧mn x.ev=true∧Sl KB 3 d x.kv x.x.ks
def SR.cells (x:SR):List Value:=[x.sv,x.ev,x.kv,.int .i8 0]
def jd (l:List SR):List Value:=l.flatMap SR.cells
theorem iy (x:SR) (l:List SR):jd (x :: l)=x.sv :: x.ev :: x.kv :: .int .i8 0 :: jd l:=rfl
theorem sQ (l m:List SR):jd (l++m)=jd l++jd m:=by simp [jd]
theorem sR (l:List SR):(jd l).length=l.length * 4:=by
 induction l with
 | nil=>rfl
 | cons x l ih=>rw [iy]; simp [ih]; omega
theorem Dn (l:List SR) (n:Nat):(jd l).take (n * 4)=jd (l.take n):=by
 induction l generalizing n with
 | nil=>simp [jd]
 | cons x l ih =>
  cases n with
  | zero=>simp [jd]
  | succ n=>rw [iy,List.take_succ_cons,iy,← ih,show (n+1) * 4=n * 4+1+1+1+1 by omega]; rfl
theorem pq {l:List SR} {i:Nat} {x:SR} (h:l[i]? = some x):(jd l)[i * 4]? = some x.sv∧(jd l)[i * 4+1]? = some x.ev∧(jd l)[i * 4+2]? = some x.kv∧(jd l)[i * 4+3]? = some (.int .i8 0):=by
 induction l generalizing i with
 | nil=>simp at h
 | cons y l ih =>
  rw [iy]
  cases i with
  | zero =>
   simp only [List.getElem?_cons_zero,aL] at h
   subst h
   exact ⟨rfl,rfl,rfl,rfl⟩
  | succ i =>
   have:=ih (i:=i) (by simpa using h)
   rw [show (i+1) * 4=i * 4+4 by omega]
   exact this
theorem vH (l:List SR) (i:Nat) (x:SR) (h:i < l.length):((((jd l).set (i * 4) x.sv).set (i * 4+1) x.ev).set (i * 4+2) x.kv).set (i * 4+3) (.int .i8 0)=jd (l.set i x):=by
 induction l generalizing i with
 | nil=>simp at h
 | cons y l ih =>
  rw [iy]
  cases i with
  | zero=>rfl
  | succ i =>
   have:=ih i (by simpa using h)
   have e:(y :: l).set (i+1) x=y :: l.set i x:=rfl
   rw [show (i+1) * 4=i * 4+4 by omega,e,iy,← this]
   rfl
structure SRow (d w0 w:World) (Hb ho g cap:Nat) (a:Array SR):Prop where
 hd:w.cell? ⟨Hb,ho,none⟩=some (.slice (some ⟨g,0,none⟩) a.size cap)
 own:w.ownsRow 0 114 4 (.slice (some ⟨g,0,none⟩) a.size cap) a.size (jd a.toList)
 good:∀ x,x ∈ a.toList→x.good d
 keep:Keep (fun b _=>b=g) w0 w
 inc0:cN d w0
 lt:g < w0.heap.size
 hb:Hb < w0.heap.size
 ne:Hb≠g
 out:cx d g
structure SOwn (d w:World) (Hb ho:Nat) (v:Value) (l:List SR):Prop where
 hd:w.cell? ⟨Hb,ho,none⟩=some v
 own:w.ownsRow 0 114 4 v l.length (jd l)
 good:∀ x,x ∈ l→x.good d
section
variable {d w0 w:World} {Hb ho g cap:Nat} {a:Array SR}
theorem SRow.inc (h:SRow d w0 w Hb ho g cap a):cN d w:=h.inc0.keep h.keep (by rintro x _ rfl; exact h.out _)
theorem SRow.at (h:SRow d w0 w Hb ho g cap a) {i:Nat} (hi:i < a.size) :
    w.cell? ⟨g,i * 4,none⟩=some a[i]!.sv∧w.cell? ⟨g,i * 4+1,none⟩=some a[i]!.ev∧w.cell? ⟨g,i * 4+2,none⟩=some a[i]!.kv∧w.cell? ⟨g,i * 4+3,none⟩=some (.int .i8 0)∧a[i]!.good d:=by
 have e:a.toList[i]? = some a[i]! := by rw [aH a i hi]; simp [hi]
 obtain ⟨h1,h2,h3,h4⟩:=pq e
 exact ⟨bL h.own h1,bL h.own h2,bL h.own h3,bL h.own h4,h.good _ (aK e)⟩
theorem SRow.swapped (h:SRow d w0 w Hb ho g cap a) {i j:Nat} (hi:i < a.size) (hj:j < a.size) :
    SRow d w0 ((((((((w.setCell ⟨g,i * 4,none⟩ a[j]!.sv).setCell ⟨g,i * 4+1,none⟩ a[j]!.ev).setCell ⟨g,i * 4+2,none⟩ a[j]!.kv).setCell ⟨g,i * 4+3,none⟩ (.int .i8 0)).setCell ⟨g,j * 4,none⟩ a[i]!.sv).setCell ⟨g,j * 4+1,none⟩ a[i]!.ev).setCell ⟨g,j * 4+2,none⟩ a[i]!.kv).setCell ⟨g,j * 4+3,none⟩ (.int .i8 0)) Hb ho g cap (swp a i j):=by
 have e1:=cS (cS (cS (cS (cS (cS (cS (cS h.own (i * 4) a[j]!.sv) (i * 4+1) a[j]!.ev) (i * 4+2) a[j]!.kv) (i * 4+3) (.int .i8 0)) (j * 4) a[i]!.sv) (j * 4+1) a[i]!.ev) (j * 4+2) a[i]!.kv) (j * 4+3) (.int .i8 0)
 rw [vH _ _ _ (by simpa using hi),vH _ _ _ (by simpa using hj)] at e1
 have ne:=h.ne
 have ne2:=Ne.symm ne
 have es:(swp a i j).toList=(a.toList.set i a[j]!).set j a[i]! := by simp [swp]
 have hz:(swp a i j).size=a.size:=swp_size a i j
 refine ⟨?_,?_,?_,?_,h.inc0,h.lt,h.hb,ne,h.out⟩
 ·have:=h.hd
  rw [hz]
  exact bk @this
 ·rw [hz,es]; exact e1
 ·intro x hx
  rw [es] at hx
  rcases List.mem_or_eq_of_mem_set hx with hx | rfl
  ·rcases List.mem_or_eq_of_mem_set hx with hx | rfl
   ·exact h.good x hx
   ·exact (h.at hj).2.2.2.2
  ·exact (h.at hi).2.2.2.2
 ·exact ((((((((h.keep.set (fun _=>rfl)).set (fun _=>rfl)).set (fun _=>rfl)).set (fun _=>rfl)).set (fun _=>rfl)).set (fun _=>rfl)).set (fun _=>rfl)).set (fun _=>rfl))
theorem SRow.drew (h:SRow d w0 w Hb ho g cap a):SRow d w0 w.drew Hb ho g cap a:=⟨h.hd,h.own.drew,h.good,h.keep.drew,h.inc0,h.lt,h.hb,h.ne,h.out⟩
theorem SRow.alloc (h:SRow d w0 w Hb ho g cap a) (ob:Obj):SRow d w0 (w.alloc ob) Hb ho g cap a:=⟨(aM ob).cell h.hd,h.own.alloc ob,h.good,h.keep.alloc ob,h.inc0,h.lt,h.hb,h.ne,h.out⟩
theorem SRow.set {b o:Nat} {v:Value} (h:SRow d w0 w Hb ho g cap a) (hb:w0.heap.size≤b):SRow d w0 (w.setCell ⟨b,o,none⟩ v) Hb ho g cap a:=by
 have h1:=h.lt
 have h2:=h.hb
 have kk:Keep (fun x _=>x=b) w (w.setCell ⟨b,o,none⟩ v):=bW rfl
 refine ⟨kk.some h.hd (by omega),aT h.own kk (fun g' hg o' he => ?_),h.good,h.keep.set (fun hlt=>by omega),h.inc0,h1,h2,h.ne,h.out⟩
 simp only [Value.ownBlock,aL] at hg
 omega
end
end Go.E
namespace Go.Proofs
open Go Go.E Go.Sort Go.Proofs.Tryz
section
variable {k:au} {d w0 w:World} {Hb ho g cap:Nat} {a:Array SR}
def EI (x y:SR):Bool:=decide (x.x.s < y.x.s)
theorem AE:SWO EI where
 irrefl x:=by unfold EI; simp
 trans x y z:=by unfold EI; simp; grind
 ntrans x y z:=by unfold EI; simp; grind
def EJ (x y:SR):Bool:=decide (x.x.e < y.x.e)
theorem AF:SWO EJ where
 irrefl x:=by unfold EJ; simp
 trans x y z:=by unfold EJ; simp; grind
 ntrans x y z:=by unfold EJ; simp; grind
theorem xQ (h:SRow d w0 w Hb (ho+1) g cap a) (hc:w.cell? ⟨Hb,ho,none⟩=some (.func (.func 102) #[] #[])) {i j:Nat} (hi:i < a.size) (hj:j < a.size) (hk:k (.bool (EI a[i]! a[j]!)) w.drew) :
    aX prog 268 #[.pointer (some ⟨Hb,ho,none⟩),.int .i64 i,.int .i64 j] k w:=by
 have c0:=h.hd
 obtain ⟨p1,p2,_,_,pg⟩:=h.at hi
 obtain ⟨q1,q2,_,_,qg⟩:=h.at hj
 have hinc:=h.inc
 refine ae [.tmp 6] func268 ?_
 refine an ?_
 refine ay (sq [0,1,2] (.read 3 (sq [4,5,6] (.read 7 (sq [8,9,10] (.read 11 (sq [12,13,14] (.read 15 (sq [16,17,18] (.read 19 (.eff 20 [] (sq [21,22] .done)))))))))))) ?_
 refine fI @hc @c0 @p1 @q1 ?_
 refine cQ (pg.1.inc hinc) (qg.1.inc hinc) ?_
 refine an ?_
 have e:decide (ct a[i]!.x.s a[j]!.x.s < 0)=EI a[i]! a[j]! := by unfold EI; simp [db]
 rw [e]; exact hk
theorem xR (h:SRow d w0 w Hb (ho+1) g cap a) {i j:Nat} (hi:i < a.size) (hj:j < a.size) (hk:∀ w',SRow d w0 w' Hb (ho+1) g cap (swp a i j)→w.heap.size≤w'.heap.size→(∀ b,b≠g→w'.heap[b]? = w.heap[b]?)→k (.tuple #[]) w') :
    aX prog 269 #[.pointer (some ⟨Hb,ho,none⟩),.int .i64 i,.int .i64 j] k w:=by
 have c0:=h.hd
 obtain ⟨p1,p2,p3,p4,pg⟩:=h.at hi
 obtain ⟨q1,q2,q3,q4,qg⟩:=h.at hj
 obtain ⟨a1,n1,e1⟩:=ak pg.1
 obtain ⟨a2,n2,e2⟩:=ak pg.2.1
 obtain ⟨a3,n3,e3⟩:=pg.2.2.2.2.form
 obtain ⟨a4,n4,e4⟩:=ak qg.1
 obtain ⟨a5,n5,e5⟩:=ak qg.2.1
 obtain ⟨a6,n6,e6⟩:=qg.2.2.2.2.form
 have ne:=h.ne
 have ne2:=Ne.symm ne
 have fg:∀ o,w.frozen? ⟨g,o,none⟩=false:=fun o=>cl h.own rfl o
 have hsw:=h.swapped hi hj
 rw [e1,e2,e3,e4,e5,e6] at hsw
 rw [e1] at p1
 rw [e2] at p2
 rw [e3] at p3
 rw [e4] at q1
 rw [e5] at q2
 rw [e6] at q3
 refine ae [] func269 ?_
 refine ay (sq [0,1,2] (.read 3 (sq [4,5,6,7] (.read 8 (sq [9,10,11,12] (.read 13 (sq [14,15] (.read 16 (sq [17,18,19] (.read 20 (sq [21,22] (.read 23 (sq [24] (.eff 25 [] (sq [26] (.eff 27 [] .done)))))))))))))))) ?_
 have hd:∀ W:World,W.drew.heap=W.heap:=fun _=>rfl
 by_cases hij:i=j
 ·subst hij
  have x1:=e1.symm.trans e4
  have x2:=e2.symm.trans e5
  have x3:=e3.symm.trans e6
  simp only [aW,true_and] at x1 x2 x3
  obtain ⟨rfl,rfl⟩:=x1
  obtain ⟨rfl,rfl⟩:=x2
  obtain ⟨rfl,rfl⟩:=x3
  refine pI @c0 @p1 @p2 @p3 @p4 @fg ?_
  refine hk _ hsw.drew ?_ ?_
  ·simp only [World.size_drew,World.size_setCell]; exact aE _
  ·intro b hb
   rw [hd]
   simp only [fL hb]
 ·have d1:i * 4≠j * 4:=by omega
  refine Hp @c0 @p1 @p2 @p3 @p4 @q1 @q2 @q3 @q4 @fg ?_
  refine hk _ hsw.drew ?_ ?_
  ·simp only [World.size_drew,World.size_setCell]; exact aE _
  ·intro b hb
   rw [hd]
   simp only [fL hb]
theorem GU (hc:w0.cell? ⟨Hb,ho,none⟩=some (.func (.func 102) #[] #[])):Srt prog (.iface 249 (.pointer (some ⟨Hb,ho,none⟩))) EI w0.heap.size (fun w b=>SRow d w0 w Hb (ho+1) g cap b∧b.size < 1000000) where
 size h:=h.1.keep.size
 small h:=by omega
 less' h hi hj hk:=by
  rw [Tryz.iv249_Less]
  exact xQ h.1 (h.1.keep.some hc h.1.ne) hi hj (hk _ ⟨h.1.drew,h.2⟩ rfl)
 swap' h hi hj hk:=by
  rw [Tryz.iv249_Swap]
  refine xR h.1 hi hj fun w' h2 h3 h4=>hk w' ⟨h2,by rw [swp_size]; exact h.2⟩ h3 fun b hb _=>h4 b ?_
  have:=h.1.lt
  omega
 alloc ob h:=⟨h.1.alloc ob,h.2⟩
 set h hb:=⟨h.1.set hb,h.2⟩
 drew h:=⟨h.1.drew,h.2⟩
theorem AG {a:Option Addr} {n c:Nat} (h:w.cell? ⟨Hb,ho+1,none⟩=some (.slice a n c)) (hk:k (.int .i64 n) w):aX prog 267 #[.pointer (some ⟨Hb,ho,none⟩)] k w:=by
 refine ae [.tmp 2] func267 ?_
 refine bf @h ?_
 exact hk
theorem xS {v:Value} {l:List SR} (h:SOwn d w Hb (ho+1) v l) (hc:w.cell? ⟨Hb,ho,none⟩=some (.func (.func 102) #[] #[])) (hinc:cN d w) (hne:∀ g,v.ownBlock=some g→g≠Hb∧cx d g) (hz:l.length < 1000000)
    (hk:∀ w' l',SOwn d w' Hb (ho+1) v l'→l'.Perm l→l'.Pairwise (fun x y=>EI y x=false)→Keep (fun b _=>v.ownBlock=some b) w w'→k (.tuple #[]) w') :
    aX prog 122 #[.iface 249 (.pointer (some ⟨Hb,ho,none⟩))] k w:=by
 have hHb:=aD h.hd
 rcases cR h.own with ⟨rfl,h0,hf⟩ | ⟨g,cap,rfl,hcap,hg⟩
 ·have hl:l=[]:=aZ.1 h0
  subst hl
  have S:Srt prog (.iface 249 (.pointer (some ⟨Hb,ho,none⟩))) EI w.heap.size (fun w' (b:Array SR)=>b = #[]∧bj w w'):=by
   refine ⟨fun h=>h.2.size,fun h=>by rw [h.1]; simp,fun h hi _ _ => ?_,fun h hi _ _ => ?_,fun ob h=>⟨h.1,h.2.alloc ob⟩,fun h hb=>⟨h.1,h.2.set (fun hlt=>by omega)⟩,fun h=>⟨h.1,h.2.drew⟩⟩
   ·rw [h.1] at hi; simp at hi
   ·rw [h.1] at hi; simp at hi
  refine kB S AE (d := #[]) ⟨rfl,bj.refl w⟩ (fun {w2 d2 k2} hR hk2 => ?_) fun w' d' h1 h2 h3 => ?_
  ·rw [Tryz.iv249_Len]
   obtain ⟨rfl,hx⟩:=hR
   exact AG (hx.cell h.hd) hk2
  ·obtain ⟨rfl,hx⟩:=h1
   exact hk w' [] ⟨hx.cell h.hd,aT h.own hx (fun _ _ _ h=>h),h.good⟩ (List.Perm.refl _) List.Pairwise.nil hx.keep
 ·obtain ⟨hgH,hgo⟩:=hne g rfl
  have K0:SRow d w w Hb (ho+1) g cap l.toArray:=⟨by simpa using h.hd,by simpa using h.own,by simpa using h.good,Keep.refl _ w,hinc,hg,hHb,Ne.symm hgH,hgo⟩
  refine kB (GU (d:=d) (w0:=w) (Hb:=Hb) (ho:=ho) (g:=g) (cap:=cap) hc) AE (d:=l.toArray) ⟨K0,by simpa using hz⟩ (fun {w2 d2 k2} hR hk2 => ?_) fun w' d' h1 h2 h3 => ?_
  ·rw [Tryz.iv249_Len]
   exact AG hR.1.hd hk2
  ·have hsz:d'.size=l.length:=by have:=h2.1; simpa using this
   have e:=h1.1.own
   have e2:=h1.1.hd
   rw [hsz] at e e2
   refine hk w' d'.toList ⟨e2,by simpa [hsz] using e,h1.1.good⟩ (by simpa using dp h2 (aE _)) ?_ (h1.1.keep.mono fun b o _ hb=>by rw [hb]; rfl)
   rw [bK]
   intro i j hi hj hij
   simp only [Array.length_toList] at hi hj
   have s:=h3 i j (aP _) hij (by simp; omega)
   rw [aH d' i hi,aH d' j hj] at s
   simpa using s
theorem xT (h:SRow d w0 w Hb (ho+1) g cap a) (hc:w.cell? ⟨Hb,ho,none⟩=some (.func (.func 102) #[] #[])) {i j:Nat} (hi:i < a.size) (hj:j < a.size) (hk:k (.bool (EJ a[i]! a[j]!)) w.drew) :
    aX prog 276 #[.pointer (some ⟨Hb,ho,none⟩),.int .i64 i,.int .i64 j] k w:=by
 have c0:=h.hd
 obtain ⟨p1,p2,_,_,pg⟩:=h.at hi
 obtain ⟨q1,q2,_,_,qg⟩:=h.at hj
 have hinc:=h.inc
 refine ae [.tmp 6] func276 ?_
 refine an ?_
 refine ay (sq [0,1,2] (.read 3 (sq [4,5,6] (.read 7 (sq [8,9,10] (.read 11 (sq [12,13,14] (.read 15 (sq [16,17,18] (.read 19 (.eff 20 [] (sq [21,22] .done)))))))))))) ?_
 refine fI @hc @c0 @p2 @q2 ?_
 refine cQ (pg.2.1.inc hinc) (qg.2.1.inc hinc) ?_
 refine an ?_
 have e:decide (ct a[i]!.x.e a[j]!.x.e < 0)=EJ a[i]! a[j]! := by unfold EJ; simp [db]
 rw [e]; exact hk
theorem xU (h:SRow d w0 w Hb (ho+1) g cap a) {i j:Nat} (hi:i < a.size) (hj:j < a.size) (hk:∀ w',SRow d w0 w' Hb (ho+1) g cap (swp a i j)→w.heap.size≤w'.heap.size→(∀ b,b≠g→w'.heap[b]? = w.heap[b]?)→k (.tuple #[]) w') :
    aX prog 277 #[.pointer (some ⟨Hb,ho,none⟩),.int .i64 i,.int .i64 j] k w:=by
 have c0:=h.hd
 obtain ⟨p1,p2,p3,p4,pg⟩:=h.at hi
 obtain ⟨q1,q2,q3,q4,qg⟩:=h.at hj
 obtain ⟨a1,n1,e1⟩:=ak pg.1
 obtain ⟨a2,n2,e2⟩:=ak pg.2.1
 obtain ⟨a3,n3,e3⟩:=pg.2.2.2.2.form
 obtain ⟨a4,n4,e4⟩:=ak qg.1
 obtain ⟨a5,n5,e5⟩:=ak qg.2.1
 obtain ⟨a6,n6,e6⟩:=qg.2.2.2.2.form
 have ne:=h.ne
 have ne2:=Ne.symm ne
 have fg:∀ o,w.frozen? ⟨g,o,none⟩=false:=fun o=>cl h.own rfl o
 have hsw:=h.swapped hi hj
 rw [e1,e2,e3,e4,e5,e6] at hsw
 rw [e1] at p1
 rw [e2] at p2
 rw [e3] at p3
 rw [e4] at q1
 rw [e5] at q2
 rw [e6] at q3
 refine ae [] func277 ?_
 refine ay (sq [0,1,2] (.read 3 (sq [4,5,6,7] (.read 8 (sq [9,10,11,12] (.read 13 (sq [14,15] (.read 16 (sq [17,18,19] (.read 20 (sq [21,22] (.read 23 (sq [24] (.eff 25 [] (sq [26] (.eff 27 [] .done)))))))))))))))) ?_
 have hd:∀ W:World,W.drew.heap=W.heap:=fun _=>rfl
 by_cases hij:i=j
 ·subst hij
  have x1:=e1.symm.trans e4
  have x2:=e2.symm.trans e5
  have x3:=e3.symm.trans e6
  simp only [aW,true_and] at x1 x2 x3
  obtain ⟨rfl,rfl⟩:=x1
  obtain ⟨rfl,rfl⟩:=x2
  obtain ⟨rfl,rfl⟩:=x3
  refine pI @c0 @p1 @p2 @p3 @p4 @fg ?_
  refine hk _ hsw.drew ?_ ?_
  ·simp only [World.size_drew,World.size_setCell]; exact aE _
  ·intro b hb
   rw [hd]
   simp only [fL hb]
 ·have d1:i * 4≠j * 4:=by omega
  refine Hp @c0 @p1 @p2 @p3 @p4 @q1 @q2 @q3 @q4 @fg ?_
  refine hk _ hsw.drew ?_ ?_
  ·simp only [World.size_drew,World.size_setCell]; exact aE _
  ·intro b hb
   rw [hd]
   simp only [fL hb]
theorem GV (hc:w0.cell? ⟨Hb,ho,none⟩=some (.func (.func 102) #[] #[])):Srt prog (.iface 262 (.pointer (some ⟨Hb,ho,none⟩))) EJ w0.heap.size (fun w b=>SRow d w0 w Hb (ho+1) g cap b∧b.size < 1000000) where
 size h:=h.1.keep.size
 small h:=by omega
 less' h hi hj hk:=by
  rw [Tryz.iv262_Less]
  exact xT h.1 (h.1.keep.some hc h.1.ne) hi hj (hk _ ⟨h.1.drew,h.2⟩ rfl)
 swap' h hi hj hk:=by
  rw [Tryz.iv262_Swap]
  refine xU h.1 hi hj fun w' h2 h3 h4=>hk w' ⟨h2,by rw [swp_size]; exact h.2⟩ h3 fun b hb _=>h4 b ?_
  have:=h.1.lt
  omega
 alloc ob h:=⟨h.1.alloc ob,h.2⟩
 set h hb:=⟨h.1.set hb,h.2⟩
 drew h:=⟨h.1.drew,h.2⟩
theorem AH {a:Option Addr} {n c:Nat} (h:w.cell? ⟨Hb,ho+1,none⟩=some (.slice a n c)) (hk:k (.int .i64 n) w):aX prog 275 #[.pointer (some ⟨Hb,ho,none⟩)] k w:=by
 refine ae [.tmp 2] func275 ?_
 refine bf @h ?_
 exact hk
theorem xV {v:Value} {l:List SR} (h:SOwn d w Hb (ho+1) v l) (hc:w.cell? ⟨Hb,ho,none⟩=some (.func (.func 102) #[] #[])) (hinc:cN d w) (hne:∀ g,v.ownBlock=some g→g≠Hb∧cx d g) (hz:l.length < 1000000)
    (hk:∀ w' l',SOwn d w' Hb (ho+1) v l'→l'.Perm l→l'.Pairwise (fun x y=>EJ y x=false)→Keep (fun b _=>v.ownBlock=some b) w w'→k (.tuple #[]) w') :
    aX prog 122 #[.iface 262 (.pointer (some ⟨Hb,ho,none⟩))] k w:=by
 have hHb:=aD h.hd
 rcases cR h.own with ⟨rfl,h0,hf⟩ | ⟨g,cap,rfl,hcap,hg⟩
 ·have hl:l=[]:=aZ.1 h0
  subst hl
  have S:Srt prog (.iface 262 (.pointer (some ⟨Hb,ho,none⟩))) EJ w.heap.size (fun w' (b:Array SR)=>b = #[]∧bj w w'):=by
   refine ⟨fun h=>h.2.size,fun h=>by rw [h.1]; simp,fun h hi _ _ => ?_,fun h hi _ _ => ?_,fun ob h=>⟨h.1,h.2.alloc ob⟩,fun h hb=>⟨h.1,h.2.set (fun hlt=>by omega)⟩,fun h=>⟨h.1,h.2.drew⟩⟩
   ·rw [h.1] at hi; simp at hi
   ·rw [h.1] at hi; simp at hi
  refine kB S AF (d := #[]) ⟨rfl,bj.refl w⟩ (fun {w2 d2 k2} hR hk2 => ?_) fun w' d' h1 h2 h3 => ?_
  ·rw [Tryz.iv262_Len]
   obtain ⟨rfl,hx⟩:=hR
   exact AH (hx.cell h.hd) hk2
  ·obtain ⟨rfl,hx⟩:=h1
   exact hk w' [] ⟨hx.cell h.hd,aT h.own hx (fun _ _ _ h=>h),h.good⟩ (List.Perm.refl _) List.Pairwise.nil hx.keep
 ·obtain ⟨hgH,hgo⟩:=hne g rfl
  have K0:SRow d w w Hb (ho+1) g cap l.toArray:=⟨by simpa using h.hd,by simpa using h.own,by simpa using h.good,Keep.refl _ w,hinc,hg,hHb,Ne.symm hgH,hgo⟩
  refine kB (GV (d:=d) (w0:=w) (Hb:=Hb) (ho:=ho) (g:=g) (cap:=cap) hc) AF (d:=l.toArray) ⟨K0,by simpa using hz⟩ (fun {w2 d2 k2} hR hk2 => ?_) fun w' d' h1 h2 h3 => ?_
  ·rw [Tryz.iv262_Len]
   exact AH hR.1.hd hk2
  ·have hsz:d'.size=l.length:=by have:=h2.1; simpa using this
   have e:=h1.1.own
   have e2:=h1.1.hd
   rw [hsz] at e e2
   refine hk w' d'.toList ⟨e2,by simpa [hsz] using e,h1.1.good⟩ (by simpa using dp h2 (aE _)) ?_ (h1.1.keep.mono fun b o _ hb=>by rw [hb]; rfl)
   rw [bK]
   intro i j hi hj hij
   simp only [Array.length_toList] at hi hj
   have s:=h3 i j (aP _) hij (by simp; omega)
   rw [aH d' i hi,aH d' j hj] at s
   simpa using s
end
end Go.Proofs
end
