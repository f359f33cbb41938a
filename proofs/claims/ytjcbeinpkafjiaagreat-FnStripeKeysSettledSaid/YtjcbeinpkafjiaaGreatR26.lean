/- Parts of the proof: Xq, Xl, Xr, Xs, Xv, Xy, Fa, Fb, Fc, Fd, Fe, Ff, Fg, Fh, Xj. -/
import Derived.Laws.StructEq
import Derived.Test.YtjcbeinpkafjiaaGreatR23
import Derived.Test.YtjcbeinpkafjiaaGreatR24
import Derived.Test.YtjcbeinpkafjiaaGreatR25
set_option linter.all false
set_option maxRecDepth 10000
section
namespace Go.E
open Go Go.Sort Go.Proofs Go.Proofs.Tryz
theorem Gr.mut {d w d1 w1 w2:World} {M:Nat→Nat→Prop} (g:Gr d w d1 w1) (k:Keep M w1 w2) (hM:∀ b o,M b o→w.heap.size≤b∧cq d1 b):Gr d w d1 w2:=by
 refine ⟨g.x.tr k fun b o hb hm=>by have:=(hM b o hm).1; omega,g.i,fun b o u hu=>k.some (g.j _ _ _ hu) fun hm => ?_,g.o⟩
 rw [(hM b o hm).2 o] at hu
 simp at hu
end Go.E
namespace Go.Proofs
open Go Go.E Go.Sort Go.Proofs.Tryz
section
variable {k:aq} {d w:World}
theorem AC {v:Value} {l:List K} (hv:Sl KE 3 d v l) (hl:l.length≤100000) (hinc:bz d w) (hk:∀ d' w' v',Gr d w d' w'→Sl KE 3 d' v' l→k v' w'):aX prog 123 #[v] k w:=by
 obtain ⟨ka,kc,rfl⟩:=hv.form
 refine ai [.tmp 2] func123 ?_
 refine al ?_
 refine bO (fun b:Nat × Value=>[(3,b.2),(6,.slice ka l.length kc),(7,.int .i64 l.length),(8,.int .i64 b.1)])
  (fun b w'=>b.1≤l.length∧∃ d1,LoopL KE 3 62 d w d1 w' b.2 (l.take b.1)) (fun b _=>l.length - b.1) (0,.slice none 0 0) (by kernel_rfl) ?_ ⟨aQ _,d,LoopL.nil hinc⟩ ?_
 ·exact bE
 rintro K2 e ⟨i,v⟩ w1 ⟨i2,d1,i3⟩ hK2
 simp only at i2 i3
 rcases aH i l.length with hi | hi
 rotate_left
 ·have hi':¬ (i:Int) < l.length:=by omega
  refine bf @hi' ?_
  obtain rfl:i=l.length:=by omega
  rw [aT] at i3
  obtain ⟨d2,g2,_,_,s2⟩:=i3.done KE.mono
  exact hk d2 w1 v g2 s2
 have hi':(i:Int) < l.length:=by omega
 obtain ⟨g,f,c,hv',hc,hat⟩:=(hv.inc KE.mono i3.g.i).at (by omega)
 obtain ⟨rfl,rfl⟩:=sEq hv'
 obtain ⟨x,hx⟩:=gEl hi
 obtain ⟨cs,_,hcs,hR⟩:=hat i x hx
 have hmem:=aJ hx
 obtain ⟨rfl,htr⟩:=hR
 have h0:w1.cell? ⟨g,f+i * 3,none⟩=some (.int .u64 x.tr):=i3.g.j _ _ _ (hcs 0 _ rfl)
 have h1:w1.cell? ⟨g,f+i * 3+1,none⟩=some (.string ⟨x.suf.toArray⟩):=i3.g.j _ _ _ (hcs 1 _ rfl)
 have h2:w1.cell? ⟨g,f+i * 3+2,none⟩=some (.string ⟨x.val.toArray⟩):=i3.g.j _ _ _ (hcs 2 _ rfl)
 obtain ⟨va,vcap,rfl,_⟩:=i3.form
 have i4:=i3.ext KE.mono (aL (.cells #[.int .u64 x.tr,.string ⟨x.suf.toArray⟩,.string ⟨x.val.toArray⟩] 88))
 obtain ⟨css,o4⟩:=i4.o
 refine gH @hi' @h0 @h1 @h2 @aA ?_
 refine jI x [.int .u64 x.tr,.string ⟨x.suf.toArray⟩,.string ⟨x.val.toArray⟩] rw54 o4 ⟨rfl,htr⟩ rfl (.inl rfl) (World.size_alloc _ _).symm rfl (by simp [Value.oneCell']) (by rw [dB i2]; omega) i4.g.j fun v2 w2 o2 k2 n2 j2 _ => ?_
 refine al ?_
 refine hK2 _ _ (i+1,v2) ?_ ⟨hi,d1,?_⟩ (by simp only; omega)
 ·exact bE
 ·rw [bn hx]
  exact i4.more o2 k2 n2 j2
theorem AD {kv:Value} {x:Sp} (hv:Sl KE 3 d kv x.ks) (hl:x.ks.length≤100000) (hinc:bz d w) (hk:∀ d' w' v',Gr d w d' w'→Sl KE 3 d' v' x.ks→k (.agg #[.string ⟨x.s.toArray⟩,.string ⟨x.e.toArray⟩,v']) w') :
    aX prog 89 #[.agg #[.string ⟨x.s.toArray⟩,.string ⟨x.e.toArray⟩,kv]] k w:=by
 obtain ⟨ka,kc,rfl⟩:=hv.form
 refine ai [.cell 2 56] func89 ?_
 refine al ?_
 refine ay (sq [0] (.read 1 (sq [2] (.read 3 (sq [4] (.read 5 (.eff 6 [1,3] (sq [7] (.eff 8 [] .done))))))))) ?_
 obtain ⟨A,hA⟩:∃ A,A=w.heap.size:=⟨_,rfl⟩
 obtain ⟨W,hW⟩:∃ W,W=((w.alloc (.cells #[.string ⟨x.s.toArray⟩,.string ⟨x.e.toArray⟩,.slice ka x.ks.length kc] 46)).alloc (.cells #[.string ByteArray.empty,.string ByteArray.empty,.slice none 0 0] 56)).drew:=⟨_,rfl⟩
 have xW:bY w W:=by rw [hW]; exact bY.drew' ((aL _).trans (aL _))
 have a0:W.cell? ⟨A,0,none⟩=some (.string ⟨x.s.toArray⟩):=by rw [hW,hA]; exact bb @aA
 have a1:W.cell? ⟨A,1,none⟩=some (.string ⟨x.e.toArray⟩):=by rw [hW,hA]; exact bb @aA
 have b0:W.cell? ⟨A+1,0,none⟩=some (.string ByteArray.empty):=by rw [hW,hA]; exact bb @aA
 have b1:W.cell? ⟨A+1,1,none⟩=some (.string ByteArray.empty):=by rw [hW,hA]; exact bb @aA
 have b2:W.cell? ⟨A+1,2,none⟩=some (.slice none 0 0):=by rw [hW,hA]; exact bb @aA
 have fz:∀ y,W.frozen? ⟨A+1,y,none⟩=false:=fun y=>by rw [hW,hA]; exact bb @cy
 have zW:W.heap.size=A+2:=by rw [hW,hA]; simp only [World.size_drew,World.size_alloc]
 refine bf @aA ?_
 rw [← hA,← hW]
 refine AC hv hl (hinc.trans xW.inc) fun d1 w1 v1 g1 s1 => ?_
 obtain ⟨va,vc,rfl⟩:=s1.form
 have a0:=g1.x.cell a0
 have a1:=g1.x.cell a1
 have b0:=g1.x.cell b0
 have b1:=g1.x.cell b1
 have b2:=g1.x.cell b2
 have fz:∀ y,w1.frozen? ⟨A+1,y,none⟩=false:=fun y=>by rw [g1.x.frozen _ y (by omega)]; exact fz y
 have hoA:cq d (A+1):=hinc.out (by omega)
 refine rA @a0 @a1 @b0 @b1 @b2 @fz ?_
 have kk:=(((Keep.refl (M:=fun b _=>b=A+1) w1).set (b:=A+1) (o:=0) (v := .string ⟨x.s.toArray⟩) fun _=>rfl).set (b:=A+1) (o:=1) (v := .string ⟨x.e.toArray⟩) fun _=>rfl).set (b:=A+1) (o:=2) (v := .slice va x.ks.length vc) fun _=>rfl
 exact hk _ _ _ (((Gr.ext hinc xW).trans g1).mut kk fun b o h=>by
  subst h
  exact ⟨by omega,g1.o _ (by omega) hoA⟩) s1
theorem yX {v:Value} {l:List Sp} (hv:Sl dY 3 d v l) (hl:l.length≤100000) (hks:∀ x ∈ l,x.ks.length≤100000) (hinc:bz d w) (hk:∀ d' w' v',Gr d w d' w'→Sl dY 3 d' v' l→k v' w'):aX prog 53 #[v] k w:=by
 obtain ⟨ka,kc,rfl⟩:=hv.form
 refine ai [.tmp 2] func53 ?_
 refine al ?_
 refine bO (fun b:Nat × Value=>[(3,b.2),(6,.slice ka l.length kc),(7,.int .i64 l.length),(8,.int .i64 b.1)])
  (fun b w'=>b.1≤l.length∧∃ d1,LoopL dY 3 56 d w d1 w' b.2 (l.take b.1)) (fun b _=>l.length - b.1) (0,.slice none 0 0) (by kernel_rfl) ?_ ⟨aQ _,d,LoopL.nil hinc⟩ ?_
 ·exact bE
 rintro K2 e ⟨i,v⟩ w1 ⟨i2,d1,i3⟩ hK2
 simp only at i2 i3
 rcases aH i l.length with hi | hi
 rotate_left
 ·have hi':¬ (i:Int) < l.length:=by omega
  refine bf @hi' ?_
  obtain rfl:i=l.length:=by omega
  rw [aT] at i3
  obtain ⟨d2,g2,_,_,s2⟩:=i3.done dY.mono
  exact hk d2 w1 v g2 s2
 have hi':(i:Int) < l.length:=by omega
 obtain ⟨g,f,c,hv',hc,hat⟩:=(hv.inc dY.mono i3.g.i).at (by omega)
 obtain ⟨rfl,rfl⟩:=sEq hv'
 obtain ⟨x,hx⟩:=gEl hi
 obtain ⟨cs,_,hcs,hR⟩:=hat i x hx
 have hmem:=aJ hx
 obtain ⟨kv,rfl,hkv⟩:=hR
 obtain ⟨kva,kvc,rfl⟩:=hkv.form
 have h0:w1.cell? ⟨g,f+i * 3,none⟩=some (.string ⟨x.s.toArray⟩):=i3.g.j _ _ _ (hcs 0 _ rfl)
 have h1:w1.cell? ⟨g,f+i * 3+1,none⟩=some (.string ⟨x.e.toArray⟩):=i3.g.j _ _ _ (hcs 1 _ rfl)
 have h2:w1.cell? ⟨g,f+i * 3+2,none⟩=some (.slice kva x.ks.length kvc):=i3.g.j _ _ _ (hcs 2 _ rfl)
 have i4:=i3.ext dY.mono (aL (.cells #[.string ⟨x.s.toArray⟩,.string ⟨x.e.toArray⟩,.slice kva x.ks.length kvc] 46))
 refine gH @hi' @h0 @h1 @h2 @aA ?_
 refine AD (x:=x) hkv (hks x hmem) i4.g.j fun d4 w4 v4 g4 s4 => ?_
 have i5:=i4.call dY.mono g4
 obtain ⟨css,o5⟩:=i5.o
 obtain ⟨va,vcap,rfl,_⟩:=i5.form
 obtain ⟨k4,c4,rfl⟩:=s4.form
 refine al ?_
 refine jI x [.string ⟨x.s.toArray⟩,.string ⟨x.e.toArray⟩,.slice k4 x.ks.length c4] rw74 o5 ⟨_,rfl,s4⟩ rfl (.inl rfl) rfl rfl (by simp [Value.oneCell']) (by rw [dB i2]; omega) i5.g.j fun v2 w2 o2 k2 n2 j2 _ => ?_
 refine al ?_
 refine hK2 _ _ (i+1,v2) ?_ ⟨hi,d4,?_⟩ (by simp only; omega)
 ·exact bE
 ·rw [bn hx]
  exact i5.more o2 k2 n2 j2
theorem pZ {v:Value} {l:List (List Sp)} (hv:Sl jx 1 d v l) (hl:l.length≤100000) (hs:∀ x ∈ l,x.length≤100000∧∀ y ∈ x,y.ks.length≤100000) (hinc:bz d w) (hk:∀ d' w' v',Gr d w d' w'→Sl jx 1 d' v' l→k v' w'):aX prog 19 #[v] k w:=by
 obtain ⟨ka,kc,rfl⟩:=hv.form
 refine ai [.tmp 2] func19 ?_
 refine al ?_
 refine bO (fun b:Nat × Value=>[(3,b.2),(6,.slice ka l.length kc),(7,.int .i64 l.length),(8,.int .i64 b.1)])
  (fun b w'=>b.1≤l.length∧∃ d1,LoopL jx 1 74 d w d1 w' b.2 (l.take b.1)) (fun b _=>l.length - b.1) (0,.slice none 0 0) (by kernel_rfl) ?_ ⟨aQ _,d,LoopL.nil hinc⟩ ?_
 ·exact bE
 rintro K2 e ⟨i,v⟩ w1 ⟨i2,d1,i3⟩ hK2
 simp only at i2 i3
 rcases aH i l.length with hi | hi
 rotate_left
 ·have hi':¬ (i:Int) < l.length:=by omega
  refine bf @hi' ?_
  obtain rfl:i=l.length:=by omega
  rw [aT] at i3
  obtain ⟨d2,g2,_,_,s2⟩:=i3.done jx.mono
  exact hk d2 w1 v g2 s2
 have hi':(i:Int) < l.length:=by omega
 obtain ⟨g,f,c,hv',hc,hat⟩:=(hv.inc jx.mono i3.g.i).at (by omega)
 obtain ⟨rfl,rfl⟩:=sEq hv'
 obtain ⟨x,hx⟩:=gEl hi
 obtain ⟨cs,_,hcs,hR⟩:=hat i x hx
 have hmem:=aJ hx
 obtain ⟨kv,rfl,hkv⟩:=hR
 obtain ⟨kva,kvc,rfl⟩:=hkv.form
 have h0:w1.cell? ⟨g,f+i * 1,none⟩=some (.slice kva x.length kvc):=i3.g.j _ _ _ (hcs 0 _ rfl)
 refine dV @hi' @h0 ?_
 refine yX hkv (hs x hmem).1 (hs x hmem).2 i3.g.j fun d4 w4 v4 g4 s4 => ?_
 have i5:=i3.call jx.mono g4
 obtain ⟨css,o5⟩:=i5.o
 obtain ⟨va,vcap,rfl,_⟩:=i5.form
 obtain ⟨k4,c4,rfl⟩:=s4.form
 refine al ?_
 refine jI x [.slice k4 x.length c4] rw35 o5 ⟨_,rfl,s4⟩ rfl (.inl rfl) rfl rfl (by simp [Value.oneCell']) (by rw [dB i2]; omega) i5.g.j fun v2 w2 o2 k2 n2 j2 _ => ?_
 refine al ?_
 refine hK2 _ _ (i+1,v2) ?_ ⟨hi,d4,?_⟩ (by simp only; omega)
 ·exact bE
 ·rw [bn hx]
  exact i5.more o2 k2 n2 j2
end
end Go.Proofs
end
section
namespace Go.E
open Go Go.Sort Go.Proofs Go.Proofs.Tryz
def LI (P : Program) (t : TypeId) (l : List (TypeId × Nat)) : Bool := (P.fieldsOf t).toList.map (fun f => (f.name != "_", f.type, f.offset)) == l.map fun x => (true, x.1, x.2)
theorem JN:LI prog 88 [(23,0),(9,1),(9,2)]=true:=by kernel_rfl
theorem Eh {P:Program} {t:TypeId} {cs:Array Value} {off:Nat} {v:Value} (w:World) (h:ml P t cs off (fun u=>u=v)):(part t cs off).run P w = .ok v w:=by
 obtain ⟨u,h1,rfl⟩:=tz (w:=w) h
 exact h1
def vK (x:K):Array Value := #[.int .u64 x.tr,.string ⟨x.suf.toArray⟩,.string ⟨x.val.toArray⟩]
theorem Lk (x y:K) (w:World):(Op.equalIn 10000 88 (.agg (vK x)) (.agg (vK y))).run prog w = .ok (decide (x=y)) w:=by
 rw [show (10000:Nat)=9999+1 from rfl,run_equalIn_agg w 9999 88 _ _ (by kernel_rfl) (by kernel_rfl)]
 have hf:=JN
 unfold LI at hf
 rw [beq_iff_eq] at hf
 generalize (prog.fieldsOf 88).toList=fs at hf ⊢
 rcases fs with _ | ⟨a,_ | ⟨b,_ | ⟨c,_ | ⟨e,r⟩⟩⟩⟩
 ·simp at hf
 ·simp at hf
 ·simp at hf
 ·simp only [List.map_cons,List.map_nil,List.cons.injEq,Prod.mk.injEq,and_true,bne_iff_ne] at hf
  obtain ⟨⟨n1,t1,o1⟩,⟨n2,t2,o2⟩,n3,t3,o3⟩:=hf
  have e1:∀ (u:K) w,(part 23 (vK u) 0).run prog w = .ok (.int .u64 u.tr) w:=fun u w=>Eh w rfl
  have e2:∀ (u:K) w,(part 9 (vK u) 1).run prog w = .ok (.string ⟨u.suf.toArray⟩) w:=fun u w=>Eh w rfl
  have e3:∀ (u:K) w,(part 9 (vK u) 2).run prog w = .ok (.string ⟨u.val.toArray⟩) w:=fun u w=>Eh w rfl
  have q1:∀ (u v:Int) w,(Op.equalIn 9999 23 (.int .u64 u) (.int .u64 v)).run prog w = .ok (u == v) w:=fun u v w=>run_equalIn_int w 9998 23 .u64 .u64 u v (by kernel_rfl)
  have q2:∀ (u v:ByteArray) w,(Op.equalIn 9999 9 (.string u) (.string v)).run prog w = .ok (u.toList == v.toList) w:=fun u v w=>run_equalIn_string w 9998 9 u v (by kernel_rfl)
  simp only [Op.eqFields,n1,n2,n3,t1,t2,t3,o1,o2,o3,if_true,if_pos,ne_eq,not_false_eq_true,Sem.run_bind,Sem.run_ite,e1,e2,e3,q1,q2,Result.andThen_ok,Sem.run_pure,ByteArray.toList_mk]
  obtain ⟨xt,xs,xv⟩:=x
  obtain ⟨yt,ys,yv⟩:=y
  simp only [K.mk.injEq]
  by_cases g1:xt=yt
  ·by_cases g2:xs=ys
   ·by_cases g3:xv=yv
    ·simp [g1,g2,g3]
    ·simp [g1,g2,g3]
   ·simp [g1,g2]
  ·have:((xt:Int) == yt)=false:=beq_false_of_ne (by omega)
   simp [g1]
   omega
 ·simp at hf
theorem yY {xo yo:Operand} {x y:K} {q:Value→Prop} (h:q (.bool (decide (x≠y)))):cx prog .neq 88 xo yo (.agg #[.int .u64 x.tr,.string ⟨x.suf.toArray⟩,.string ⟨x.val.toArray⟩]) (.agg #[.int .u64 y.tr,.string ⟨y.suf.toArray⟩,.string ⟨y.val.toArray⟩]) q:=by
 refine ⟨decide (x≠y),fun w => ?_,h⟩
 show (do eqGuard .neq 88 xo yo (.agg (vK x)) (.agg (vK y)); binOp .neq 88 (.agg (vK x)) (.agg (vK y)):Sem Value).run prog w=_
 have h1:=run_eqGuard_agg w .neq 88 xo yo (vK x) (vK y) (show prog.eqGuardType prog.depth 88=false by kernel_rfl)
 simp only [Sem.run_bind,h1,Result.andThen_ok,run_neq_struct,Lk]
 simp
end Go.E
namespace Go.Proofs
open Go Go.E Go.Sort Go.Proofs.Tryz
section
variable {k:aq} {d w:World}
theorem wV {va vb:Value} {a b:List K} (ha:Sl KE 3 w va a) (hb:Sl KE 3 w vb b) (hl:b.length≤2147483647) (hk:∀ w2,bY w w2→k (.bool (decide (a=b))) w2):aX prog 62 #[va,vb] k w:=by
 obtain ⟨aa,ac,rfl⟩:=ha.form
 obtain ⟨ba,bc,rfl⟩:=hb.form
 refine ai [.tmp 4] func62 ?_
 by_cases hlen:a.length=b.length
 rotate_left
 ·have h1:((a.length:Int) != b.length)=true:=by simp; omega
  refine bf @h1 ?_
  have:=hk w (bY.refl _)
  rwa [aF (fun h=>hlen (by rw [h]))] at this
 have h1:((a.length:Int) != b.length)=false:=by simp; omega
 refine bf @h1 ?_
 refine bO (fun i:Nat=>[(1,.slice ba b.length bc),(12,.slice aa a.length ac),(13,.int .i64 a.length),(14,.int .i64 i)])
  (fun i w'=>i≤a.length∧bY w w'∧a.take i=b.take i) (fun i _=>a.length - i) 0 (by kernel_rfl) ?_ ⟨aQ _,bY.refl _,rfl⟩ ?_
 ·exact bE
 rintro K2 e i w1 ⟨i2,i3,i4⟩ hK2
 rcases aH i a.length with hi | hi
 rotate_left
 ·have hi':¬ (i:Int) < a.length:=by omega
  refine bf @hi' ?_
  obtain rfl:i=a.length:=by omega
  rw [aT,hlen,aT] at i4
  have:=hk w1 i3
  rwa [aO i4] at this
 have hi':(i:Int) < a.length:=by omega
 obtain ⟨g,f,c,hv',hc,hat⟩:=(ha.inc KE.mono i3.inc).at (by omega)
 obtain ⟨rfl,rfl⟩:=sEq hv'
 obtain ⟨g2,f2,c2,hv2,hc2,hat2⟩:=(hb.inc KE.mono i3.inc).at (by omega)
 obtain ⟨rfl,rfl⟩:ba=some ⟨g2,f2,none⟩∧bc=c2:=by simpa using hv2
 obtain ⟨x,hx⟩:=gEl hi
 obtain ⟨y,hy⟩:∃ y,b[i]? = some y:=⟨_,aC (by omega)⟩
 obtain ⟨h0,h1,h2,h3⟩:=eW (hat i x hx)
 obtain ⟨p0,p1,p2,p3⟩:=eW (hat2 i y hy)
 have x4:=aL (w:=w1) (.cells #[.int .u64 x.tr,.string ⟨x.suf.toArray⟩,.string ⟨x.val.toArray⟩] 88)
 have p0:=x4.cell p0
 have p1:=x4.cell p1
 have p2:=x4.cell p2
 have hib:(i:Int) < b.length:=by omega
 refine fW @hi' @h0 @h1 @h2 ?_
 refine ay (.read 0 (sq [1,2,3] (.read 4 (sq [5] .done)))) ?_
 refine gH @hib @p0 @p1 @p2 @aA ?_
 refine yY ?_
 by_cases hxy:x=y
 ·rw [aF (fun h=>h hxy)]
  refine al ?_
  refine hK2 _ _ (i+1) ?_ ⟨hi,bY.drew' (i3.trans x4),by rw [bn hx,bn hy,i4,hxy]⟩ (by omega)
  exact bE
 ·rw [aO hxy]
  refine al ?_
  have:=hk _ (bY.drew' (i3.trans x4))
  rwa [aF (fun h=>hxy (by rw [h,hy] at hx; exact (bQ hx).symm))] at this
end
end Go.Proofs
end
section
namespace Go.Proofs
open Go Go.E Go.Sort Go.Proofs.Tryz
section
variable {k:aq} {d w:World}
theorem th {va vb:Value} {a b:List K} (ha:Sl KE 3 w va a) (hb:Sl KE 3 w vb b) (hl:b.length≤2147483647) (hk:∀ w2,bY w w2→k (.bool (decide (a=b))) w2):aX prog 113 #[va,vb] k w:=by
 obtain ⟨aa,ac,rfl⟩:=ha.form
 obtain ⟨ba,bc,rfl⟩:=hb.form
 refine ai [.tmp 4] func113 ?_
 by_cases hlen:a.length=b.length
 rotate_left
 ·have h1:((a.length:Int) != b.length)=true:=by simp; omega
  refine bf @h1 ?_
  have:=hk w (bY.refl _)
  rwa [aF (fun h=>hlen (by rw [h]))] at this
 have h1:((a.length:Int) != b.length)=false:=by simp; omega
 refine bf @h1 ?_
 refine bO (fun i:Nat=>[(1,.slice ba b.length bc),(12,.slice aa a.length ac),(13,.int .i64 a.length),(14,.int .i64 i)])
  (fun i w'=>i≤a.length∧bY w w'∧a.take i=b.take i) (fun i _=>a.length - i) 0 (by kernel_rfl) ?_ ⟨aQ _,bY.refl _,rfl⟩ ?_
 ·exact bE
 rintro K2 e i w1 ⟨i2,i3,i4⟩ hK2
 rcases aH i a.length with hi | hi
 rotate_left
 ·have hi':¬ (i:Int) < a.length:=by omega
  refine bf @hi' ?_
  obtain rfl:i=a.length:=by omega
  rw [aT,hlen,aT] at i4
  have:=hk w1 i3
  rwa [aO i4] at this
 have hi':(i:Int) < a.length:=by omega
 obtain ⟨g,f,c,hv',hc,hat⟩:=(ha.inc KE.mono i3.inc).at (by omega)
 obtain ⟨rfl,rfl⟩:=sEq hv'
 obtain ⟨g2,f2,c2,hv2,hc2,hat2⟩:=(hb.inc KE.mono i3.inc).at (by omega)
 obtain ⟨rfl,rfl⟩:ba=some ⟨g2,f2,none⟩∧bc=c2:=by simpa using hv2
 obtain ⟨x,hx⟩:=gEl hi
 obtain ⟨y,hy⟩:∃ y,b[i]? = some y:=⟨_,aC (by omega)⟩
 obtain ⟨h0,h1,h2,h3⟩:=eW (hat i x hx)
 obtain ⟨p0,p1,p2,p3⟩:=eW (hat2 i y hy)
 have x4:=aL (w:=w1) (.cells #[.int .u64 x.tr,.string ⟨x.suf.toArray⟩,.string ⟨x.val.toArray⟩] 88)
 have p0:=x4.cell p0
 have p1:=x4.cell p1
 have p2:=x4.cell p2
 have hib:(i:Int) < b.length:=by omega
 refine fW @hi' @h0 @h1 @h2 ?_
 refine ay (.read 0 (sq [1,2,3] (.read 4 (sq [5] .done)))) ?_
 refine gH @hib @p0 @p1 @p2 @aA ?_
 refine yY ?_
 by_cases hxy:x=y
 ·rw [aF (fun h=>h hxy)]
  refine al ?_
  refine hK2 _ _ (i+1) ?_ ⟨hi,bY.drew' (i3.trans x4),by rw [bn hx,bn hy,i4,hxy]⟩ (by omega)
  exact bE
 ·rw [aO hxy]
  refine al ?_
  have:=hk _ (bY.drew' (i3.trans x4))
  rwa [aF (fun h=>hxy (by rw [h,hy] at hx; exact (bQ hx).symm))] at this
theorem wW {va vb:Value} {a b:Sp} (ha:Sl KE 3 w va a.ks) (hb:Sl KE 3 w vb b.ks) (hl:b.ks.length≤2147483647) (hk:∀ w2,bY w w2→k (.bool (decide (a=b))) w2) :
    aX prog 76 #[.agg #[.string ⟨a.s.toArray⟩,.string ⟨a.e.toArray⟩,va],.agg #[.string ⟨b.s.toArray⟩,.string ⟨b.e.toArray⟩,vb]] k w:=by
 obtain ⟨aa,ac,rfl⟩:=ha.form
 obtain ⟨ba,bc,rfl⟩:=hb.form
 have xA:=(aL (w:=w) (.cells #[.string ⟨a.s.toArray⟩,.string ⟨a.e.toArray⟩,.slice aa a.ks.length ac] 46)).trans (aL (.cells #[.string ⟨b.s.toArray⟩,.string ⟨b.e.toArray⟩,.slice ba b.ks.length bc] 46))
 have no:¬ (a.s=b.s∧a.e=b.e)→decide (a=b)=false:=fun h=>aF fun h2=>h (by rw [h2]; exact ⟨rfl,rfl⟩)
 refine ai [.tmp 4] func76 ?_
 by_cases h1:a.s=b.s
 rotate_left
 ·have g1:=aF h1
  refine dV @aA @g1 ?_
  have:=hk _ xA
  rwa [no fun h=>h1 h.1] at this
 have g1:=aO h1
 by_cases h2:a.e=b.e
 rotate_left
 ·have g2:=aF h2
  refine eI @aA @g1 @g2 ?_
  have:=hk _ xA
  rwa [no fun h=>h2 h.2] at this
 have g2:=aO h2
 refine eI @aA @g1 @g2 ?_
 refine th (ha.inc KE.mono xA.inc) (hb.inc KE.mono xA.inc) hl fun w2 x2 => ?_
 have:=hk _ (xA.trans x2)
 have e:decide (a=b)=decide (a.ks=b.ks):=by
  obtain ⟨s1,e1,k1⟩:=a
  obtain ⟨s2,e2,k2⟩:=b
  simp only at h1 h2
  subst h1 h2
  simp [bJ]
 rw [e] at this
 refine al ?_
 exact this
theorem tj {va vb:Value} {a b:List Sp} (ha:Sl dY 3 w va a) (hb:Sl dY 3 w vb b) (hl:b.length≤2147483647) (hks:∀ x ∈ b,x.ks.length≤2147483647) (hk:∀ w2,bY w w2→k (.bool (decide (a=b))) w2):aX prog 33 #[va,vb] k w:=by
 obtain ⟨aa,ac,rfl⟩:=ha.form
 obtain ⟨ba,bc,rfl⟩:=hb.form
 refine ai [.tmp 4] func33 ?_
 by_cases hlen:a.length=b.length
 rotate_left
 ·have h1:((a.length:Int) != b.length)=true:=by simp; omega
  refine bf @h1 ?_
  have:=hk w (bY.refl _)
  rwa [aF (fun h=>hlen (by rw [h]))] at this
 have h1:((a.length:Int) != b.length)=false:=by simp; omega
 refine bf @h1 ?_
 refine bO (fun i:Nat=>[(1,.slice ba b.length bc),(12,.slice aa a.length ac),(13,.int .i64 a.length),(14,.int .i64 i)])
  (fun i w'=>i≤a.length∧bY w w'∧a.take i=b.take i) (fun i _=>a.length - i) 0 (by kernel_rfl) ?_ ⟨aQ _,bY.refl _,rfl⟩ ?_
 ·exact bE
 rintro K2 e i w1 ⟨i2,i3,i4⟩ hK2
 rcases aH i a.length with hi | hi
 rotate_left
 ·have hi':¬ (i:Int) < a.length:=by omega
  refine bf @hi' ?_
  obtain rfl:i=a.length:=by omega
  rw [aT,hlen,aT] at i4
  have:=hk w1 i3
  rwa [aO i4] at this
 have hi':(i:Int) < a.length:=by omega
 obtain ⟨g,f,c,hv',hc,hat⟩:=(ha.inc dY.mono i3.inc).at (by omega)
 obtain ⟨rfl,rfl⟩:=sEq hv'
 obtain ⟨g2,f2,c2,hv2,hc2,hat2⟩:=(hb.inc dY.mono i3.inc).at (by omega)
 obtain ⟨rfl,rfl⟩:ba=some ⟨g2,f2,none⟩∧bc=c2:=by simpa using hv2
 obtain ⟨x,hx⟩:=gEl hi
 obtain ⟨y,hy⟩:∃ y,b[i]? = some y:=⟨_,aC (by omega)⟩
 obtain ⟨h0,h1,xa,xc,h2,hxk⟩:=dI (hat i x hx)
 obtain ⟨p0,p1,ya,yc,p2,hyk⟩:=dI (hat2 i y hy)
 obtain ⟨S,hS⟩:∃ S,S=w1.heap.size:=⟨_,rfl⟩
 obtain ⟨w4,hw4⟩:∃ w4,w4=(w1.alloc (.cells #[.string ⟨x.s.toArray⟩,.string ⟨x.e.toArray⟩,.slice xa x.ks.length xc] 46)).drew:=⟨_,rfl⟩
 have x4:bY w1 w4:=by rw [hw4]; exact bY.drew' (aL _)
 have c0:w4.cell? ⟨S,0,none⟩=some (.string ⟨x.s.toArray⟩):=by rw [hw4,hS]; exact bb @aA
 have c1:w4.cell? ⟨S,1,none⟩=some (.string ⟨x.e.toArray⟩):=by rw [hw4,hS]; exact bb @aA
 have c2:w4.cell? ⟨S,2,none⟩=some (.slice xa x.ks.length xc):=by rw [hw4,hS]; exact bb @aA
 have p0:=x4.cell p0
 have p1:=x4.cell p1
 have p2:=x4.cell p2
 have hib:(i:Int) < b.length:=by omega
 refine fW @hi' @h0 @h1 @h2 ?_
 refine ay (.read 0 (sq [1,2,3] (.read 4 (.eff 5 [] (sq [6] .done))))) ?_
 rw [← hS,← hw4]
 refine vR @hib @p0 @p1 @p2 @c0 @c1 @c2 ?_
 refine wW (a:=x) (b:=y) (hxk.inc KE.mono x4.inc) (hyk.inc KE.mono x4.inc) (hks y (aJ hy)) fun w5 x5 => ?_
 by_cases hxy:x=y
 ·rw [aO hxy]
  refine rA (x5.cell p0) (x5.cell p1) (x5.cell p2) (x5.cell c0) (x5.cell c1) (x5.cell c2) ?_
  refine hK2 _ _ (i+1) ?_ ⟨hi,i3.trans (x4.trans x5),by rw [bn hx,bn hy,i4,hxy]⟩ (by omega)
  exact bE
 ·rw [aF hxy]
  refine rA (x5.cell p0) (x5.cell p1) (x5.cell p2) (x5.cell c0) (x5.cell c1) (x5.cell c2) ?_
  have:=hk _ (i3.trans (x4.trans x5))
  rwa [aF (fun h=>hxy (by rw [h,hy] at hx; exact (bQ hx).symm))] at this
end
end Go.Proofs
end
section
namespace Go.E
open Go Go.Sort Go.Proofs Go.Proofs.Tryz
theorem uz (x:Sp):cR x=⟨x.s,x.e,x.ks.map fun y=>eF y.sv⟩:=by
 unfold cR
 rw [cl]
 rfl
end Go.E
namespace Go.Proofs
open Go Go.E Go.Sort Go.Proofs.Tryz
section
variable {k:aq} {d w:World}
theorem tk {v:Value} {l:List Sp} (hv:Sl dY 3 d v l) (hl:l.length≤100000) (hks:∀ x ∈ l,x.ks.length≤1000000) (hinc:bz d w) (hk:∀ d' w' v',Gr d w d' w'→Sl dY 3 d' v' (l.map cR)→k v' w'):aX prog 38 #[v] k w:=by
 obtain ⟨ka,kc,rfl⟩:=hv.form
 refine ai [.tmp 2] func38 ?_
 refine al ?_
 refine bO (fun b:Nat × Value=>[(3,b.2),(9,.slice ka l.length kc),(10,.int .i64 l.length),(11,.int .i64 b.1)])
  (fun b w'=>b.1≤l.length∧∃ d1,LoopL dY 3 46 d w d1 w' b.2 ((l.take b.1).map cR)) (fun b _=>l.length - b.1) (0,.slice none 0 0) (by kernel_rfl) ?_ ⟨aQ _,d,LoopL.nil hinc⟩ ?_
 ·exact bE
 rintro K2 e ⟨i,vo⟩ w1 ⟨i2,d1,i3⟩ hK2
 simp only at i2 i3
 rcases aH i l.length with hi | hi
 rotate_left
 ·have hi':¬ (i:Int) < l.length:=by omega
  refine bf @hi' ?_
  obtain rfl:i=l.length:=by omega
  rw [aT] at i3
  obtain ⟨d4,g4,_,_,s4⟩:=i3.done dY.mono
  exact hk d4 w1 vo g4 s4
 have hi':(i:Int) < l.length:=by omega
 obtain ⟨g,f,c,hv',hc,hat⟩:=(hv.inc dY.mono (i3.g.i.trans i3.g.j)).at (by omega)
 obtain ⟨rfl,rfl⟩:=sEq hv'
 obtain ⟨x,hx⟩:=gEl hi
 have hxm:=aJ hx
 have hxl:=hks x hxm
 obtain ⟨h0,h1,a,cc,h2,hkx⟩:=dI (hat i x hx)
 obtain ⟨B,hB⟩:∃ B,B=w1.heap.size:=⟨_,rfl⟩
 obtain ⟨w4,hw4⟩:∃ w4,w4=((((w1.alloc (.cells #[.string ⟨x.s.toArray⟩,.string ⟨x.e.toArray⟩,.slice a x.ks.length cc] 56)).alloc (.cells #[.string ByteArray.empty,.string ByteArray.empty,.slice none 0 0] 46)).setCell ⟨w1.heap.size+1,0,none⟩ (.string ⟨x.s.toArray⟩)).setCell ⟨w1.heap.size+1,1,none⟩ (.string ⟨x.e.toArray⟩)).setCell ⟨w1.heap.size+1,2,none⟩ (.slice none 0 0):=⟨_,rfl⟩
 have x4:bY w1 w4:=by rw [hw4]; exact bX (bX (bX ((aL _).trans (aL _)) (by omega)) (by omega)) (by omega)
 have z4:w4.heap.size=B+2:=by rw [hw4,hB]; simp only [World.size_setCell,World.size_alloc]
 have c0:w4.cell? ⟨B+1,0,none⟩=some (.string ⟨x.s.toArray⟩):=by rw [hw4,hB]; exact bb @aA
 have c1:w4.cell? ⟨B+1,1,none⟩=some (.string ⟨x.e.toArray⟩):=by rw [hw4,hB]; exact bb @aA
 have c2:w4.cell? ⟨B+1,2,none⟩=some (.slice none 0 0):=by rw [hw4,hB]; exact bb @aA
 have f4:∀ y,w4.frozen? ⟨B+1,y,none⟩=false:=fun y=>by rw [hw4,hB]; exact bb @cy
 refine rA @hi' @h0 @h1 @h2 @aA @cy ?_
 rw [← hw4,← hB]
 refine gm (fun _:Unit=>[(3,vo),(6,.pointer (some ⟨B+1,0,none⟩)),(9,.slice (some ⟨g,f,none⟩) l.length kc),(10,.int .i64 l.length),(11,.int .i64 i)])
  (fun _ w'=>bY w1 w'∧w'.cell? ⟨B+1,0,none⟩=some (.string ⟨x.s.toArray⟩)∧w'.cell? ⟨B+1,1,none⟩=some (.string ⟨x.e.toArray⟩)∧∃ v,w'.cell? ⟨B+1,2,none⟩=some v∧OwnC wq 3 88 w' v (x.ks.map fun y=>eF y.sv)∧∀ g,v.ownBlock=some g→w1.heap.size≤g) (by kernel_rfl) (fun K hK => ?_) ?_
 ·refine bO (fun j:Nat=>[(3,vo),(6,.pointer (some ⟨B+1,0,none⟩)),(9,.slice (some ⟨g,f,none⟩) l.length kc),(10,.int .i64 l.length),(11,.int .i64 i),(21,.slice a x.ks.length cc),(22,.int .i64 x.ks.length),(23,.int .i64 j)])
    (fun j w'=>j≤x.ks.length∧bY w1 w'∧w'.cell? ⟨B+1,0,none⟩=some (.string ⟨x.s.toArray⟩)∧w'.cell? ⟨B+1,1,none⟩=some (.string ⟨x.e.toArray⟩)∧(∀ y,w'.frozen? ⟨B+1,y,none⟩=false) ∧
     ∃ v,w'.cell? ⟨B+1,2,none⟩=some v∧OwnC wq 3 88 w' v ((x.ks.take j).map fun y=>eF y.sv)∧∀ g,v.ownBlock=some g→B+1 < g) (fun j _=>x.ks.length - j) 0 (by kernel_rfl) ?_
     ⟨aQ _,x4,c0,c1,f4,_,c2,OwnC.nil pS,by simp [Value.ownBlock]⟩ ?_
  ·exact bE
  rintro K3 e3 j w6 ⟨j1,j2,j4,j5,j6,v,j8,j9,j10⟩ hK3
  have hS6:=aE j8
  rcases aH j x.ks.length with hj | hj
  rotate_left
  ·have hj':¬ (j:Int) < x.ks.length:=by omega
   refine bf @hj' ?_
   obtain rfl:j=x.ks.length:=by omega
   rw [aT] at j9
   refine hK _ _ () ?_ ⟨j2,j4,j5,v,j8,j9,fun g hg=>by have:=j10 g hg; omega⟩
   exact bE
  have hj':(j:Int) < x.ks.length:=by omega
  obtain ⟨g2,f2,cc2,hv2,hc2,hat2⟩:=(hkx.inc KE.mono j2.inc).at (by omega)
  obtain ⟨rfl,rfl⟩:a=some ⟨g2,f2,none⟩∧cc=cc2:=by simpa using hv2
  obtain ⟨y,hy⟩:=gEl hj
  obtain ⟨p0,p1,p2,p3⟩:=eW (hat2 j y hy)
  obtain ⟨w7,hw7⟩:∃ w7,w7=w6.alloc (.cells #[.int .u64 y.tr,.string ⟨y.suf.toArray⟩,.string ⟨y.val.toArray⟩] 62):=⟨_,rfl⟩
  have x7:bY w6 w7:=by rw [hw7]; exact aL _
  have j8':=x7.cell j8
  obtain ⟨va,vc,rfl,_⟩:=j9.form
  refine rA @hj' @p0 @p1 @p2 @j8 @aA ?_
  rw [← hw7]
  refine sd (eF y.sv) rw44 (j9.ext x7) rfl (.inl rfl) (by rw [hw7,World.size_alloc]) (pT _) (by rw [ah,dB j1]; omega) fun v8 w8 o8 k8 n8 => ?_
  have j10':∀ g,v8.ownBlock=some g→B+1 < g:=fun g hg=>by
   rcases n8 g hg with h | h
   ·exact j10 g h
   ·have:=x7.size; omega
  have nS:(Value.slice va ((x.ks.take j).map fun y=>eF y.sv).length vc).ownBlock≠some (B+1):=fun h=>by have:=j10 _ h; omega
  have q2:=k8.some j8' nS
  have f8:∀ y,w8.frozen? ⟨B+1,y,none⟩=false:=fun y=>by rw [k8.frozen _ y (by have:=x7.size; omega),x7.frozen _ y hS6]; exact j6 y
  obtain ⟨va8,vc8,rfl,_⟩:=o8.form
  refine dV @q2 @f8 ?_
  have k9:Keep (fun b y=>b=B+1∧y=2) w8 (w8.setCell ⟨B+1,2,none⟩ (.slice va8 (((x.ks.take j).map fun y=>eF y.sv)++[eF y.sv]).length vc8)):=bR ⟨rfl,rfl⟩
  refine hK3 _ _ (j+1) ?_ ⟨hj,bX ((j2.trans x7).tr k8 fun b o hb h=>by have:=j10 b h; omega) (by omega),k9.some (k8.some (x7.cell j4) nS) (by omega),k9.some (k8.some (x7.cell j5) nS) (by omega),fun y=>by rw [World.frozen?_setCell]; exact f8 y,
   _,by rw [cC,q2]; rfl,?_,j10'⟩ (by omega)
  ·exact bE
  ·rw [bn hy,bC]
   exact o8.keep k9 fun g hg o h=>by have:=j10' g hg; omega
 rintro e _ w6 ⟨j2,c0,c1,v,c2,o6,n6⟩
 obtain ⟨d5,g5,e5⟩:=nN i3.g.j j2
 have i6:=i3.call dY.mono g5
 have hsl:Sl KE 3 d5 v (x.ks.map fun y=>eF y.sv):=o6.slg (fun y hy=>by
  obtain ⟨p,_,rfl⟩:=bV.1 hy
  exact ⟨rfl,show (0:Nat) < _ by decide⟩) fun g hg o u hu=>e5 _ _ _ (n6 g hg) hu
 obtain ⟨va,vc,rfl,_⟩:=o6.form
 obtain ⟨vo1,vo2,rfl,_⟩:=i6.form
 obtain ⟨css,oo⟩:=i6.o
 refine eI @c0 @c1 @c2 ?_
 refine jI (cR x) [.string ⟨x.s.toArray⟩,.string ⟨x.e.toArray⟩,.slice va (x.ks.map fun y=>eF y.sv).length vc] rw28 oo (by rw [uz]; exact ⟨_,rfl,hsl⟩) rfl (.inl rfl) rfl rfl (by simp [Value.oneCell']) (by rw [ah,dB i2]; omega) i6.g.j fun v8 w8 o8 k8 n8 j8 _ => ?_
 refine al ?_
 refine hK2 _ _ (i+1,v8) ?_ ⟨hi,d5,by simp only; rw [bn hx,bC]; exact i6.more o8 k8 n8 j8⟩ (by simp only; omega)
 exact bE
end
end Go.Proofs
end
section
namespace Go.E
open Go Go.Sort Go.Proofs Go.Proofs.Tryz
def Ay:Sp:=⟨[97],[98],[⟨277,[115],[]⟩]⟩
def n9:List (List Sp):=[[Ay]]
theorem HS:dq n9.flatten=[Ay]:=by decide +kernel
theorem JO:um n9.flatten 2 none none=[⟨[97],[98],[⟨0,[115],[]⟩]⟩]:=by decide +kernel
theorem yZ {α:Type} {R:gN α} {sz N:Nat} {d:World} {cs:List Value} {x:α} (hl:cs.length=sz) (hc:∀ (j:Nat) u,cs[j]? = some u→d.cell? ⟨N,j,none⟩=some u) (hR:R d cs x):Sl R sz d (.slice (some ⟨N,0,none⟩) 1 1) [x]:=by
 refine ⟨fun _=>rfl,rfl,aD _,fun i y hy => ?_⟩
 rcases i with _ | i
 ·obtain rfl:x=y:=by simpa using hy
  refine ⟨cs,hl,fun j u hu => ?_,hR⟩
  rw [show 0+0 * sz+j=j by omega]
  exact hc j u hu
 ·simp at hy
theorem Ll:Wf [Ay]:=by
 refine ⟨fun i hi => ?_,fun i j h1 h2 => ?_⟩
 ·obtain rfl:i=0:=by simp at hi; omega
  decide
 ·simp at h2; omega
theorem vA:LvOk n9 8:=by
 have h1:∀ L ∈ n9,L=[Ay]:=fun L h=>by simpa [n9] using h
 refine ⟨by decide,fun L h=>by rw [h1 L h]; decide,fun L h=>by rw [h1 L h]; exact Ll,fun L h s hs => ?_,fun f hf => ?_⟩
 ·rw [h1 L h] at hs
  rw [ae.1 hs]
  exact ⟨by simp [Ay],by decide⟩
 ·rw [HS] at hf
  rw [ae.1 hf]
  refine ⟨fun x hx => ?_,by simp [Ay]⟩
  have:x=⟨277,[115],[]⟩:=by simpa [Ay] using hx
  subst this
  exact ⟨.inr (.inr (by decide)),fun h=>by simp [an] at h,fun h=>by simp [an] at h⟩
theorem Ei:RIn n9 2 none none:=by
 have h1:∀ L ∈ n9,L=[Ay]:=fun L h=>by simpa [n9] using h
 refine ⟨by decide,by decide,vA.wf,fun L h => ?_,vA.cdF,?_⟩
 ·rw [h1 L h]
  refine ⟨by decide,fun s hs => ?_⟩
  rw [ae.1 hs]
  refine ⟨by decide,by decide,by decide,by simp [Ay],fun x hx => ?_⟩
  have:x=⟨277,[115],[]⟩:=by simpa [Ay] using hx
  subst this
  exact ⟨by decide,by decide⟩
 ·exact fun l h hl=>by cases hl
end Go.E
namespace Go.Proofs
open Go Go.E Go.Sort Go.Proofs.Tryz
section
variable {k:aq} {d w:World}
theorem tm {v:Value} {l:List An} {a:An} (hv:Sl zZ 5 w v l) (hl:l=[a]) (hok:a.ok=true) (hk:k (.bool true) w):aX prog 73 #[v] k w:=by
 subst hl
 obtain ⟨ka,kc,rfl⟩:=hv.form
 obtain ⟨g,f,c,hv',hc,hat⟩:=hv.at (by simp)
 obtain ⟨rfl,rfl⟩:=sEq hv'
 obtain ⟨h0,h1,h2,h3,xa,xc,h4,hxk⟩:=qM (hat 0 a rfl)
 rw [hok] at h1
 simp only [Nat.zero_mul,Nat.add_zero] at h1
 refine ai [.tmp 2] func73 ?_
 have e1:(((1:Nat):Int) == 1)=true:=rfl
 have e2:(0:Int) < ((1:Nat):Int):=by decide
 simp (disch:=first | exact dZ | fail) only [go_sem,h1,aY,e1,e2,Int.toNat_zero,Nat.zero_mul,Nat.add_zero]
 exact hk
theorem sm (hinc:bz d w) (hk:∀ w2,bY w w2→k (.bool true) w2):aX prog 22 #[] k w:=by
 refine ai [.tmp 0] func22 ?_
 refine al ?_
 refine ai [.tmp 0] func72 ?_
 refine al ?_
 obtain ⟨A,hA⟩:∃ A,A=w.heap.size:=⟨_,rfl⟩
 have eS:ByteArray.empty=⟨([]:Bytes).toArray⟩:=rfl
 obtain ⟨W,hW⟩:∃ W,W=(((w.alloc (.cells #[.int .u64 277,.string ⟨#[115]⟩,.string ByteArray.empty] 62)).alloc (.cells #[.string ⟨#[97]⟩,.string ⟨#[98]⟩,.slice (some ⟨w.heap.size,0,none⟩) 1 1] 56)).alloc (.cells #[.slice (some ⟨w.heap.size+1,0,none⟩) 1 1] 74)).alloc (.cells #[.int .u8 0,.string ByteArray.empty] 53):=⟨_,rfl⟩
 have xW:bY w W:=by rw [hW]; exact (((aL _).trans (aL _)).trans (aL _)).trans (aL _)
 have k0:W.cell? ⟨A,0,none⟩=some (.int .u64 277):=by rw [hW,hA]; exact bb @aA
 have k1:W.cell? ⟨A,1,none⟩=some (.string ⟨#[115]⟩):=by rw [hW,hA]; exact bb @aA
 have k2:W.cell? ⟨A,2,none⟩=some (.string ByteArray.empty):=by rw [hW,hA]; exact bb @aA
 have s0:W.cell? ⟨A+1,0,none⟩=some (.string ⟨#[97]⟩):=by rw [hW,hA]; exact bb @aA
 have s1:W.cell? ⟨A+1,1,none⟩=some (.string ⟨#[98]⟩):=by rw [hW,hA]; exact bb @aA
 have s2:W.cell? ⟨A+1,2,none⟩=some (.slice (some ⟨A,0,none⟩) 1 1):=by rw [hW,hA]; exact bb @aA
 have l0:W.cell? ⟨A+1+1,0,none⟩=some (.slice (some ⟨A+1,0,none⟩) 1 1):=by rw [hW,hA]; exact bb @aA
 have t0:W.cell? ⟨A+1+1+1,0,none⟩=some (.int .u8 0):=by rw [hW,hA]; exact bb @aA
 have t1:W.cell? ⟨A+1+1+1,1,none⟩=some (.string ByteArray.empty):=by rw [hW,hA]; exact bb @aA
 rw [← hW,← hA]
 obtain ⟨d4,g4,e4⟩:=nN hinc xW
 have sk:Sl KE 3 d4 (.slice (some ⟨A,0,none⟩) 1 1) [⟨277,[115],[]⟩]:=yZ (cs:=[.int .u64 277,str [115],str []]) rfl (fun j u hu=>by
  match j,hu with
  | 0,hu=>obtain rfl:=bQ hu; exact e4 _ _ _ (by omega) k0
  | 1,hu=>obtain rfl:=bQ hu; exact e4 _ _ _ (by omega) k1
  | 2,hu=>obtain rfl:=bQ hu; exact e4 _ _ _ (by omega) k2) ⟨rfl,by decide⟩
 have ss:Sl dY 3 d4 (.slice (some ⟨A+1,0,none⟩) 1 1) [Ay]:=LG (e4 _ _ _ (by omega) s0) (e4 _ _ _ (by omega) s1) (e4 _ _ _ (by omega) s2) sk
 have sl:Sl jx 1 d4 (.slice (some ⟨A+1+1,0,none⟩) 1 1) n9:=yZ (cs:=[.slice (some ⟨A+1,0,none⟩) 1 1]) rfl (fun j u hu=>by
  match j,hu with
  | 0,hu=>obtain rfl:=bQ hu; exact e4 _ _ _ (by omega) l0) ⟨_,rfl,ss⟩
 have st:Sl Ci 2 d4 (.slice (some ⟨A+1+1+1,0,none⟩) 1 1) [(0,[])]:=yZ (cs:=[.int .u8 0,str []]) rfl (fun j u hu=>by
  match j,hu with
  | 0,hu=>obtain rfl:=bQ hu; exact e4 _ _ _ (by omega) t0
  | 1,hu=>obtain rfl:=bQ hu; exact e4 _ _ _ (by omega) t1) ⟨rfl,by decide⟩
 rw [eS]
 have stok:Fl (pI [] false) (pI [] false) [(0,[])]:=fun x hx=>by
  rw [ae.1 hx]
  exact ⟨fun _=>rfl,fun h=>by simp at h,fun h=>by simp at h,by decide⟩
 refine nO (kl:=[]) (kh:=[]) (bl:=false) (bh:=false) sl st g4.j Ei (by decide) (by decide) stok (by decide) fun d5 w5 v l g5 s5 hp => ?_
 have hv0:(rV n9 2 none none).map cR=[⟨[97],[98],[⟨0,[115],[]⟩]⟩]:=by
  rw [← Al vA.wf (fun L h s hs=>(vA.ks L h s hs).1) vA.cdF]
  exact JO
 obtain ⟨V,hV⟩:∃ V,V=rV n9 2 none none:=⟨_,rfl⟩
 have hp:Pw (mz V (E1 qG)) (qE V (-2) false 0 [(0,[])]) l:=by rw [hV]; exact hp
 rw [← hV] at hv0
 have hVl:V.length=1:=by have:=congrArg List.length hv0; simpa using this
 have hw0:qE V (-2) false 0 [(0,[])]=[some 0]:=rfl
 rw [hw0] at hp
 obtain ⟨a,rfl⟩:∃ a,l=[a]:=by
  have:=hp.1
  match l,this with
  | [a],_=>exact ⟨a,rfl⟩
 obtain ⟨h1,h2,h3,h4⟩:=hp.2 0 _ _ rfl rfl
 have hok:a.ok=true:=by rw [h2]; exact aO ⟨Int.le_refl _,by omega⟩
 obtain ⟨_,_,h5,_⟩:=h3 0 rfl (by omega)
 have hkl:a.sp.ks.length=1:=by
  have e1:=congrArg List.length h5
  rw [ah,ah] at e1
  have e2:((V.map cR)[0]!).ks.length=1:=by rw [hv0]; rfl
  rw [aG (V.map cR) 0 (by simp; omega),iV,uz,ah] at e2
  rw [aG V 0 (by omega)] at e1
  rw [e1,e2]
 have s6:=s5.inc zZ.mono g5.j
 obtain ⟨va,vc,rfl⟩:=s6.form
 obtain ⟨g,f,c,hv',hc,hat⟩:=s6.at (by simp)
 obtain ⟨rfl,rfl⟩:=sEq hv'
 obtain ⟨_,_,_,_,xa,xc,p4,_⟩:=qM (hat 0 a rfl)
 simp only [Nat.zero_mul,Nat.add_zero,hkl] at p4
 refine al ?_
 refine tm s6 rfl hok ?_
 have e1:(((1:Nat):Int) == 1)=true:=rfl
 have e2:(0:Int) < ((1:Nat):Int):=by decide
 simp (disch:=first | exact dZ | fail) only [go_sem,p4,aY,e1,e2,Int.toNat_zero,Nat.zero_mul,Nat.add_zero]
 exact hk _ (xW.trans g5.x)
end
end Go.Proofs
end
section
namespace Go.E
open Go Go.Sort Go.Proofs Go.Proofs.Tryz
theorem LoopL.one {α:Type} {R:gN α} {sz:Nat} {el:TypeId} {d w:World} {x:α} {cs:List Value} (h:bz d w) (hR:R d cs x) (hs:cs.length=sz) :
    LoopL R sz el d w d (w.alloc (.cells cs.toArray el)) (.slice (some ⟨w.heap.size,0,none⟩) 1 1) [x]:=by
 refine ⟨Gr.ext h (aL _),⟨[cs],rfl,⟨by simp [hs],.inr ⟨w.heap.size,1,cs.toArray,rfl,aQ _,(show (w.heap.push _)[w.heap.size]? = _ from Array.getElem?_push_size),aD _,by decide,by simp [hs],by simp [← hs]⟩⟩,fun c hc=>by rw [ae.1 hc]; exact hs,fun i y c hy hc => ?_,fun g hg => ?_⟩,fun b hb => ?_⟩
 ·rcases i with _ | i
  ·obtain rfl:=bQ hy
   obtain rfl:=bQ hc
   exact hR
  ·simp at hy
 ·obtain rfl:=bQ hg
  exact h.out (aD _)
 ·obtain rfl:=bQ hb
  exact aD _
end Go.E
namespace Go.Proofs
open Go Go.E Go.Sort Go.Proofs.Tryz
section
variable {k:aq} {d w:World}
theorem tq {n:Nat} (hn:n≤1000) (hinc:bz d w) (hk:∀ d' w' v,Gr d w d' w'→Sl Ci 2 d' v (HP n)→k v w'):aX prog 36 #[.int .i64 n] k w:=by
 refine ai [.tmp 2] func36 ?_
 refine al ?_
 have i0:LoopL Ci 2 53 d w d (w.alloc (.cells #[.int .u8 0,.string ByteArray.empty] 53)) (.slice (some ⟨w.heap.size,0,none⟩) 1 1) [(0,[])]:=LoopL.one (cs:=[.int .u8 0,str []]) hinc ⟨rfl,by decide⟩ rfl
 refine bO (fun b:Nat × Value=>[(3,b.2),(6,.int .i64 n),(7,.int .i64 b.1)])
  (fun b w'=>b.1≤n∧∃ d1,LoopL Ci 2 53 d w d1 w' b.2 ((0,[]) :: List.replicate b.1 (2,[]))) (fun b _=>n - b.1) (0,.slice (some ⟨w.heap.size,0,none⟩) 1 1) (by kernel_rfl) ?_ ⟨aQ _,d,i0⟩ ?_
 ·exact bE
 rintro K2 e ⟨i,v⟩ w1 ⟨i2,d1,i3⟩ hK2
 simp only at i2 i3
 rcases aH i n with hi | hi
 rotate_left
 ·have hi':¬ (i:Int) < n:=by omega
  refine bf @hi' ?_
  obtain rfl:i=n:=by omega
  obtain ⟨d2,g2,_,_,s2⟩:=i3.done Ci.mono
  exact hk d2 w1 v g2 s2
 have hi':(i:Int) < n:=by omega
 obtain ⟨css,o3⟩:=i3.o
 obtain ⟨va,vcap,rfl,_⟩:=i3.form
 refine bf @hi' ?_
 refine jI ((2,[]):Nat × Bytes) [.int .u8 2,str []] rw38 o3 ⟨rfl,by decide⟩ rfl (.inl rfl) rfl rfl (by simp [Value.oneCell',str]) (by rw [ag,List.length_replicate]; omega) i3.g.j fun v2 w2 o2 k2 n2 j2 _ => ?_
 refine al ?_
 refine hK2 _ _ (i+1,v2) ?_ ⟨hi,d1,?_⟩ (by simp only; omega)
 ·exact bE
 ·simp only
  rw [List.replicate_succ',← List.cons_append]
  exact i3.more o2 k2 n2 j2
theorem wX {v:Value} {l:List An} (hv:Sl zZ 5 d v l) (hl:l.length≤100000) (hinc:bz d w) (hk:∀ d' w' v',Gr d w d' w'→Sl dY 3 d' v' (mH l)→k v' w'):aX prog 35 #[v] k w:=by
 obtain ⟨ka,kc,rfl⟩:=hv.form
 refine ai [.tmp 2] func35 ?_
 refine al ?_
 refine bO (fun b:Nat × Value=>[(3,b.2),(6,.slice ka l.length kc),(7,.int .i64 l.length),(8,.int .i64 b.1)])
  (fun b w'=>b.1≤l.length∧∃ d1,LoopL dY 3 56 d w d1 w' b.2 (mH (l.take b.1))) (fun b _=>l.length - b.1) (0,.slice none 0 0) (by kernel_rfl) ?_ ⟨aQ _,d,LoopL.nil hinc⟩ ?_
 ·exact bE
 rintro K2 e ⟨i,v⟩ w1 ⟨i2,d1,i3⟩ hK2
 simp only at i2 i3
 rcases aH i l.length with hi | hi
 rotate_left
 ·have hi':¬ (i:Int) < l.length:=by omega
  refine bf @hi' ?_
  obtain rfl:i=l.length:=by omega
  rw [aT] at i3
  obtain ⟨d2,g2,_,_,s2⟩:=i3.done dY.mono
  exact hk d2 w1 v g2 s2
 have hi':(i:Int) < l.length:=by omega
 obtain ⟨g,f,c,hv',hc,hat⟩:=(hv.inc zZ.mono i3.g.i).at (by omega)
 obtain ⟨rfl,rfl⟩:=sEq hv'
 obtain ⟨x,hx⟩:=gEl hi
 obtain ⟨h0,h1,h2,h3,xa,xc,h4,hxk⟩:=qM (hat i x hx)
 have h0:=i3.g.j _ _ _ h0
 have h1:=i3.g.j _ _ _ h1
 have h2:=i3.g.j _ _ _ h2
 have h3:=i3.g.j _ _ _ h3
 have h4:=i3.g.j _ _ _ h4
 have hmore:mH (l.take (i+1))=mH (l.take i)++if x.ok then [x.sp] else []:=by
  rw [bn hx]
  unfold mH
  rw [List.filter_append,bC]
  cases h:x.ok <;> simp [List.filter_cons,h]
 obtain ⟨T,hT⟩:∃ T,T=w1.heap.size:=⟨_,rfl⟩
 obtain ⟨w2,hw2⟩:∃ w2,w2=w1.alloc (.cells #[.bool x.dn,.bool x.ok,.string ⟨x.sp.s.toArray⟩,.string ⟨x.sp.e.toArray⟩,.slice xa x.sp.ks.length xc] 58):=⟨_,rfl⟩
 have x2:bY w1 w2:=by rw [hw2]; exact aL _
 have a1:w2.cell? ⟨T,1,none⟩=some (.bool x.ok):=by rw [hw2,hT]; exact bb @aA
 have a2:w2.cell? ⟨T,2,none⟩=some (.string ⟨x.sp.s.toArray⟩):=by rw [hw2,hT]; exact bb @aA
 have a3:w2.cell? ⟨T,3,none⟩=some (.string ⟨x.sp.e.toArray⟩):=by rw [hw2,hT]; exact bb @aA
 have a4:w2.cell? ⟨T,4,none⟩=some (.slice xa x.sp.ks.length xc):=by rw [hw2,hT]; exact bb @aA
 have i5:=i3.ext dY.mono x2
 refine vR @hi' @h0 @h1 @h2 @h3 @h4 @aA ?_
 rw [← hw2,← hT]
 cases hok:x.ok with
 | false =>
  rw [hok] at a1 hmore
  refine bf @a1 ?_
  refine hK2 _ _ (i+1,v) ?_ ⟨hi,d1,?_⟩ (by simp only; omega)
  ·exact bE
  ·simp only
   rw [hmore,if_neg (by decide),au]
   exact i5
 | true =>
  rw [hok] at a1 hmore
  obtain ⟨css,o5⟩:=i5.o
  obtain ⟨va,vcap,rfl,_⟩:=i5.form
  have hfl:(mH (l.take i)).length≤i:=by
   unfold mH
   rw [ah]
   refine aU (az _ _) ?_
   rw [ar]; omega
  refine fW @a1 @a2 @a3 @a4 ?_
  refine jI x.sp [.string ⟨x.sp.s.toArray⟩,.string ⟨x.sp.e.toArray⟩,.slice xa x.sp.ks.length xc] rw74 o5 ⟨_,rfl,hxk⟩ rfl (.inl rfl) rfl rfl (by simp [Value.oneCell']) (by omega) i5.g.j fun v6 w6 o6 k6 n6 j6 _ => ?_
  refine al ?_
  refine hK2 _ _ (i+1,v6) ?_ ⟨hi,d1,?_⟩ (by simp only; omega)
  ·exact bE
  ·simp only
   rw [hmore,if_pos rfl]
   exact i5.more o6 k6 n6 j6
end
end Go.Proofs
end
section
namespace Go.E
open Go Go.Sort Go.Proofs
structure SR where
 x:Sp
 sv:Value
 ev:Value
 kv:Value
 deriving Inhabited
def SR.good (d:World) (x:SR):Prop:=fV d x.sv x.x.s∧fV d x.ev x.x.e∧rK x.sv=true∧rK x.ev=true∧Sl KB 3 d x.kv x.x.ks
def SR.cells (x:SR):List Value:=[x.sv,x.ev,x.kv,.int .i8 0]
def Ej (l:List SR):List Value:=l.flatMap SR.cells
theorem sr (x:SR) (l:List SR):Ej (x :: l)=x.sv :: x.ev :: x.kv :: .int .i8 0 :: Ej l:=rfl
theorem HT {l:List SR} {i:Nat} {x:SR} (h:l[i]? = some x):(Ej l)[i * 4]? = some x.sv∧(Ej l)[i * 4+1]? = some x.ev∧(Ej l)[i * 4+2]? = some x.kv∧(Ej l)[i * 4+3]? = some (.int .i8 0):=by
 induction l generalizing i with
 | nil=>simp at h
 | cons y l ih =>
  rw [sr]
  cases i with
  | zero =>
   simp only [List.getElem?_cons_zero,aK] at h
   subst h
   exact ⟨rfl,rfl,rfl,rfl⟩
  | succ i =>
   have:=ih (i:=i) (by simpa using h)
   rw [show (i+1) * 4=i * 4+4 by omega]
   exact this
theorem Az (l:List SR) (i:Nat) (x:SR) (h:i < l.length):((((Ej l).set (i * 4) x.sv).set (i * 4+1) x.ev).set (i * 4+2) x.kv).set (i * 4+3) (.int .i8 0)=Ej (l.set i x):=by
 induction l generalizing i with
 | nil=>simp at h
 | cons y l ih =>
  rw [sr]
  cases i with
  | zero=>rfl
  | succ i =>
   have:=ih i (by simpa using h)
   have e:(y :: l).set (i+1) x=y :: l.set i x:=rfl
   rw [show (i+1) * 4=i * 4+4 by omega,e,sr,← this]
   rfl
structure SRow (d w0 w:World) (Hb ho g cap:Nat) (a:Array SR):Prop where
 hd:w.cell? ⟨Hb,ho,none⟩=some (.slice (some ⟨g,0,none⟩) a.size cap)
 own:w.ownsRow 0 114 4 (.slice (some ⟨g,0,none⟩) a.size cap) a.size (Ej a.toList)
 good:∀ x,x ∈ a.toList→x.good d
 keep:Keep (fun b _=>b=g) w0 w
 inc0:bz d w0
 lt:g < w0.heap.size
 hb:Hb < w0.heap.size
 ne:Hb≠g
 out:cq d g
section
variable {d w0 w:World} {Hb ho g cap:Nat} {a:Array SR}
theorem SRow.inc (h:SRow d w0 w Hb ho g cap a):bz d w:=h.inc0.keep h.keep (by rintro x _ rfl; exact h.out _)
theorem SRow.at (h:SRow d w0 w Hb ho g cap a) {i:Nat} (hi:i < a.size) :
    w.cell? ⟨g,i * 4,none⟩=some a[i]!.sv∧w.cell? ⟨g,i * 4+1,none⟩=some a[i]!.ev∧w.cell? ⟨g,i * 4+2,none⟩=some a[i]!.kv∧w.cell? ⟨g,i * 4+3,none⟩=some (.int .i8 0)∧a[i]!.good d:=by
 have e:a.toList[i]? = some a[i]! := by rw [aG a i hi]; simp [hi]
 obtain ⟨h1,h2,h3,h4⟩:=HT e
 exact ⟨av h.own h1,av h.own h2,av h.own h3,av h.own h4,h.good _ (aJ e)⟩
theorem SRow.swapped (h:SRow d w0 w Hb ho g cap a) {i j:Nat} (hi:i < a.size) (hj:j < a.size) :
    SRow d w0 ((((((((w.setCell ⟨g,i * 4,none⟩ a[j]!.sv).setCell ⟨g,i * 4+1,none⟩ a[j]!.ev).setCell ⟨g,i * 4+2,none⟩ a[j]!.kv).setCell ⟨g,i * 4+3,none⟩ (.int .i8 0)).setCell ⟨g,j * 4,none⟩ a[i]!.sv).setCell ⟨g,j * 4+1,none⟩ a[i]!.ev).setCell ⟨g,j * 4+2,none⟩ a[i]!.kv).setCell ⟨g,j * 4+3,none⟩ (.int .i8 0)) Hb ho g cap (swp a i j):=by
 have e1:=bp (bp (bp (bp (bp (bp (bp (bp h.own (i * 4) a[j]!.sv) (i * 4+1) a[j]!.ev) (i * 4+2) a[j]!.kv) (i * 4+3) (.int .i8 0)) (j * 4) a[i]!.sv) (j * 4+1) a[i]!.ev) (j * 4+2) a[i]!.kv) (j * 4+3) (.int .i8 0)
 rw [Az _ _ _ (by simpa using hi),Az _ _ _ (by simpa using hj)] at e1
 have ne:=h.ne
 have ne2:=Ne.symm ne
 have es:(swp a i j).toList=(a.toList.set i a[j]!).set j a[i]! := by simp [swp]
 have hz:(swp a i j).size=a.size:=swp_size a i j
 refine ⟨?_,?_,?_,?_,h.inc0,h.lt,h.hb,ne,h.out⟩
 ·have:=h.hd
  rw [hz]
  exact bb @this
 ·rw [hz,es]; exact e1
 ·intro x hx
  rw [es] at hx
  rcases List.mem_or_eq_of_mem_set hx with hx | rfl
  ·rcases List.mem_or_eq_of_mem_set hx with hx | rfl
   ·exact h.good x hx
   ·exact (h.at hj).2.2.2.2
  ·exact (h.at hi).2.2.2.2
 ·exact ((((((((h.keep.set (fun _=>rfl)).set (fun _=>rfl)).set (fun _=>rfl)).set (fun _=>rfl)).set (fun _=>rfl)).set (fun _=>rfl)).set (fun _=>rfl)).set (fun _=>rfl))
theorem SRow.drew (h:SRow d w0 w Hb ho g cap a):SRow d w0 w.drew Hb ho g cap a:=⟨h.hd,h.own.drew,h.good,h.keep.drew,h.inc0,h.lt,h.hb,h.ne,h.out⟩
theorem SRow.alloc (h:SRow d w0 w Hb ho g cap a) (ob:Obj):SRow d w0 (w.alloc ob) Hb ho g cap a:=⟨(aL ob).cell h.hd,h.own.alloc ob,h.good,h.keep.alloc ob,h.inc0,h.lt,h.hb,h.ne,h.out⟩
theorem SRow.set {b o:Nat} {v:Value} (h:SRow d w0 w Hb ho g cap a) (hb:w0.heap.size≤b):SRow d w0 (w.setCell ⟨b,o,none⟩ v) Hb ho g cap a:=by
 have h1:=h.lt
 have h2:=h.hb
 have kk:Keep (fun x _=>x=b) w (w.setCell ⟨b,o,none⟩ v):=bR rfl
 refine ⟨kk.some h.hd (by omega),aZ h.own kk (fun g' hg o' he => ?_),h.good,h.keep.set (fun hlt=>by omega),h.inc0,h1,h2,h.ne,h.out⟩
 simp only [Value.ownBlock,aK] at hg
 omega
end
end Go.E
namespace Go.Proofs
open Go Go.E Go.Sort
section
variable {k:aq} {d w0 w:World} {Hb ho g cap:Nat} {a:Array SR}
end
end Go.Proofs
end
section
namespace Go.E
open Go Go.Sort Go.Proofs
theorem SR.good.inc {d d2:World} {r:SR} (h:r.good d) (hi:bz d d2):r.good d2:=⟨h.1.inc hi,h.2.1.inc hi,h.2.2.1,h.2.2.2.1,h.2.2.2.2.inc KB.mono hi⟩
end Go.E
namespace Go.Proofs
open Go Go.E Go.Sort
section
variable {k:aq} {d w:World}
end
end Go.Proofs
end
section
namespace Go.E
open Go Go.Sort Go.Proofs
structure EmO (d w:World) (O A:Nat) (vo:Value) (out:List Sp):Prop where
 cA:w.cell? ⟨A,0,none⟩=some (.pointer (some ⟨O,0,none⟩))
 cO:w.cell? ⟨O,0,none⟩=some vo
 fO:∀ y,w.frozen? ⟨O,y,none⟩=false
 oo:∃ css,OwnL dY 3 56 d w vo out css
theorem EmO.keep {d w w2:World} {O A:Nat} {vo:Value} {out:List Sp} {M:Nat→Nat→Prop} (h:EmO d w O A vo out) (k:Keep M w w2) (h1:¬ M A 0) (h2:¬ M O 0) (h3:∀ g,vo.ownBlock=some g→∀ o,¬ M g o):EmO d w2 O A vo out:=by
 obtain ⟨css,o⟩:=h.oo
 exact ⟨k.some h.cA h1,k.some h.cO h2,fun y=>by rw [k.frozen O y (aE h.cO)]; exact h.fO y,css,o.keep k h3⟩
structure Gk (M:Nat→Nat→Prop) (d w d2 w2:World):Prop where
 k:Keep M w w2
 i:bz d d2
 j:bz d2 w2
 o:∀ b,b < w.heap.size→cq d b→cq d2 b
theorem Gk.trans {M M1 M2:Nat→Nat→Prop} {d w d1 w1 d2 w2:World} (h:Gk M1 d w d1 w1) (h2:Gk M2 d1 w1 d2 w2) (m1:∀ b o,b < w.heap.size→M1 b o→M b o) (m2:∀ b o,b < w.heap.size→M2 b o→M b o):Gk M d w d2 w2 :=
 ⟨(h.k.mono m1).tr h2.k m2,h.i.trans h2.i,h2.j,fun b hb ho=>h2.o b (aI hb h.k.size) (h.o b hb ho)⟩
theorem Gk.gr {M:Nat→Nat→Prop} {d w d2 w2:World} (h:Gr d w d2 w2):Gk M d w d2 w2:=⟨h.x.keep,h.i,h.j,h.o⟩
end Go.E
namespace Go.Proofs
open Go Go.E Go.Sort
section
variable {k:aq} {d w:World}
end
end Go.Proofs
end
section
namespace Go.E
open Go Go.Sort Go.Proofs
structure FrC (c:Nat→Nat) (d w:World) (F O A:Nat) (vo:Value) (out:List Sp) (vf:Value) (lf:List KR):Prop where
 em:EmO d w O A vo out
 f0:w.cell? ⟨F,0,none⟩=some (.func (.func 102) #[] #[])
 f2:w.cell? ⟨F,2,none⟩=some (.func (.func 117) #[] #[.pointer (some ⟨A,0,none⟩)])
 f5:(w.cell? ⟨F,5,none⟩).isSome=true
 f6:(w.cell? ⟨F,6,none⟩).isSome=true
 f7:KOwn d w F 7 vf lf
 fz:∀ y,w.frozen? ⟨F,y,none⟩=false
 oF:cq d F
 oO:cq d O
 cF:c F=0
 cO:c O=1
 cA:c A=2
 c3:∀ g,vo.ownBlock=some g→c g=3
 c4:∀ g,vf.ownBlock=some g→c g=4∧cq d g
section
variable {c:Nat→Nat} {d w w2:World} {F O A:Nat} {vo vf:Value} {out:List Sp} {lf:List KR}
theorem FrC.keep' (h:FrC c d w F O A vo out vf lf) {M:Nat→Nat→Prop} (k:Keep M w w2) (h0:∀ b o,M b o→c b=0∧(o=5∨o=6)∨5≤c b) (h5:(w2.cell? ⟨F,5,none⟩).isSome=true) (h6:(w2.cell? ⟨F,6,none⟩).isSome=true):FrC c d w2 F O A vo out vf lf:=by
 have n:∀ {b o},c b < 5→(c b=0→o≠5∧o≠6)→¬ M b o:=fun {b o} hb hn hm=>by have:=h0 b o hm; omega
 have hF:=h.cF
 have hO:=h.cO
 have hA:=h.cA
 exact ⟨h.em.keep k (n (by omega) (by omega)) (n (by omega) (by omega)) (fun g hg o=>n (by rw [h.c3 g hg]; omega) (by rw [h.c3 g hg]; omega)),k.some h.f0 (n (by omega) (by omega)),k.some h.f2 (n (by omega) (by omega)),h5,h6,⟨k.some h.f7.hd (n (by omega) (by omega)),aZ h.f7.own k (fun g hg o=>n (by rw [(h.c4 g hg).1]; omega) (by rw [(h.c4 g hg).1]; omega)),h.f7.good⟩,fun y=>by rw [k.frozen F y (aE h.f0)]; exact h.fz y,h.oF,h.oO,hF,hO,hA,h.c3,h.c4⟩
theorem FrC.keep (h:FrC c d w F O A vo out vf lf) {M:Nat→Nat→Prop} (k:Keep M w w2) (h0:∀ b o,M b o→5≤c b):FrC c d w2 F O A vo out vf lf:=by
 have hF:=h.cF
 have n:∀ {b o},c b < 5→¬ M b o:=fun {b o} hb hm=>by have:=h0 b o hm; omega
 refine h.keep' k (fun b o hm => .inr (h0 b o hm)) ?_ ?_
 ·obtain ⟨v,hv⟩:=eZ.1 h.f5
  rw [k.some hv (n (by omega))]; rfl
 ·obtain ⟨v,hv⟩:=eZ.1 h.f6
  rw [k.some hv (n (by omega))]; rfl
end
end Go.E
namespace Go.Proofs
open Go Go.E Go.Sort
section
variable {k:aq} {d w:World}
end
end Go.Proofs
end
section
namespace Go.Proofs
open Go Go.E Go.Sort
section
variable {k:aq} {d w:World}
end
end Go.Proofs
end
section
namespace Go.E
open Go Go.Sort Go.Proofs
end Go.E
namespace Go.Proofs
open Go Go.E Go.Sort
section
variable {k:aq} {d w:World}
theorem kp {v:Value} {key:Bytes} (o:w.ownsRow 0 5 1 v key.length (iI key)):fV w v key:=by
 rcases cY o with ⟨rfl,h0,_⟩ | ⟨g,cap,rfl,_,_⟩
 ·exact ⟨rfl,ao.1 h0⟩
 ·refine ⟨rfl,rfl,fun i u hu => ?_⟩
  rw [Nat.zero_add]
  exact av o hu
end
end Go.Proofs
end
section
namespace Go.E
open Go Go.Sort Go.Proofs
section
variable {c:Nat→Nat} {d w w2:World} {F O A:Nat} {vo vf:Value} {out:List Sp} {lf:List KR}
theorem FrC.keep3 (h:FrC c d w F O A vo out vf lf) {M:Nat→Nat→Prop} (k:Keep M w w2) (h0:∀ b o,M b o→c b=0∧(o=3∨o=4∨8≤o)∨5≤c b):FrC c d w2 F O A vo out vf lf:=by
 have hF:=h.cF
 have hO:=h.cO
 have hA:=h.cA
 have n:∀ {b o},c b < 5→(c b=0→o≠3∧o≠4∧o < 8)→¬ M b o:=fun {b o} hb hn hm=>by have:=h0 b o hm; omega
 have i5:∀ {o},o=5∨o=6→(w.cell? ⟨F,o,none⟩).isSome=true→(w2.cell? ⟨F,o,none⟩).isSome=true:=fun ho hi=>by
  obtain ⟨u,hu⟩:=eZ.1 hi
  rw [k.some hu (n (by omega) fun _=>by omega)]; rfl
 exact ⟨h.em.keep k (n (by omega) (by omega)) (n (by omega) (by omega)) (fun g hg o=>n (by rw [h.c3 g hg]; omega) (by rw [h.c3 g hg]; omega)),k.some h.f0 (n (by omega) (by omega)),k.some h.f2 (n (by omega) (by omega)),i5 (by omega) h.f5,i5 (by omega) h.f6,⟨k.some h.f7.hd (n (by omega) (by omega)),aZ h.f7.own k (fun g hg o=>n (by rw [(h.c4 g hg).1]; omega) (by rw [(h.c4 g hg).1]; omega)),h.f7.good⟩,fun y=>by rw [k.frozen F y (aE h.f0)]; exact h.fz y,h.oF,h.oO,hF,hO,hA,h.c3,h.c4⟩
theorem FrC.color (h:FrC c d w F O A vo out vf lf) {c2:Nat→Nat} (hc:∀ b,b < w.heap.size→c2 b=c b):FrC c2 d w F O A vo out vf lf:=by
 obtain ⟨css,oo⟩:=h.em.oo
 exact ⟨h.em,h.f0,h.f2,h.f5,h.f6,h.f7,h.fz,h.oF,h.oO,by rw [hc F (aE h.f0)]; exact h.cF,by rw [hc O (aE h.em.cO)]; exact h.cO,by rw [hc A (aE h.em.cA)]; exact h.cA,
  fun g hg=>by rw [hc g (oo.own.lt _ hg).2]; exact h.c3 g hg,fun g hg=>by rw [hc g (h.f7.own.lt _ hg).2]; exact h.c4 g hg⟩
end
structure FrS (c:Nat→Nat) (d w:World) (F O A:Nat) (vo:Value) (out:List Sp) (vf:Value) (lf:List KR) (vp:Value) (P:List SR) (vd vk:Value) (q:Bytes):Prop where
 core:FrC c d w F O A vo out vf lf
 f3:w.cell? ⟨F,3,none⟩=some vp
 pown:w.ownsRow 0 114 4 vp P.length (Ej P)
 pgood:∀ r ∈ P,r.good d
 pc:∀ g,vp.ownBlock=some g→c g=6∧cq d g
 f4:w.cell? ⟨F,4,none⟩=some vd
 down:w.ownsRow 0 114 4 vd 0 []
 dc:∀ g,vd.ownBlock=some g→c g=5∧cq d g
 f8:w.cell? ⟨F,8,none⟩=some vk
 kown:∃ n xs,w.ownsRow 0 5 1 vk n xs
 kc:∀ g,vk.ownBlock=some g→c g=7∧cq d g
 kb:vk = .slice none 0 0∨fV w vk q
 f9:w.cell? ⟨F,9,none⟩=some (.bool false)
def sM (c:Nat→Nat):Nat→Nat→Prop:=fun b _=>c b < 8
end Go.E
namespace Go.Proofs
open Go Go.E Go.Sort
section
variable {k:aq} {d w:World}
end
end Go.Proofs
end
section
namespace Go.E
open Go Go.Sort Go.Proofs
section
variable {c:Nat→Nat} {d w w2:World} {F O A:Nat} {vo vf vp vd vk:Value} {out:List Sp} {lf:List KR} {P:List SR} {q:Bytes}
theorem FrS.ext (s:FrS c d w F O A vo out vf lf vp P vd vk q) (x:bY w w2):FrS c d w2 F O A vo out vf lf vp P vd vk q:=by
 obtain ⟨n,xs,ho⟩:=s.kown
 refine ⟨s.core.keep3 x fun _ _ h=>h.elim,x.cell s.f3,aZ s.pown x fun _ _ _ h=>h,s.pgood,s.pc,x.cell s.f4,aZ s.down x fun _ _ _ h=>h,s.dc,x.cell s.f8,⟨n,xs,aZ ho x fun _ _ _ h=>h⟩,s.kc,?_,x.cell s.f9⟩
 rcases s.kb with h | h
 ·exact .inl h
 ·exact .inr (h.inc x.inc)
theorem FrS.color (s:FrS c d w F O A vo out vf lf vp P vd vk q) {c2:Nat→Nat} (hc:∀ b,b < w.heap.size→c2 b=c b):FrS c2 d w F O A vo out vf lf vp P vd vk q:=by
 obtain ⟨n,xs,ho⟩:=s.kown
 exact ⟨s.core.color hc,s.f3,s.pown,s.pgood,fun b hb=>⟨by rw [hc b (s.pown.lt _ hb).2]; exact (s.pc b hb).1,(s.pc b hb).2⟩,s.f4,s.down,fun b hb=>⟨by rw [hc b (s.down.lt _ hb).2]; exact (s.dc b hb).1,(s.dc b hb).2⟩,s.f8,⟨n,xs,ho⟩,fun b hb=>⟨by rw [hc b (ho.lt _ hb).2]; exact (s.kc b hb).1,(s.kc b hb).2⟩,s.kb,s.f9⟩
theorem FrS.push (s:FrS c d w F O A vo out vf lf vp P vd vk q) (hinc:bz d w) {v2:Value} {r:SR} (o2:w2.ownsRow 0 114 4 v2 (P++[r]).length (Ej (P++[r]))) (k2:Keep (fun b _=>vp.ownBlock=some b) w w2) (n2:cZ w vp v2) (hr:r.good d) :
    ∃ c2,FrS c2 d (w2.setCell ⟨F,3,none⟩ v2) F O A vo out vf lf v2 (P++[r]) vd vk q∧(∀ b,b < w.heap.size→c2 b=c b)∧Gk (sM c) d w d (w2.setCell ⟨F,3,none⟩ v2):=by
 obtain ⟨n,xs,ho⟩:=s.kown
 obtain ⟨c2,hc2⟩:∃ c2:Nat→Nat,c2=fun b=>if b < w.heap.size then c b else 6:=⟨_,rfl⟩
 have hc:∀ b,b < w.heap.size→c2 b=c b:=fun b hb=>by rw [hc2]; exact if_pos hb
 have lp:∀ b,vp.ownBlock=some b→b < w.heap.size:=fun b hb=>(s.pown.lt _ hb).2
 have hF:=s.core.cF
 have lF:=aE s.core.f0
 have ks:Keep (fun b o=>b=F∧o=3) w2 (w2.setCell ⟨F,3,none⟩ v2):=bR ⟨rfl,rfl⟩
 have kk:Keep (fun b o=>vp.ownBlock=some b∨b=F∧o=3) w (w2.setCell ⟨F,3,none⟩ v2):=(k2.mono fun _ _ _ h => .inl h).tr ks fun _ _ _ h => .inr h
 have nn:∀ {b o},c b≠6→(b=F→o≠3)→¬ (vp.ownBlock=some b∨b=F∧o=3):=fun {b o} h6 h3 hm=>by
  rcases hm with h | ⟨h,h'⟩
  ·exact h6 (s.pc b h).1
  ·exact h3 h h'
 have nF:vp.ownBlock≠some F:=fun h=>by have:=(s.pc F h).1; omega
 have n57:∀ {b o},c b=5∨c b=7→¬ (vp.ownBlock=some b∨b=F∧o=3):=fun {b o} h=>nn (by omega) fun e=>by rw [e] at h; omega
 have nv2:∀ b,v2.ownBlock=some b→c2 b=6∧cq d b:=fun b hb=>by
  rcases n2 b hb with h1 | h1
  ·exact ⟨by rw [hc b (lp b h1)]; exact (s.pc b h1).1,(s.pc b h1).2⟩
  ·exact ⟨by rw [hc2]; exact if_neg (by omega),hinc.out h1⟩
 have inc':bz d (w2.setCell ⟨F,3,none⟩ v2):=hinc.keep kk fun b o hm=>by
  rcases hm with h | ⟨h,_⟩
  ·exact (s.pc b h).2 o
  ·rw [h]; exact s.core.oF o
 have kb':vk = .slice none 0 0∨fV (w2.setCell ⟨F,3,none⟩ v2) vk q:=by
  rcases s.kb with h | h
  ·exact .inl h
  ·refine .inr ?_
   rcases cY ho with ⟨e,_,_⟩ | ⟨g,cap,e,hn,_⟩
   ·rw [e] at h ⊢; exact h
   ·rw [e] at h ⊢
    obtain ⟨h1,h2,h3⟩:=h
    refine ⟨h1,h2,fun i u hu => ?_⟩
    refine kk.some (h3 i u hu) (n57 (.inr (s.kc g (by rw [e]; rfl)).1))
 refine ⟨c2,⟨(s.core.color hc).keep3 kk fun b o hm => ?_,by rw [cC,k2.some s.f3 nF]; rfl,aZ o2 ks fun b hb o hm => ?_,fun z hz => ?_,nv2,kk.some s.f4 (nn (by omega) fun _=>by decide),aZ s.down kk fun b hb o=>n57 (.inl (s.dc b hb).1),fun b hb=>⟨by rw [hc b (s.down.lt _ hb).2]; exact (s.dc b hb).1,(s.dc b hb).2⟩,kk.some s.f8 (nn (by omega) fun _=>by decide),⟨n,xs,aZ ho kk fun b hb o=>n57 (.inr (s.kc b hb).1)⟩,fun b hb=>⟨by rw [hc b (ho.lt _ hb).2]; exact (s.kc b hb).1,(s.kc b hb).2⟩,kb',kk.some s.f9 (nn (by omega) fun _=>by decide)⟩,hc,kk.mono fun b o hb hm => ?_,bz.refl d,inc',fun _ _ h=>h⟩
 ·rcases hm with h | ⟨h,h'⟩
  ·exact .inr (by rw [hc b (lp b h),(s.pc b h).1]; omega)
  ·exact .inl ⟨by rw [h,hc F lF]; exact hF,.inl h'⟩
 ·have h1:=(nv2 b hb).1
  rw [hm.1,hc F lF] at h1
  omega
 ·rcases ax.1 hz with hz | hz
  ·exact s.pgood z hz
  ·rw [ae.1 hz]; exact hr
 ·unfold sM
  rcases hm with h | ⟨h,_⟩
  ·have:=(s.pc b h).1; omega
  ·rw [h]; omega
end
end Go.E
namespace Go.Proofs
open Go Go.E Go.Sort
section
variable {k:aq} {d w:World}
end
end Go.Proofs
end
section
namespace Go.E
open Go Go.Sort Go.Proofs
end Go.E
namespace Go.Proofs
open Go Go.E Go.Sort
section
variable {k:aq} {d w:World}
end
end Go.Proofs
end
