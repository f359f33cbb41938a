/- Parts of the proof: Xi, Ua, Vi, Wh, Wi, Wj, Wk. -/
import Derived.Test.YtlmoafgebiffaaaGreatDoorV15
import Derived.Test.YtlmoafgebiffaaaGreatDoorV17
import Derived.Test.YtlmoafgebiffaaaGreatDoorV18
import Derived.Test.YtlmoafgebiffaaaGreatDoorV19
set_option linter.all false
set_option maxRecDepth 10000
section
namespace Go.E
open Go Go.Sort Go.Proofs Go.Proofs.Tryz
def Jo (x:K):Prop:=(au x.tr=19∨au x.tr=20∨au x.tr=21)∧(au x.tr=19→x.suf=[])∧(au x.tr≠21→x.val=[])
def Jp (x k:K):Prop:=¬ x.tr < k.tr∧¬ (x.tr / 256=k.tr / 256∧x.suf=k.suf∧(au k.tr=19↔au x.tr=19))
theorem mn.snoc {l:List K} {x:K} (h:mn l) (h1:Jo x) (h2:∀ y ∈ l,Jp y x):mn (l++[x]):=by
 refine ⟨fun y hy => ?_,List.pairwise_append.2 ⟨h.2,by simp,fun a ha b hb => ?_⟩⟩
 ·rcases aS.1 hy with hy | hy
  ·exact h.1 y hy
  ·rw [aM.1 hy]; exact h1
 ·rw [aM.1 hb]; exact h2 a ha
theorem kI {x:K} {a b:Bool} (h:19≤au x.tr∧au x.tr≤21) (ha:au x.tr=19↔a=true) (hb:au x.tr=21↔b=true):¬ (au x.tr:Int) < 19∧¬ (21:Int) < au x.tr∧((au x.tr:Int) == 19)=a∧((au x.tr:Int) != 21) = !b:=by
 refine ⟨by omega,by omega,?_,?_⟩
 ·rw [bG,← ha,beq_iff_eq]; omega
 ·rw [bne,Bool.not_inj_iff,bG,← hb,beq_iff_eq]; omega
theorem tZ (l:List Sp):(df l).length≤2 * l.length:=by
 have:∀ m,((List.range m).flatMap (fy l (cN l))).length≤m:=fun m=>by
  induction m with
  | zero=>simp
  | succ m ih =>
   rw [List.range_succ,ay,aE]
   have:(fy l (cN l) m).length≤1:=by unfold fy; split <;> simp
   simp only [ae,List.flatMap_nil,ao]
   omega
 have:=this ((cN l).length - 1)
 have:=gE l
 unfold df
 omega
theorem Aj {l:List Sp} {f:Sp} (h:f ∈ df l):∃ s t,f.ks=dy (cn l s t):=by
 unfold df at h
 obtain ⟨i,_,h⟩:=cu.1 h
 unfold fy at h
 split at h
 ·simp at h
 ·rw [aM.1 h]; exact ⟨_,_,rfl⟩
end Go.E
namespace Go.Proofs
open Go Go.E Go.Sort Go.Proofs.Tryz
section
variable {k:aq} {d w:World}
theorem ta {v:Value} {l:List K} (hv:Sl KE 3 w v l) (hl:l.length≤2147483647) (hk:wO (mn l) k w):ai prog 20 #[v] k w:=by
 obtain ⟨ka,kc,rfl⟩:=hv.form
 refine al [.tmp 2] func20 ?_
 refine bA ?_
 refine bZ (fun i:Nat=>[(0,.slice ka l.length kc),(2,.bool false),(8,.slice ka l.length kc),(9,.int .i64 l.length),(10,.int .i64 i)])
  (fun i w'=>i≤l.length∧bp w w'∧mn (l.take i)) (fun i _=>l.length - i) 0 (by kernel_rfl) ?_ ⟨aT _,bp.refl _,by simp [mn]⟩ ?_
 ·exact bU
 rintro K2 e i w1 ⟨i2,i3,i4⟩ hK2
 rcases aH i l.length with hi | hi
 rotate_left
 ·have hi':¬ (i:Int) < l.length:=by omega
  refine bu @hi' ?_
  obtain rfl:i=l.length:=by omega
  rw [ag] at i4
  exact hk.yes i3 i4
 have hi':(i:Int) < l.length:=by omega
 obtain ⟨g,f,c,hv',hc,hat⟩:=(hv.inc KE.mono i3.inc).at (by omega)
 obtain ⟨rfl,rfl⟩:=sEq hv'
 obtain ⟨x,hx⟩:=gEl hi
 obtain ⟨h0,h1,h2,h3⟩:=ik (hat i x hx)
 obtain ⟨S,hS⟩:∃ S,S=w1.heap.size:=⟨_,rfl⟩
 obtain ⟨w2,hw2⟩:∃ w2,w2=w1.alloc (.cells #[.int .u64 x.tr,.string ⟨x.suf.toArray⟩,.string ⟨x.val.toArray⟩] 53):=⟨_,rfl⟩
 have x2:bp w1 w2:=by rw [hw2]; exact aJ _
 have c0:w2.cell? ⟨S,0,none⟩=some (.int .u64 x.tr):=by rw [hw2,hS]; exact bX @aA
 have c1:w2.cell? ⟨S,1,none⟩=some (.string ⟨x.suf.toArray⟩):=by rw [hw2,hS]; exact bX @aA
 have c2:w2.cell? ⟨S,2,none⟩=some (.string ⟨x.val.toArray⟩):=by rw [hw2,hS]; exact bX @aA
 refine eO @hi' @h0 @h1 @h2 ?_
 rw [← hS,← hw2]
 refine sL ?_
 have x3:=i3.trans x2
 by_cases hone:Jo x
 rotate_left
 ·rcases (by omega:au x.tr < 19∨21 < au x.tr∨au x.tr=19∨au x.tr=20∨au x.tr=21) with q | q | q | q | q
  ·have q1:(au x.tr:Int) < 19:=by omega
   refine bu @q1 ?_
   exact hk.no x3
  ·have q1:¬ (au x.tr:Int) < 19:=by omega
   have q2:(21:Int) < au x.tr:=by omega
   refine dO @q1 @q2 ?_
   exact hk.no x3
  ·obtain ⟨q1,q2,q3,q4⟩:=kI (x:=x) (a:=true) (b:=false) (by omega) (by simp; omega) (by simp; omega)
   by_cases s1:x.suf=[]
   ·have s2:decide (x.val≠[])=true:=aV fun h=>hone ⟨.inl q,fun _=>s1,fun _=>h⟩
    have s1:decide (x.suf≠[])=false:=by simp [s1]
    refine rS @q1 @q2 @q3 @q4 @c1 @c2 @s1 @s2 ?_
    exact hk.no x3
   ·have s1:decide (x.suf≠[])=true:=by simp [s1]
    refine vJ @q1 @q2 @q3 @q4 @c1 @c2 @s1 ?_
    exact hk.no x3
  ·have s2:decide (x.val≠[])=true:=aV fun h=>hone ⟨.inr (.inl q),fun h2=>by omega,fun _=>h⟩
   obtain ⟨q1,q2,q3,q4⟩:=kI (x:=x) (a:=false) (b:=false) (by omega) (by simp; omega) (by simp; omega)
   refine vJ @q1 @q2 @q3 @q4 @c1 @c2 @s2 ?_
   exact hk.no x3
  ·exact absurd ⟨.inr (.inr q),fun h2=>by omega,fun h2=>absurd q h2⟩ hone
 have o1:=hone.1
 obtain ⟨a,ha⟩:∃ a,a=decide (au x.tr=19):=⟨_,rfl⟩
 obtain ⟨b,hb⟩:∃ b,b=decide (au x.tr=21):=⟨_,rfl⟩
 obtain ⟨q1,q2,q3,q4⟩:=kI (x:=x) (a:=a) (b:=b) (by omega) (by simp [ha]) (by simp [hb])
 have s1:a=true→decide (x.suf≠[])=false:=fun h=>by simp [hone.2.1 (by simpa [ha] using h)]
 have s2:b=false→decide (x.val≠[])=false:=fun h=>by simp [hone.2.2 (by simpa [hb] using h)]
 have sl:∀ q:aq,cz prog 28 (.slice (some ⟨g,f,none⟩) l.length kc) none (some (.int .i64 (i:Int))) none (yk q w2)=q (.slice (some ⟨g,f,none⟩) i kc) w2:=fun q=>by
  rw [qH Tryz.es28 rfl rfl (by simp [bd]) (by simp [bd]; omega) (by simp [bd]) (by simp)]; simp [bd,yk]
 cases a <;> cases b
 rotate_right
 ·simp at ha hb; omega
 refine vJ @q1 @q2 @q3 @q4 @c2 (s2 rfl) @sl ?_
 rotate_left
 refine hJ @q1 @q2 @q3 @q4 @sl ?_
 rotate_left
 refine AE @q1 @q2 @q3 @q4 @c1 @c2 (s1 rfl) (s2 rfl) @sl ?_
 rotate_left
 all_goals
  refine bZ (fun j:Nat=>[(0,.slice (some ⟨g,f,none⟩) l.length kc),(2,.bool false),(4,.pointer (some ⟨S,0,none⟩)),(5,.int .u8 (au x.tr)),(8,.slice (some ⟨g,f,none⟩) l.length kc),(9,.int .i64 l.length),(10,.int .i64 i),(44,.slice (some ⟨g,f,none⟩) i kc),(45,.int .i64 i),(46,.int .i64 j)])
   (fun j w'=>j≤i∧bp w2 w'∧∀ y ∈ (l.take i).take j,Jp y x) (fun j _=>i - j) 0 (by kernel_rfl) ?_ ⟨aT _,bp.refl _,by simp⟩ ?_
  ·exact bU
  rintro K3 e3 j w3 ⟨j1,j2,j3⟩ hK3
  rcases aH j i with hj | hj
  rotate_left
  ·have hj':¬ (j:Int) < i:=by omega
   refine bu @hj' ?_
   obtain rfl:j=i:=by omega
   rw [List.take_take,Nat.min_self] at j3
   refine hK2 _ _ (j+1) ?_ ⟨hi,x3.trans j2,by rw [bz hx]; exact i4.snoc hone j3⟩ (by omega)
   exact bU
  have hj':(j:Int) < i:=by omega
  obtain ⟨y,hy⟩:∃ y,l[j]? = some y:=⟨_,aD (by omega)⟩
  have hy2:(l.take i)[j]? = some y:=by rw [List.getElem?_take_of_lt hj,hy]
  obtain ⟨p0,p1,p2,p3⟩:=ik (hat j y hy)
  have xx:=x2.trans j2
  have p0:=xx.cell p0
  have p1:=xx.cell p1
  have p2:=xx.cell p2
  have c0:=j2.cell c0
  have c1:=j2.cell c1
  refine eO @hj' @p0 @p1 @p2 ?_
  refine bF (sq [0] (.read 1 (sq [2] (.read 3 (sq [4,5,6] (.read 7 (sq [9] (.read 10 (.eff 8 [10] (.eff 11 [] (sq [12,13,14] (.read 15 (sq [16] (.read 17 (sq [18,19,20,21,22,23] (.read 24 (.eff 25 [] (sq [26,27,28,29] .done)))))))))))))))))) ?_
  obtain ⟨w4,hw4⟩:∃ w4,w4=(w3.alloc (.cells #[.int .u64 y.tr,.string ⟨y.suf.toArray⟩,.string ⟨y.val.toArray⟩] 53)).drew:=⟨_,rfl⟩
  have x4:bp w3 w4:=by rw [hw4]; exact bp.drew' (aJ _)
  obtain ⟨T,hT⟩:∃ T,T=w3.heap.size:=⟨_,rfl⟩
  have t0:w4.cell? ⟨T,0,none⟩=some (.int .u64 y.tr):=by rw [hw4,hT]; exact bX @aA
  have t1:w4.cell? ⟨T,1,none⟩=some (.string ⟨y.suf.toArray⟩):=by rw [hw4,hT]; exact bX @aA
  have c0:=x4.cell c0
  have c1:=x4.cell c1
  rw [← hw4,← hT]
  have x5:=(x3.trans j2).trans x4
  by_cases p1:(y.tr:Int) < x.tr
  ·refine dQ @t0 @c0 @p1 ?_
   exact hk.no x5
  refine dQ @t0 @c0 @p1 ?_
  refine Af ?_
  refine bu @c0 ?_
  refine Af ?_
  by_cases p2:y.tr / 256=x.tr / 256
  rotate_left
  ·have e2:(((y.tr / 256:Nat):Int) == (x.tr / 256:Nat))=false:=beq_false_of_ne (by omega)
   refine bu @e2 ?_
   refine hK3 _ _ (j+1) ?_ ⟨hj,j2.trans x4,ee j3 hy2 ⟨by omega,fun h=>p2 h.1⟩⟩ (by omega)
   exact bU
  have e2:(((y.tr / 256:Nat):Int) == (x.tr / 256:Nat))=true:=beq_iff_eq.2 (by omega)
  by_cases p3:y.suf=x.suf
  rotate_left
  ·simp (disch:=first | exact dZ | fail) only [go_sem,e2,t1,c1,p3]
   refine hK3 _ _ (j+1) ?_ ⟨hj,j2.trans x4,ee j3 hy2 ⟨by omega,fun h=>p3 h.2.1⟩⟩ (by omega)
   exact bU
  simp (disch:=first | exact dZ | fail) only [go_sem,e2,t0,t1,c1,p3]
  refine sL ?_
  by_cases p4:au y.tr=19
  ·have p4':((au y.tr:Int) == 19)=true:=beq_iff_eq.2 (by omega)
   simp (disch:=first | exact dZ | fail) only [go_sem,q3,p4',beq_self_eq_true,Bool.true_beq,Bool.false_beq,Bool.not_false,Bool.not_true]
   first
   | exact hk.no x5
   | refine hK3 _ _ (j+1) ?_ ⟨hj,j2.trans x4,ee j3 hy2 ⟨by omega,fun h=>by simp at ha; omega⟩⟩ (by omega)
     exact bU
  ·have p4':((au y.tr:Int) == 19)=false:=beq_false_of_ne (by omega)
   simp (disch:=first | exact dZ | fail) only [go_sem,q3,p4',beq_self_eq_true,Bool.true_beq,Bool.false_beq,Bool.not_false,Bool.not_true]
   first
   | exact hk.no x5
   | refine hK3 _ _ (j+1) ?_ ⟨hj,j2.trans x4,ee j3 hy2 ⟨by omega,fun h=>by simp at ha; omega⟩⟩ (by omega)
     exact bU
theorem qn {v:Value} {l:List (List Sp)} {n:Nat} (hv:Sl pe 1 d v l) (hl:l.length≤2147483647) (hs:∀ x ∈ l,x.length≤2147483647∧∀ y ∈ x,y.ks.length≤2147483647) (hn:n≤100) (hinc:cM d w) (hk:wO (LvOk l n) k w):ai prog 5 #[v,.int .i64 n] k w:=by
 obtain ⟨ka,kc,rfl⟩:=hv.form
 refine al [.tmp 4] func5 ?_
 refine bA ?_
 refine sO (hv.inc pe.mono hinc) hl hs fun b w1 x1 hb => ?_
 cases b with
 | false =>
  refine bA ?_
  exact hk.no x1
 | true =>
  obtain ⟨b1,b2⟩:=hb rfl
  refine bA ?_
  have l6:l.length * n≤6 * 100:=Nat.mul_le_mul b1 hn
  have hfl:=fZ (Lv:=l) (n:=n) fun L hL=>(b2 L hL).1
  refine yL hv (by omega) (fun x hx=>by have:=(b2 x hx).1; omega) (hinc.trans x1.inc) fun d2 w2 v2 g2 s2 => ?_
  refine bA ?_
  refine CJ s2 (by omega) (fun x hx => ?_) g2.j fun d3 w3 v3 g3 s3 => ?_
  ·obtain ⟨L,hL,hx⟩:=du.1 hx
   exact ((b2 L hL).2.2 x hx).2
  have x3:bp w w3:=(x1.trans g2.x).trans g3.x
  have hfk:∀ f ∈ df l.flatten,f.ks.length≤2147483647:=fun f hf=>by
   obtain ⟨s,t,e⟩:=Aj hf
   have:=lD (l:=l.flatten) (s:=s) (e:=t) (m:=40) fun x hx=>by
    obtain ⟨L,hL,hx⟩:=du.1 hx
    exact ((b2 L hL).2.2 x hx).2
   rw [e,(eh _).length_eq]
   have h2:l.flatten.length * 40≤600 * 40:=bO _ (by omega)
   omega
  have hfn:=tZ l.flatten
  obtain ⟨va,vc,rfl⟩:=s3.form
  refine bA ?_
  refine bZ (fun i:Nat=>[(4,.bool false),(13,.slice va (df l.flatten).length vc),(14,.int .i64 (df l.flatten).length),(15,.int .i64 i)])
   (fun i w'=>i≤(df l.flatten).length∧bp w3 w'∧∀ x ∈ (df l.flatten).take i,mn x.ks) (fun i _=>(df l.flatten).length - i) 0 (by kernel_rfl) ?_ ⟨aT _,bp.refl _,by simp⟩ ?_
  ·exact bU
  rintro K2 e i w1 ⟨i2,i3,i4⟩ hK2
  rcases aH i (df l.flatten).length with hi | hi
  rotate_left
  ·have hi':¬ (i:Int) < (df l.flatten).length:=by omega
   obtain rfl:i=(df l.flatten).length:=by omega
   rw [ag] at i4
   refine bu @hi' ?_
   exact hk.yes (x3.trans i3) ⟨b1,fun L hL=>(b2 L hL).1,fun L hL=>(b2 L hL).2.1,fun L hL=>(b2 L hL).2.2,i4⟩
  have hi':(i:Int) < (df l.flatten).length:=by omega
  obtain ⟨g,f,c,hv',hc,hat⟩:=(s3.inc dh.mono (g3.j.trans i3.inc)).at (by omega)
  obtain ⟨rfl,rfl⟩:=sEq hv'
  obtain ⟨x,hx⟩:∃ x,(df l.flatten)[i]? = some x:=⟨_,aD hi⟩
  obtain ⟨h0,h1,a,cc,h2,hkx⟩:=fN (hat i x hx)
  have x4:=aJ (w:=w1) (.cells #[.string ⟨x.s.toArray⟩,.string ⟨x.e.toArray⟩,.slice a x.ks.length cc] 30)
  refine hJ @hi' @h0 @h1 @h2 @aA ?_
  refine ta (hkx.inc KE.mono x4.inc) (hfk x (aO hx)) fun b w5 x5 hb => ?_
  have x6:=(i3.trans x4).trans x5
  cases b with
  | false =>
   refine bA ?_
   exact hk.no (x3.trans x6)
  | true =>
   refine bA ?_
   refine hK2 _ _ (i+1) ?_ ⟨hi,x6,ee i4 hx (hb rfl)⟩ (by omega)
   exact bU
end
end Go.Proofs
end
section
namespace Go.E
open Go Go.Sort Go.Proofs
theorem br {w:World} {b o:Nat} {c:Array Value} {t:TypeId} (h:w.heap.size≤b) (h2:b < w.heap.size+1):(w.alloc (.cells c t)).frozen? ⟨b,o,none⟩=false:=by
 obtain rfl:b=w.heap.size:=by omega
 exact World.frozen?_alloc_new w c t o
theorem wE (st:List SV) (k:K):(mD st k).length≤st.length+1:=by
 unfold mD
 split
 ·exact aT _
 ·rw [aE]
  have:=bN (fun x:SV=>decide (x.1≠k.suf)) st
  split
  ·rw [ar]; omega
  ·rw [List.length_nil]; omega
theorem tb (l:List K):(pq [] l).length≤l.length:=by
 unfold pq
 rw [ow]
 have:∀ l:List K,(l.reverse.foldl mD []).length≤l.length:=by
  intro l
  induction l with
  | nil=>simp
  | cons x l ih =>
   rw [List.reverse_cons,List.foldl_append,aZ]
   exact ah (wE _ _) (by omega)
 exact this l
theorem L1 {d:World} {N:Nat} {kv:Value} {x:Sp} (h0:d.cell? ⟨N,0,none⟩=some (.string ⟨x.s.toArray⟩)) (h1:d.cell? ⟨N,1,none⟩=some (.string ⟨x.e.toArray⟩)) (h2:d.cell? ⟨N,2,none⟩=some kv) (hk:Sl KE 3 d kv x.ks):Sl dh 3 d (.slice (some ⟨N,0,none⟩) 1 1) [x]:=by
 refine ⟨fun _=>rfl,rfl,aF _,fun i y hy => ?_⟩
 rcases i with _ | i
 ·obtain rfl:x=y:=by simpa using hy
  refine ⟨[str x.s,str x.e,kv],rfl,fun j u hu => ?_,_,rfl,hk⟩
  match j,hu with
  | 0,hu=>obtain rfl:=bk hu; exact h0
  | 1,hu=>obtain rfl:=bk hu; exact h1
  | 2,hu=>obtain rfl:=bk hu; exact h2
 ·simp at hy
theorem py {w:World} {g o:Nat} {x:An} (h:Fz zY 5 w g o x):w.cell? ⟨g,o,none⟩=some (.bool x.dn)∧w.cell? ⟨g,o+1,none⟩=some (.bool x.ok)∧w.cell? ⟨g,o+2,none⟩=some (.string ⟨x.sp.s.toArray⟩)∧w.cell? ⟨g,o+3,none⟩=some (.string ⟨x.sp.e.toArray⟩)∧∃ a c,w.cell? ⟨g,o+4,none⟩=some (.slice a x.sp.ks.length c)∧Sl KE 3 w (.slice a x.sp.ks.length c) x.sp.ks:=by
 obtain ⟨cs,_,hcs,v,rfl,h⟩:=h
 obtain ⟨a,c,rfl⟩:=h.form
 exact ⟨hcs 0 _ rfl,hcs 1 _ rfl,hcs 2 _ rfl,hcs 3 _ rfl,a,c,hcs 4 _ rfl,h⟩
theorem zp (V:List Sp) (p:Int) (got:Bool) (last:Nat) (steps:List (Nat × Bytes)):(pX V p got last steps).length=steps.length:=by
 induction steps generalizing p got last with
 | nil=>rfl
 | cons x r ih =>
  obtain ⟨op,key⟩:=x
  show (if uY op got last then _ else _:List (Option Int)).length=_
  split <;> rw [aZ,ih,aZ]
end Go.E
end
section
namespace Go.E
open Go Go.Sort Go.Proofs
section
variable {Lv:List (List Sp)} {n:Nat}
theorem LvOk.cdF (h:LvOk Lv n) (u:Nat):Cd (cy Lv.length (fR Lv) (cN Lv.flatten) u):=by
 have hB:=kz h.wf
 have h0:tE Lv.length (fR Lv) (cN Lv.flatten) u=false→Cd (cy Lv.length (fR Lv) (cN Lv.flatten) u):=fun hcv=>by
  have h0:cy Lv.length (fR Lv) (cN Lv.flatten) u=[]:=by
   unfold cy
   refine List.flatMap_eq_nil_iff.2 fun i hi => ?_
   rw [if_neg fun h1 => ?_]
   rw [oR.2 ⟨i,List.mem_range.1 hi,h1⟩] at hcv
   cases hcv
  rw [h0]
  exact ⟨.nil,by simp⟩
 rcases aH (cN Lv.flatten).length u with hu | hu
 ·have hf:=o0 h.wf [] u fun i hi=>by
    unfold cp
    rw [if_neg (by omega),getElem!_neg (cN Lv.flatten) (u - 1) (by omega)]
    rfl
  rw [hf]
  exact h.cd []
 cases hcv:tE Lv.length (fR Lv) (cN Lv.flatten) u with
 | true =>
  have hm:(⟨(cN Lv.flatten)[u - 1]!,(cN Lv.flatten)[u]!,dy (cy Lv.length (fR Lv) (cN Lv.flatten) u)⟩:Sp) ∈ df Lv.flatten:=by
   rw [sE h.wf fun L hL s hs=>(h.ks L hL s hs).1,bj]
   exact ⟨_,gO.2 ⟨hu,hcv⟩,rfl⟩
  exact (h.rk _ hm).cd.perm (eh _)
 | false=>exact h0 hcv
theorem Eg {l:List Sp} {snap m:Nat} {lo hi:Option Bytes} (h:∀ x ∈ l,x.ks.length≤m):∀ x ∈ ud l snap lo hi,x.ks.length≤l.length * m:=by
 have hm:∀ x ∈ ((jb l snap).filter (FE lo hi)).map sG,x.ks.length≤l.length * m:=fun x hx=>by
  obtain ⟨y,hy,rfl⟩:=bj.1 hx
  have hy:=(bH.1 hy).1
  unfold jb at hy
  obtain ⟨f,hf,rfl⟩:=bj.1 hy
  obtain ⟨s,t,e⟩:=Aj hf
  have h1:=lD (l:=l) (s:=s) (e:=t) h
  have h2:=tb (xz snap f.ks)
  have h3:(xz snap f.ks).length≤f.ks.length:=bN _ _
  rw [e,(eh _).length_eq] at h3
  show ((pq [] (xz snap f.ks)).map iD).length≤_
  rw [aR,e]
  rw [e] at h2
  omega
 unfold ud
 generalize ((jb l snap).filter (FE lo hi)).map sG=q at hm
 have aux:∀ (q out:List Sp),(∀ x ∈ q,x.ks.length≤l.length * m)→(∀ x ∈ out,x.ks.length≤l.length * m)→∀ x ∈ q.foldl sH out,x.ks.length≤l.length * m:=by
  intro q
  induction q with
  | nil=>exact fun out _ h=>h
  | cons y q ih =>
   intro out h1 h2
   rw [List.foldl_cons]
   refine ih _ (fun x hx=>h1 x (aW _ hx)) fun x hx => ?_
   have hy:=h1 y aK
   unfold sH at hx
   split at hx
   ·rename_i z hz
    have hzm:=h2 z (List.mem_of_getLast? hz)
    split at hx
    ·rcases aS.1 hx with hx | hx
     ·exact h2 x (List.dropLast_subset _ hx)
     ·rw [aM.1 hx]; exact hzm
    ·rcases aS.1 hx with hx | hx
     ·exact h2 x hx
     ·rw [aM.1 hx]; exact hy
   ·rw [aM.1 hx]; exact hy
 exact aux q [] hm (by simp)
end
end Go.E
end
section
namespace Go.E
open Go Go.Sort Go.Proofs Go.Proofs.Tryz
structure MI0 (w:World) (U o Bf:Nat) (tt:TypeId) (tv:Value) (Ls:List Lvl):Prop where
 u2:w.cell? ⟨U,o,none⟩=some (.pointer (some ⟨Bf,0,none⟩))
 u3:w.cell? ⟨U,o+1,none⟩=some (.slice none 0 0)
 u4:w.cell? ⟨U,o+2,none⟩=some (.slice none 0 0)
 u5:w.cell? ⟨U,o+3,none⟩=some (.iface tt tv)
 u6:w.cell? ⟨U,o+4,none⟩=some (.slice none 0 0)
 u7:w.cell? ⟨U,o+5,none⟩=some (.slice none 0 0)
 u8:w.cell? ⟨U,o+6,none⟩=some (.slice none 0 0)
 u9:w.cell? ⟨U,o+7,none⟩=some (.int .i8 0)
 u10:w.cell? ⟨U,o+8,none⟩=some .nilIface
 u11:w.cell? ⟨U,o+9,none⟩=some (.int .i8 0)
 lv:∀ i x,Ls[i]? = some x→w.cell? ⟨U,o+10+i * 4,none⟩=some (.iface 236 (.pointer (some ⟨x.I,0,none⟩)))∧w.cell? ⟨U,o+10+i * 4+1,none⟩=some (.int .i8 0)∧w.cell? ⟨U,o+10+i * 4+2,none⟩=some (.slice none 0 0)∧w.cell? ⟨U,o+10+i * 4+3,none⟩=some (.pointer none)
 it:∀ x,o+50≤x→x < o+70→∃ v,w.cell? ⟨U,x,none⟩=some v
 b1:w.cell? ⟨Bf,1,none⟩=some (.slice (some ⟨U,o+10,none⟩) Ls.length 10)
 b2:w.cell? ⟨Bf,2,none⟩=some (.func (.func 85) #[] #[])
 b4:w.cell? ⟨Bf,4,none⟩=some (.slice (some ⟨U,o+50,none⟩) 0 10)
def zq (U o Bf:Nat):Nat→Nat→Prop:=fun b x=>b=U∧o≤x∧x < o+70∨b=Bf∧(x=1∨x=2∨x=4)
end Go.E
namespace Go.Proofs
open Go Go.E Go.Sort Go.Proofs.Tryz
section
variable {k:aq} {d w:World} {U o Bf:Nat} {tt:TypeId} {tv:Value}
theorem CK {v:Value} {Ls:List Lvl} (hv:Sl Bv 1 d v Ls) (hd:cM d w) (oU:cj d U) (oB:cj d Bf) (hn:Ls.length≤10) (hne:Bf≠U) (cU:∀ x,o≤x→x < o+70→∃ u,w.cell? ⟨U,x,none⟩=some u) (fU:∀ x,w.frozen? ⟨U,x,none⟩=false)
    (b1:w.cell? ⟨Bf,1,none⟩=some (.slice none 0 0)) (b2:w.cell? ⟨Bf,2,none⟩=some .nilFunc) (b4:w.cell? ⟨Bf,4,none⟩=some (.slice none 0 0)) (fB:∀ x,w.frozen? ⟨Bf,x,none⟩=false)
    (hk:∀ w',Keep (zq U o Bf) w w'→MI0 w' U o Bf tt tv Ls→k (.tuple #[]) w') :
    ai prog 95 #[.pointer (some ⟨U,o,none⟩),.func (.func 85) #[] #[],.iface tt tv,.pointer (some ⟨Bf,0,none⟩),v] k w:=by
 obtain ⟨ka,kc,rfl⟩:=hv.form
 refine al [] func95 ?_
 refine bA ?_
 refine EO (fun j hj => ?_) fU ?_ fun w1 h1 k1 => ?_
 ·have hj:j < 70:=hj
  exact cU _ (by omega) (by omega)
 ·simp [Value.oneCell']
 have k1:Keep (fun b x=>b=U∧o≤x∧x < o+70) w w1:=k1
 have u2:w1.cell? ⟨U,o,none⟩=some (.pointer (some ⟨Bf,0,none⟩)):=h1 0 _ rfl
 have a1:=k1.some b1 fun h=>hne h.1
 have a2:=k1.some b2 fun h=>hne h.1
 have a4:=k1.some b4 fun h=>hne h.1
 have hUl:U < w.heap.size:=by obtain ⟨u,hu⟩:=cU o (by omega) (by omega); exact aC hu
 have fU1:∀ x,w1.frozen? ⟨U,x,none⟩=false:=fun x=>by rw [k1.frozen U x hUl]; exact fU x
 have fB1:∀ x,w1.frozen? ⟨Bf,x,none⟩=false:=fun x=>by rw [k1.frozen Bf x (aC b1)]; exact fB x
 refine qh @u2 @a1 @a2 @a4 @fU1 @fB1 ?_
 obtain ⟨w2,hw2⟩:∃ w2,w2=w1.setCell ⟨Bf,2,none⟩ (.func (.func 85) #[] #[]):=⟨_,rfl⟩
 rw [← hw2]
 have k2:Keep (fun b x=>b=U∧o≤x∧x < o+70∨b=Bf∧x=2) w w2:=by rw [hw2]; exact (k1.mono fun b x _ h => .inl h).set fun _ => .inr ⟨rfl,rfl⟩
 have nU:U≠Bf:=fun h=>hne h.symm
 have h2:∀ j u,w1.cell? ⟨U,j,none⟩=some u→w2.cell? ⟨U,j,none⟩=some u:=fun j u hu=>by rw [hw2]; exact (bY (M:=fun b _=>b=Bf) rfl).some hu nU
 have a1:w2.cell? ⟨Bf,1,none⟩=some (.slice none 0 0):=by rw [hw2,fk (by decide)]; exact a1
 have a2:w2.cell? ⟨Bf,2,none⟩=some (.func (.func 85) #[] #[]):=by rw [hw2,cJ,a2]; rfl
 have a4:w2.cell? ⟨Bf,4,none⟩=some (.slice none 0 0):=by rw [hw2,fk (by decide)]; exact a4
 have u2:=h2 _ _ u2
 have fU2:∀ x,w2.frozen? ⟨U,x,none⟩=false:=fun x=>by rw [k2.frozen U x hUl]; exact fU x
 have fB2:∀ x,w2.frozen? ⟨Bf,x,none⟩=false:=fun x=>by rw [k2.frozen Bf x (aC b1)]; exact fB x
 refine bF (sq [0,1,2] (.read 3 (sq [4,5] (.read 6 (sq [7,8,9] (.read 10 (sq [11,12,13] (.read 14 (sq [15,16] .done))))))))) ?_
 refine dQ @u2 @a1 @a4 ?_
 have hle:(Ls.length:Int)≤10:=by omega
 refine bu @hle ?_
 refine bF (sq [0,1,2] (.read 3 (sq [4,5,6,7,8,9,10,11,12] (.eff 13 [] .done)))) ?_
 have s1:∀ q,cz prog 161 (.pointer (some ⟨U,o+10,none⟩)) none (some (.int .i64 Ls.length)) none q=q (.slice (some ⟨U,o+10,none⟩) Ls.length 10):=fun q=>by
  rw [rQ Tryz.ar161 rfl rfl (by simp [bd]) (by simp [bd]; omega) (by simp [bd]) (by simp)]; simp [bd]
 have s2:∀ q,cz prog 165 (.pointer (some ⟨U,o+50,none⟩)) none (some (.int .i64 0)) none q=q (.slice (some ⟨U,o+50,none⟩) 0 10):=fun q=>by
  rw [rQ Tryz.ar165 rfl rfl (by simp [bd]) (by simp [bd]) (by simp [bd]) (by simp)]; simp [bd]
 refine eO @u2 @a1 @fB2 @s1 ?_
 obtain ⟨w3,hw3⟩:∃ w3,w3=(w2.setCell ⟨Bf,1,none⟩ (.slice (some ⟨U,o+10,none⟩) Ls.length 10)).drew.drew:=⟨_,rfl⟩
 rw [← hw3]
 have k3:Keep (zq U o Bf) w w3:=by rw [hw3]; exact (k2.mono fun b x _ h=>by unfold zq; omega).set (fun _ => .inr ⟨rfl,.inl rfl⟩) |>.drew.drew
 have h3:∀ j u,w1.cell? ⟨U,j,none⟩=some u→w3.cell? ⟨U,j,none⟩=some u:=fun j u hu=>by rw [hw3]; exact (bY (M:=fun b _=>b=Bf) rfl).drew.drew.some (h2 j u hu) nU
 have b13:w3.cell? ⟨Bf,1,none⟩=some (.slice (some ⟨U,o+10,none⟩) Ls.length 10):=by rw [hw3]; exact bX @a1
 have b2':w3.cell? ⟨Bf,2,none⟩=some (.func (.func 85) #[] #[]):=by rw [hw3]; exact bX @a2
 have a4:w3.cell? ⟨Bf,4,none⟩=some (.slice none 0 0):=by rw [hw3]; exact bX @a4
 have u2:w3.cell? ⟨U,o,none⟩=some (.pointer (some ⟨Bf,0,none⟩)):=h3 o _ (h1 0 _ rfl)
 have fB3:∀ x,w3.frozen? ⟨Bf,x,none⟩=false:=fun x=>by rw [k3.frozen Bf x (aC b1)]; exact fB x
 refine bF (sq [0,1,2] (.read 3 (sq [4,5,6,7,8,9,10,11] (.eff 12 [] .done)))) ?_
 refine eO @u2 @a4 @fB3 @s2 ?_
 obtain ⟨w4,hw4⟩:∃ w4,w4=(w3.setCell ⟨Bf,4,none⟩ (.slice (some ⟨U,o+50,none⟩) 0 10)).drew:=⟨_,rfl⟩
 rw [← hw4]
 have k4:Keep (zq U o Bf) w w4:=by rw [hw4]; exact (k3.set fun _ => .inr ⟨rfl,.inr (.inr rfl)⟩).drew
 have h4:∀ j u,w1.cell? ⟨U,j,none⟩=some u→w4.cell? ⟨U,j,none⟩=some u:=fun j u hu=>by rw [hw4]; exact (bY (M:=fun b _=>b=Bf) rfl).drew.some (h3 j u hu) nU
 have b1':w4.cell? ⟨Bf,1,none⟩=some (.slice (some ⟨U,o+10,none⟩) Ls.length 10):=by rw [hw4]; exact bX @b13
 have b2':w4.cell? ⟨Bf,2,none⟩=some (.func (.func 85) #[] #[]):=by rw [hw4]; exact bX @b2'
 have b4':w4.cell? ⟨Bf,4,none⟩=some (.slice (some ⟨U,o+50,none⟩) 0 10):=by rw [hw4]; exact bX @a4
 have u2:w4.cell? ⟨U,o,none⟩=some (.pointer (some ⟨Bf,0,none⟩)):=h4 o _ (h1 0 _ rfl)
 refine bu @b13 ?_
 refine bZ (fun i:Nat=>[(0,.pointer (some ⟨U,o,none⟩)),(4,.slice ka Ls.length kc),(119,.int .i64 Ls.length),(120,.int .i64 i)])
  (fun i w'=>i≤Ls.length∧Keep (zq U o Bf) w w'∧(∀ j u,j < o+10∨o+50≤j→w1.cell? ⟨U,j,none⟩=some u→w'.cell? ⟨U,j,none⟩=some u)∧(∀ j,o+10≤j→j < o+50→∃ u,w'.cell? ⟨U,j,none⟩=some u) ∧
   (w'.cell? ⟨Bf,1,none⟩=some (.slice (some ⟨U,o+10,none⟩) Ls.length 10)∧w'.cell? ⟨Bf,2,none⟩=some (.func (.func 85) #[] #[])∧w'.cell? ⟨Bf,4,none⟩=some (.slice (some ⟨U,o+50,none⟩) 0 10)) ∧
   ∀ j x,j < i→Ls[j]? = some x→w'.cell? ⟨U,o+10+j * 4,none⟩=some (.iface 236 (.pointer (some ⟨x.I,0,none⟩)))∧w'.cell? ⟨U,o+10+j * 4+1,none⟩=some (.int .i8 0)∧w'.cell? ⟨U,o+10+j * 4+2,none⟩=some (.slice none 0 0)∧w'.cell? ⟨U,o+10+j * 4+3,none⟩=some (.pointer none))
  (fun i _=>Ls.length - i) 0 (by kernel_rfl) ?_ ⟨aT _,k4,fun j u _ h=>h4 j u h,fun j h5 h6 => ?_,⟨b1',b2',b4'⟩,fun j x h=>by omega⟩ ?_
 ·exact bU
 ·obtain ⟨u,hu⟩:∃ u,w1.cell? ⟨U,j,none⟩=some u:=by
    obtain ⟨m,rfl⟩:∃ m,j=o+m:=⟨j - o,by omega⟩
    exact ⟨_,h1 m _ (aD (show m < 70 by omega))⟩
  exact ⟨u,h4 j u hu⟩
 rintro K2 e i w5 ⟨i1,i2,i3,i4,⟨i5,i6,i7⟩,i8⟩ hK2
 have u2:w5.cell? ⟨U,o,none⟩=some (.pointer (some ⟨Bf,0,none⟩)):=i3 o _ (by omega) (h1 0 _ rfl)
 rcases aH i Ls.length with hi | hi
 rotate_left
 ·have hi':¬ (i:Int) < Ls.length:=by omega
  refine bu @hi' ?_
  obtain rfl:i=Ls.length:=by omega
  refine hk w5 i2 ⟨u2,i3 (o+1) _ (by omega) (h1 1 _ rfl),i3 (o+2) _ (by omega) (h1 2 _ rfl),i3 (o+3) _ (by omega) (h1 3 _ rfl),i3 (o+4) _ (by omega) (h1 4 _ rfl),i3 (o+5) _ (by omega) (h1 5 _ rfl),i3 (o+6) _ (by omega) (h1 6 _ rfl),i3 (o+7) _ (by omega) (h1 7 _ rfl),i3 (o+8) _ (by omega) (h1 8 _ rfl),i3 (o+9) _ (by omega) (h1 9 _ rfl),fun j x hx=>i8 j x (aQ.1 hx).1 hx,fun x h5 h6 => ?_,i5,i6,i7⟩
  obtain ⟨m,rfl⟩:∃ m,x=o+m:=⟨x - o,by omega⟩
  exact ⟨_,i3 _ _ (by omega) (h1 m _ (aD (show m < 70 by omega)))⟩
 have hi':(i:Int) < Ls.length:=by omega
 obtain ⟨g,f,c,hv',hc,hat⟩:=(hv.inc Bv.mono (hd.keep i2 fun b x h=>by rcases h with ⟨rfl,_⟩ | ⟨rfl,_⟩; exact oU x; exact oB x)).at (by omega)
 obtain ⟨rfl,rfl⟩:=sEq hv'
 obtain ⟨x,hx⟩:=gEl hi
 obtain ⟨cs,_,hcs,rfl⟩:=hat i x hx
 have h0:w5.cell? ⟨g,f+i * 1,none⟩=some (.iface 236 (.pointer (some ⟨x.I,0,none⟩))):=hcs 0 _ rfl
 obtain ⟨v0,q0⟩:=i4 (o+10+i * 4) (by omega) (by omega)
 obtain ⟨v1,q1⟩:=i4 (o+10+i * 4+1) (by omega) (by omega)
 obtain ⟨v2,q2⟩:=i4 (o+10+i * 4+2) (by omega) (by omega)
 obtain ⟨v3,q3⟩:=i4 (o+10+i * 4+3) (by omega) (by omega)
 have fU5:∀ x,w5.frozen? ⟨U,x,none⟩=false:=fun x=>by rw [i2.frozen U x hUl]; exact fU x
 refine bu @hi' ?_
 refine bF (sq [0,1,2] (.read 3 (sq [4,5] (.read 6 (sq [7,8,9,10] (.read 11 (sq [12,13] (.eff 14 [] .done)))))))) ?_
 refine rS @u2 @i5 @h0 @q0 @q1 @q2 @q3 @fU5 ?_
 obtain ⟨w6,hw6⟩:∃ w6,w6=(((((w5.setCell ⟨U,o+10+i * 4,none⟩ (.iface 236 (.pointer (some ⟨x.I,0,none⟩)))).setCell ⟨U,o+10+i * 4+1,none⟩ (.int .i8 0)).setCell ⟨U,o+10+i * 4+2,none⟩ (.slice none 0 0)).setCell ⟨U,o+10+i * 4+3,none⟩ (.pointer none))).drew:=⟨_,rfl⟩
 rw [← hw6]
 have k6:Keep (fun b x=>b=U∧o+10+i * 4≤x∧x < o+10+i * 4+4) w5 w6:=by
  rw [hw6]
  exact (((((Keep.refl _ w5).set fun _=>⟨rfl,by omega,by omega⟩).set fun _=>⟨rfl,by omega,by omega⟩).set fun _=>⟨rfl,by omega,by omega⟩).set fun _=>⟨rfl,by omega,by omega⟩).drew
 have z0:w6.cell? ⟨U,o+10+i * 4,none⟩=some (.iface 236 (.pointer (some ⟨x.I,0,none⟩))):=by rw [hw6]; exact bX @q0
 have z1:w6.cell? ⟨U,o+10+i * 4+1,none⟩=some (.int .i8 0):=by rw [hw6]; exact bX @q1
 have z2:w6.cell? ⟨U,o+10+i * 4+2,none⟩=some (.slice none 0 0):=by rw [hw6]; exact bX @q2
 have z3:w6.cell? ⟨U,o+10+i * 4+3,none⟩=some (.pointer none):=by rw [hw6]; exact bX @q3
 refine hK2 _ _ (i+1) ?_ ⟨hi,i2.tr k6 fun b y _ h => .inl ⟨h.1,by omega,by omega⟩,fun j u hj hu=>k6.some (i3 j u hj hu) (by omega),fun j h5 h6 => ?_,⟨k6.some i5 fun h=>hne h.1,k6.some i6 fun h=>hne h.1,k6.some i7 fun h=>hne h.1⟩,fun j y hj hy => ?_⟩ (by omega)
 ·exact bU
 ·by_cases h:o+10+i * 4≤j∧j < o+10+i * 4+4
  ·obtain ⟨m,rfl⟩:∃ m,j=o+10+i * 4+m:=⟨j - (o+10+i * 4),by omega⟩
   match m,(by omega:m < 4) with
   | 0,_=>exact ⟨_,z0⟩
   | 1,_=>exact ⟨_,z1⟩
   | 2,_=>exact ⟨_,z2⟩
   | 3,_=>exact ⟨_,z3⟩
  ·obtain ⟨u,hu⟩:=i4 j h5 h6
   exact ⟨u,k6.some hu fun hh=>h hh.2⟩
 ·rcases aH j i with h | h
  ·obtain ⟨y0,y1,y2,y3⟩:=i8 j y h hy
   exact ⟨k6.some y0 (by omega),k6.some y1 (by omega),k6.some y2 (by omega),k6.some y3 (by omega)⟩
  ·obtain rfl:j=i:=by omega
   rw [hx] at hy
   cases hy
   exact ⟨z0,z1,z2,z3⟩
end
end Go.Proofs
end
section
namespace Go.E
open Go Go.Sort Go.Proofs Go.Proofs.Tryz
structure DI0 (w:World) (U a Bf e C:Nat) (rt:TypeId) (rv:Value) (mt:TypeId) (mv:Value):Prop where
 d0:w.cell? ⟨U,a,none⟩=some (.pointer (some ⟨Bf,e,none⟩))
 d1:w.cell? ⟨U,a+1,none⟩=some (.pointer (some ⟨C,0,none⟩))
 d2:w.cell? ⟨U,a+2,none⟩=some (.func (.func 86) #[] #[])
 d3:w.cell? ⟨U,a+3,none⟩=some (.iface rt rv)
 d4:w.cell? ⟨U,a+4,none⟩=some (.pointer none)
 d5:w.cell? ⟨U,a+5,none⟩=some (.int .i8 0)
 d6:w.cell? ⟨U,a+6,none⟩=some (.slice none 0 0)
 d7:w.cell? ⟨U,a+7,none⟩=some (.slice none 0 0)
 d8:w.cell? ⟨U,a+8,none⟩=some (.slice none 0 0)
 d9:w.cell? ⟨U,a+9,none⟩=some (.int .i8 0)
 d10:w.cell? ⟨U,a+10,none⟩=some (.iface mt mv)
 d11:w.cell? ⟨U,a+11,none⟩=some (.func (.func 99) #[] #[])
theorem DI0.keep {w w2:World} {U a Bf e C:Nat} {rt:TypeId} {rv:Value} {mt:TypeId} {mv:Value} {M:Nat→Nat→Prop} (m:DI0 w U a Bf e C rt rv mt mv) (hk:Keep M w w2) (h1:∀ x,a≤x→x < a+12→¬ M U x):DI0 w2 U a Bf e C rt rv mt mv :=
 ⟨hk.some m.d0 (h1 _ (by omega) (by omega)),hk.some m.d1 (h1 _ (by omega) (by omega)),hk.some m.d2 (h1 _ (by omega) (by omega)),hk.some m.d3 (h1 _ (by omega) (by omega)),hk.some m.d4 (h1 _ (by omega) (by omega)),hk.some m.d5 (h1 _ (by omega) (by omega)),hk.some m.d6 (h1 _ (by omega) (by omega)),hk.some m.d7 (h1 _ (by omega) (by omega)),hk.some m.d8 (h1 _ (by omega) (by omega)),hk.some m.d9 (h1 _ (by omega) (by omega)),hk.some m.d10 (h1 _ (by omega) (by omega)),hk.some m.d11 (h1 _ (by omega) (by omega))⟩
structure UI0 (w:World) (U Bf C snap:Nat) (it:Bool) (mt:TypeId) (mv lov hiv:Value):Prop where
 u0:w.cell? ⟨U,0,none⟩=some (.int .u64 snap)
 u1:w.cell? ⟨U,1,none⟩=some (.pointer (some ⟨C,0,none⟩))
 b0:w.cell? ⟨U,72,none⟩=some (.iface 230 (.pointer (some ⟨U,2,none⟩)))
 b1:w.cell? ⟨U,73,none⟩=some (.pointer none)
 b2:w.cell? ⟨U,74,none⟩=some (.func (.func 85) #[] #[])
 b4:w.cell? ⟨U,76,none⟩=some lov
 b5:w.cell? ⟨U,77,none⟩=some hiv
 b6:w.cell? ⟨U,78,none⟩=some (.pointer none)
 b8:w.cell? ⟨U,80,none⟩=some (.int .i8 0)
 d:DI0 w U 81 Bf 6 C 232 (.pointer (some ⟨U,72,none⟩)) mt mv
 u93:w.cell? ⟨U,93,none⟩=some (.bool it)
 u94:w.cell? ⟨U,94,none⟩=some (.pointer (some ⟨Bf,0,none⟩))
theorem MI0.keep {w w2:World} {U o Bf:Nat} {tt:TypeId} {tv:Value} {Ls:List Lvl} {M:Nat→Nat→Prop} (m:MI0 w U o Bf tt tv Ls) (hn:Ls.length≤10) (hk:Keep M w w2) (h1:∀ x,o≤x→x < o+70→¬ M U x) (h2:∀ x,x < 5→¬ M Bf x):MI0 w2 U o Bf tt tv Ls where
 u2:=hk.some m.u2 (h1 _ (by omega) (by omega))
 u3:=hk.some m.u3 (h1 _ (by omega) (by omega))
 u4:=hk.some m.u4 (h1 _ (by omega) (by omega))
 u5:=hk.some m.u5 (h1 _ (by omega) (by omega))
 u6:=hk.some m.u6 (h1 _ (by omega) (by omega))
 u7:=hk.some m.u7 (h1 _ (by omega) (by omega))
 u8:=hk.some m.u8 (h1 _ (by omega) (by omega))
 u9:=hk.some m.u9 (h1 _ (by omega) (by omega))
 u10:=hk.some m.u10 (h1 _ (by omega) (by omega))
 u11:=hk.some m.u11 (h1 _ (by omega) (by omega))
 lv i x hx:=by
  have:=(aQ.1 hx).1
  obtain ⟨a,b,c,e⟩:=m.lv i x hx
  exact ⟨hk.some a (h1 _ (by omega) (by omega)),hk.some b (h1 _ (by omega) (by omega)),hk.some c (h1 _ (by omega) (by omega)),hk.some e (h1 _ (by omega) (by omega))⟩
 it x a b:=by obtain ⟨v,h⟩:=m.it x a b; exact ⟨v,hk.some h (h1 _ (by omega) b)⟩
 b1:=hk.some m.b1 (h2 _ (by omega))
 b2:=hk.some m.b2 (h2 _ (by omega))
 b4:=hk.some m.b4 (h2 _ (by omega))
end Go.E
namespace Go.Proofs
open Go Go.E Go.Sort Go.Proofs.Tryz
section
variable {k:aq} {d w:World} {U Bf C snap:Nat}
theorem Kw {w:World} {j:Nat} {v:Value} (cU:∀ x,x < 95→∃ u,w.cell? ⟨U,x,none⟩=some u):∀ x,x < 95→∃ u,(w.setCell ⟨U,j,none⟩ v).cell? ⟨U,x,none⟩=some u:=fun x hx=>by
 obtain ⟨u,hu⟩:=cU x hx
 by_cases h:x=j
 ·subst h; exact ⟨v,by rw [cJ,hu]; rfl⟩
 ·exact ⟨u,by rw [fk (by omega)]; exact hu⟩
theorem ui {a Bf e:Nat} {rt mt:TypeId} {rv mv:Value} (cU:∀ x,a≤x→x < a+12→∃ u,w.cell? ⟨U,x,none⟩=some u) (fU:∀ x,w.frozen? ⟨U,x,none⟩=false) (c1:w.cell? ⟨C,1,none⟩=some (.func (.func 86) #[] #[])) (hv:rv.oneCell'=true) (hm:mv.oneCell'=true)
    (hk:∀ w',Keep (fun b x=>b=U∧a≤x∧x < a+12) w w'→DI0 w' U a Bf e C rt rv mt mv→k (.tuple #[]) w') :
    ai prog 97 #[.pointer (some ⟨U,a,none⟩),.pointer (some ⟨C,0,none⟩),.iface rt rv,.iface mt mv,.func (.func 99) #[] #[],.pointer (some ⟨Bf,e,none⟩)] k w:=by
 refine al [] func97 ?_
 refine bu @c1 ?_
 refine EO (fun j hj => ?_) fU ?_ fun w4 h4 k4 => ?_
 ·have hj:j < 12:=hj
  exact cU _ (by omega) (by omega)
 ·simp [Value.oneCell',hv,hm]
 refine bA ?_
 exact hk w4 k4 ⟨h4 0 _ rfl,h4 1 _ rfl,h4 2 _ rfl,h4 3 _ rfl,h4 4 _ rfl,h4 5 _ rfl,h4 6 _ rfl,h4 7 _ rfl,h4 8 _ rfl,h4 9 _ rfl,h4 10 _ rfl,h4 11 _ rfl⟩
def Jq (it:Bool):TypeId:=match it with | true=>234 | false=>227
def Jr (it:Bool) (U:Nat):Value:=match it with | true => .func (.func 98) #[] #[] | false => .pointer (some ⟨U,0,none⟩)
theorem Eh {it:Bool} {v lov hiv:Value} {lo hi:Option Bytes} {Ls:List Lvl} (hv:Sl Bv 1 d v Ls) (hd:cM d w) (oU:cj d U) (oB:cj d Bf) (hn:Ls.length≤10) (hne:Bf≠U) (cU:∀ x,x < 95→∃ u,w.cell? ⟨U,x,none⟩=some u) (fU:∀ x,w.frozen? ⟨U,x,none⟩=false)
    (b1:w.cell? ⟨Bf,1,none⟩=some (.slice none 0 0)) (b2:w.cell? ⟨Bf,2,none⟩=some .nilFunc) (b4:w.cell? ⟨Bf,4,none⟩=some (.slice none 0 0)) (fB:∀ x,w.frozen? ⟨Bf,x,none⟩=false) (hlo:OB d lov lo) (hhi:OB d hiv hi)
    (c0:d.cell? ⟨C,0,none⟩=some (.func (.func 85) #[] #[])) (c1:d.cell? ⟨C,1,none⟩=some (.func (.func 86) #[] #[])) (c5:d.cell? ⟨C,5,none⟩=some .nilFunc)
    (hk:∀ w',Keep (fun b x=>b=U∨b=Bf∧(x=1∨x=2∨x=4)) w w'→MI0 w' U 2 Bf 227 (.pointer (some ⟨U,0,none⟩)) Ls→UI0 w' U Bf C snap it (Jq it) (Jr it U) lov hiv→k (.iface 235 (.pointer (some ⟨U,81,none⟩))) w') :
    ai prog 66 #[.pointer (some ⟨U,0,none⟩),.pointer (some ⟨C,0,none⟩),.int .u64 snap,lov,hiv,.pointer none,.pointer none,.bool it,.pointer (some ⟨Bf,0,none⟩),v] k w:=by
 obtain ⟨ka,kc,rfl⟩:=hv.form
 obtain ⟨la,ln,lc,rfl⟩:∃ a n c,lov = .slice a n c:=by
  rcases hlo with ⟨_,rfl⟩ | ⟨_,a,n,c,_,rfl,_⟩
  ·exact ⟨_,_,_,rfl⟩
  ·exact ⟨_,_,_,rfl⟩
 obtain ⟨ha,hn',hc,rfl⟩:∃ a n c,hiv = .slice a n c:=by
  rcases hhi with ⟨_,rfl⟩ | ⟨_,a,n,c,_,rfl,_⟩
  ·exact ⟨_,_,_,rfl⟩
  ·exact ⟨_,_,_,rfl⟩
 have hUl:U < w.heap.size:=by obtain ⟨u,hu⟩:=cU 0 (by omega); exact aC hu
 obtain ⟨v0,q0⟩:=cU 0 (by omega)
 obtain ⟨v1,q1⟩:=cU 1 (by omega)
 obtain ⟨v93,q93⟩:=cU 93 (by omega)
 refine al [.tmp 20] func66 ?_
 refine eO @q0 @q1 @q93 @fU ?_
 obtain ⟨w1,hw1⟩:∃ w1,w1=(((w.setCell ⟨U,0,none⟩ (.int .u64 snap)).setCell ⟨U,1,none⟩ (.pointer (some ⟨C,0,none⟩))).setCell ⟨U,93,none⟩ (.bool it)):=⟨_,rfl⟩
 rw [← hw1]
 have k1:Keep (fun b x=>b=U∧(x=0∨x=1∨x=93)) w w1:=by rw [hw1]; exact (((Keep.refl _ w).set fun _=>⟨rfl,.inl rfl⟩).set fun _=>⟨rfl,.inr (.inl rfl)⟩).set fun _=>⟨rfl,.inr (.inr rfl)⟩
 have cU1:∀ x,x < 95→∃ u,w1.cell? ⟨U,x,none⟩=some u:=by rw [hw1]; exact Kw (Kw (Kw cU))
 have e0:w1.cell? ⟨U,0,none⟩=some (.int .u64 snap):=by rw [hw1]; exact bX @q0
 have e1:w1.cell? ⟨U,1,none⟩=some (.pointer (some ⟨C,0,none⟩)):=by rw [hw1]; exact bX @q1
 have e93:w1.cell? ⟨U,93,none⟩=some (.bool it):=by rw [hw1]; exact bX @q93
 have hd1:cM d w1:=hd.keep k1 fun b x h=>by rw [h.1]; exact oU x
 have fU1:∀ x,w1.frozen? ⟨U,x,none⟩=false:=fun x=>by rw [k1.frozen U x hUl]; exact fU x
 have hBl:=aC b1
 have fB1:∀ x,w1.frozen? ⟨Bf,x,none⟩=false:=fun x=>by rw [k1.frozen Bf x hBl]; exact fB x
 refine bF (sq [0,1,2,3,4,5] (.read 6 (sq [7,8,9,10,11,12] (.eff 13 [] .done)))) ?_
 simp (disch:=first | exact dZ | fail) only [go_sem,hd1 _ _ _ c0]
 refine CK (o:=2) hv hd1.drew oU oB hn hne (fun x h1 h2=>cU1 x (by omega)) fU1 (k1.some b1 fun h=>hne h.1) (k1.some b2 fun h=>hne h.1) (k1.some b4 fun h=>hne h.1) fB1 fun w2 k2 m2 => ?_
 have k2:Keep (zq U 2 Bf) w1 w2:=(Keep.refl _ w1).drew.trans k2
 have nM:∀ x,x < 2∨72≤x→¬ zq U 2 Bf U x:=fun x hx h=>by
  rcases h with h | ⟨h,_⟩
  ·omega
  ·exact hne h.symm
 have hd2:cM d w2:=hd1.keep k2 fun b x h=>by rcases h with ⟨rfl,_⟩ | ⟨rfl,_⟩; exact oU x; exact oB x
 have fU2:∀ x,w2.frozen? ⟨U,x,none⟩=false:=fun x=>by rw [k2.frozen U x (aL hUl k1.size)]; exact fU1 x
 have e0:=k2.some e0 (nM _ (by omega))
 have e1:=k2.some e1 (nM _ (by omega))
 have e93:=k2.some e93 (nM _ (by omega))
 have cU2:∀ x,72≤x→x < 95→∃ u,w2.cell? ⟨U,x,none⟩=some u:=fun x h1 h2=>by obtain ⟨u,hu⟩:=cU1 x h2; exact ⟨u,k2.some hu (nM _ (by omega))⟩
 refine bA ?_
 refine bF (sq [0,1,2,3,4,5] (.read 6 (sq [7,8,9] (.read 10 (sq [11,12,13,14,15,16,17,18] (.eff 19 [] .done)))))) ?_
 simp (disch:=first | exact dZ | fail) only [go_sem,hd2 _ _ _ c0,hd2 _ _ _ c5]
 refine al [] func96 ?_
 refine bA ?_
 refine EO (w:=w2.drew) (fun j hj => ?_) fU2 ?_ fun w3 h3 k3 => ?_
 ·have hj:j < 9:=hj
  exact cU2 _ (by omega) (by omega)
 ·simp [Value.oneCell']
 have k3:Keep (fun b x=>b=U∧72≤x∧x < 81) w2 w3:=(Keep.refl _ w2).drew.trans k3
 have fU3:∀ x,w3.frozen? ⟨U,x,none⟩=false:=fun x=>by rw [k3.frozen U x (aL hUl (ah k1.size k2.size))]; exact fU2 x
 have hd3:cM d w3:=hd2.keep k3 fun b x h=>by rw [h.1]; exact oU x
 have m3:=m2.keep hn k3 (fun x _ _ h=>by omega) fun x _ h=>hne h.1
 have e0:=k3.some e0 (by omega)
 have e1:=k3.some e1 (by omega)
 have e93:=k3.some e93 (by omega)
 have cU3:∀ x,81≤x→x < 95→∃ u,w3.cell? ⟨U,x,none⟩=some u:=fun x h1 h2=>by obtain ⟨u,hu⟩:=cU2 x (by omega) h2; exact ⟨u,k3.some hu (by omega)⟩
 refine bA ?_
 have c13:=hd3 _ _ _ c1
 have fin:∀ w4,Keep (fun b x=>b=U∧81≤x∧x < 93) w3 w4→DI0 w4 U 81 Bf 6 C 232 (.pointer (some ⟨U,72,none⟩)) (Jq it) (Jr it U)→k (.iface 235 (.pointer (some ⟨U,81,none⟩))) (w4.setCell ⟨U,94,none⟩ (.pointer (some ⟨Bf,0,none⟩))):=by
  intro w4 k4 h4
  have m4:=m3.keep hn k4 (fun x _ _ h=>by omega) fun x _ h=>hne h.1
  obtain ⟨v94,q94⟩:=cU3 94 (by omega) (by omega)
  have q94:=k4.some q94 (by omega)
  have k5:Keep (fun b x=>b=U∧x=94) w4 (w4.setCell ⟨U,94,none⟩ (.pointer (some ⟨Bf,0,none⟩))):=bY ⟨rfl,rfl⟩
  have e0:=k5.some (k4.some e0 (by omega)) (by omega)
  have e1:=k5.some (k4.some e1 (by omega)) (by omega)
  have e93:=k5.some (k4.some e93 (by omega)) (by omega)
  have B:∀ j u,72+j < 81→w3.cell? ⟨U,72+j,none⟩=some u→(w4.setCell ⟨U,94,none⟩ (.pointer (some ⟨Bf,0,none⟩))).cell? ⟨U,72+j,none⟩=some u:=fun j u hj hu=>k5.some (k4.some hu (by omega)) (by omega)
  refine hk _ ?_ (m4.keep hn k5 (fun x _ _ h=>by omega) fun x _ h=>hne h.1) ⟨e0,e1,B 0 _ (by omega) (h3 0 _ rfl),B 1 _ (by omega) (h3 1 _ rfl),B 2 _ (by omega) (h3 2 _ rfl),B 4 _ (by omega) (h3 4 _ rfl),B 5 _ (by omega) (h3 5 _ rfl),B 6 _ (by omega) (h3 6 _ rfl),B 8 _ (by omega) (h3 8 _ rfl),h4.keep k5 fun x h1 h2 h=>by omega,e93,by rw [cJ,q94]; rfl⟩
  exact ((((k1.mono fun b x _ h => .inl h.1).tr k2 fun b x _ h=>h.elim (fun h => .inl h.1) .inr).tr k3 fun b x _ h => .inl h.1).tr k4 fun b x _ h => .inl h.1).tr k5 fun b x _ h => .inl h.1
 have fU4:∀ w4,Keep (fun b x=>b=U∧81≤x∧x < 93) w3 w4→∀ x,w4.frozen? ⟨U,x,none⟩=false:=fun w4 k4 x=>by rw [k4.frozen U x (aL hUl (ah k1.size (ah k2.size k3.size)))]; exact fU3 x
 obtain ⟨v94,q94⟩:=cU3 94 (by omega) (by omega)
 cases it with
 | true =>
  refine bA ?_
  refine bF (sq [0,1,2,3,4,5,6,7,8,9,10,11] (.eff 12 [] .done)) ?_
  refine bA ?_
  refine ui (w:=w3.drew) (a:=81) (fun x h1 h2=>cU3 x h1 (by omega)) fU3 c13 rfl rfl fun w4 k4 h4 => ?_
  have k4:Keep (fun b x=>b=U∧81≤x∧x < 93) w3 w4:=(Keep.refl _ w3).drew.trans k4
  have fU5:=fU4 w4 k4
  have q94':=k4.some q94 (by omega)
  refine dO @fU5 @q94' ?_
  exact fin w4 k4 h4
 | false =>
  refine bA ?_
  refine bF (sq [0,1,2,3,4,5,6,7,8,9,10,11,12] (.eff 13 [] .done)) ?_
  refine bA ?_
  refine ui (w:=w3.drew) (a:=81) (fun x h1 h2=>cU3 x h1 (by omega)) fU3 c13 rfl rfl fun w4 k4 h4 => ?_
  have k4:Keep (fun b x=>b=U∧81≤x∧x < 93) w3 w4:=(Keep.refl _ w3).drew.trans k4
  have fU5:=fU4 w4 k4
  have q94':=k4.some q94 (by omega)
  refine dO @fU5 @q94' ?_
  exact fin w4 k4 h4
end
end Go.Proofs
end
section
namespace Go.E
open Go Go.Sort Go.Proofs
def sQ (d:World) (C:Nat):Prop:=d.cell? ⟨C,0,none⟩=some (.func (.func 85) #[] #[])∧d.cell? ⟨C,1,none⟩=some (.func (.func 86) #[] #[])∧d.cell? ⟨C,5,none⟩=some .nilFunc
structure BfOk (d w:World) (Bf:Nat):Prop where
 c:∀ x,x=0∨x=1∨4≤x∧x≤8∨x=10→w.cell? ⟨Bf,x,none⟩=some (.slice none 0 0)
 c2:w.cell? ⟨Bf,2,none⟩=some .nilFunc
 c3:w.cell? ⟨Bf,3,none⟩=some (.bool false)
 c9:w.cell? ⟨Bf,9,none⟩=some .nilFunc
 f:∀ x,w.frozen? ⟨Bf,x,none⟩=false
 o:cj d Bf
structure UOk (d w:World) (U:Nat):Prop where
 c:∀ x,x < 95→∃ u,w.cell? ⟨U,x,none⟩=some u
 f:∀ x,w.frozen? ⟨U,x,none⟩=false
 o:cj d U
def qp (n:Nat) (d w:World) (v:Value) (Ls:List Lvl):Prop:=Sl Bv 1 d v Ls∧ItsAt n d w Ls
section
variable {d w d2 w2:World} {n:Nat} {v:Value} {Ls:List Lvl} {C U Bf:Nat}
theorem sQ.gr (h:sQ d C) (g:Gr d w d2 w2):sQ d2 C:=⟨g.i _ _ _ h.1,g.i _ _ _ h.2.1,g.i _ _ _ h.2.2⟩
theorem BfOk.gr (h:BfOk d w Bf) (g:Gr d w d2 w2):BfOk d2 w2 Bf:=⟨fun x hx=>g.x.cell (h.c x hx),g.x.cell h.c2,g.x.cell h.c3,g.x.cell h.c9,fun x=>by rw [g.x.frozen _ x (aC h.c2)]; exact h.f x,g.o _ (aC h.c2) h.o⟩
theorem UOk.lt (h:UOk d w U):U < w.heap.size:=by obtain ⟨u,hu⟩:=h.c 0 (by omega); exact aC hu
theorem UOk.gr (h:UOk d w U) (g:Gr d w d2 w2):UOk d2 w2 U:=⟨fun x hx=>by obtain ⟨u,hu⟩:=h.c x hx; exact ⟨u,g.x.cell hu⟩,fun x=>by rw [g.x.frozen _ x h.lt]; exact h.f x,g.o _ h.lt h.o⟩
theorem qp.gr (h:qp n d w v Ls) (g:Gr d w d2 w2):qp n d2 w2 v Ls:=⟨h.1.inc Bv.mono g.i,h.2.keep g.x (fun _ _ _ h=>h) g.i fun b hb ⟨x,hx,e⟩=>g.o b (by rw [← e]; exact (h.2.at_ x hx).2.2.2.2) hb⟩
structure RIn (Lv:List (List Sp)) (snap:Nat) (lo hi:Option Bytes):Prop where
 n10:Lv.length≤10
 snap:snap < 18446744073709551616
 wf:∀ L ∈ Lv,Wf L
 len:∀ L ∈ Lv,L.length < 1000∧∀ s ∈ L,s.s.length < 4294967296∧s.e.length < 4294967296∧s.ks.length < 5000∧s.ks≠[]∧∀ x ∈ s.ks,Bs x
 cd:∀ u,Cd (cy Lv.length (fR Lv) (cN Lv.flatten) u)
 bd:BY lo hi
structure UQ where
 it:Bool
 F:List K→List K
 ord:Int
 β:Type
 dec:DecidableEq β
 π:K→β
abbrev UQ.k (q:UQ) (U:Nat):UK:=⟨q.it,q.F,q.ord,q.β,q.dec,q.π,Jq q.it,Jr q.it U⟩
instance (q:UQ):DecidableEq q.β:=q.dec
structure QC (q:UQ) (snap:Nat) (Lv:List (List Sp)):Prop where
 ti:∀ {d:World} {U Bf C:Nat},Bf≠U→cj d U→cj d Bf→d.cell? ⟨C,1,none⟩=some (.func (.func 86) #[] #[])→∃ HK,TI d U (2+4) Bf HK ((q.k U).Z d U Bf C snap)∧∀ u,HK (cy Lv.length (fR Lv) (cN Lv.flatten) u)
 fs:∀ ks x,x ∈ q.F ks→x ∈ ks
 fl:∀ ks,(q.F ks).length≤ks.length
 meth:∀ {w:World} {U xb xo yb yo:Nat} {x y:Sp} {k:aq},w.cell? ⟨U,93,none⟩=some (.bool q.it)→fE q.ord w xb xo x→fE q.ord w yb yo y→x.ks≠[]→x.ks.length < 100000→(∀ w',bp w w'→k (.bool (decide (x.ks.map q.π=y.ks.map q.π))) w') →
  cQ Tryz.prog (.iface (Jq q.it) (Jr q.it U)) "ShouldDefragment" #[.func (.func 86) #[] #[], .pointer (some ⟨xb, xo, none⟩), .pointer (some ⟨yb, yo, none⟩)] k w
abbrev qV (q:UQ) (Lv:List (List Sp)) (lo hi:Option Bytes):List Sp:=Vw q.π (GB (GL q.F Lv.length (fR Lv) (cN Lv.flatten)) lo hi)
abbrev LU (snap:Nat):UQ:=⟨false,Tf snap,1,Bytes × Bytes,inferInstance,K.sv⟩
abbrev rV (Lv:List (List Sp)) (snap:Nat) (lo hi:Option Bytes):List Sp:=Vw K.sv (GB (GL (Tf snap) Lv.length (fR Lv) (cN Lv.flatten)) lo hi)
theorem GA {snap:Nat} {Lv:List (List Sp)} (hs:snap < 18446744073709551616):QC (LU snap) snap Lv where
 ti ne oU oB hC:=⟨_,F1 ne oU oB hC hs,fun _=>trivial⟩
 fs ks x h:=(nH.1 h).1
 fl:=Bp snap
 meth h hx hy hne hl hk:=Bn h hx hy hne hl hk
theorem sR {Ls:List Lvl} {Lv:List (List Sp)} (h:Ls.map Lvl.L=Lv):Lf Ls.toArray=fR Lv:=by
 funext i
 unfold Lf fR
 rw [← h]
 rcases aH i Ls.length with hi | hi
 ·rw [aI Ls.toArray i (by simpa using hi),aI (Ls.map Lvl.L) i (by simpa using hi)]
  simp
 ·rw [getElem!_neg Ls.toArray i (by simpa using hi),getElem!_neg (Ls.map Lvl.L) i (by simpa using hi)]
  rfl
theorem Js {q:UQ} {Lv:List (List Sp)} {snap:Nat} {lo hi:Option Bytes} {lov hiv:Value} (r:RIn Lv snap lo hi) (qc:QC q snap Lv) (hC:sQ d C) (hB:BfOk d w Bf) (hU:UOk d w U) (hF:qp n d w v Ls) (hne:Bf≠U) (hUn:U < n) (hBI:∀ x ∈ Ls,x.I≠Bf) (hm:Ls.map Lvl.L=Lv) (hlo:OB d lov lo) (hhi:OB d hiv hi) :
    UC (q.k U) d U Bf C Ls.toArray snap (cN Lv.flatten) lov hiv lo hi:=by
 have hn:Ls.toArray.size=Lv.length:=by rw [← hm]; simp
 have hat:∀ i,i < Ls.toArray.size→Ls.toArray[i]! ∈ Ls:=fun i hi=>by rw [aI Ls.toArray i hi]; simpa using an (by simpa using hi)
 have hL:∀ i,i < Ls.toArray.size→Ls.toArray[i]!.L ∈ Lv:=fun i hi=>by rw [← hm]; exact List.mem_map_of_mem (hat i hi)
 have hI:=hF.2
 have hl:Lv.flatten.length≤Lv.length * 1000:=fZ fun L hL=>gG (r.len L hL).1
 have hb:=gE Lv.flatten
 have h10:=r.n10
 refine ⟨⟨⟨hU.o,hB.o,hne,by omega,fun i hi=>(hI.at_ _ (hat i hi)).2.2.1,fun i hi => ?_,fun i hi=>hBI _ (hat i hi),fun i hi=>(hI.at_ _ (hat i hi)).2.1,fun i hi=>r.wf _ (hL i hi),fun i hi => ?_,fun i j hi hj hij => ?_,fun i hi j hj => ?_⟩,?_,?_,?_,fun u => ?_,fun x hx => ?_⟩,by omega,r.bd,hC.1,fun i hi sp hsp x hx => ?_,qc.fs,qc.fl,qc.meth⟩
 ·have:=(hI.at_ _ (hat i hi)).2.2.2.1; omega
 ·exact Nat.lt_trans (r.len _ (hL i hi)).1 (by omega)
 ·have:=bJ.1 hI.ne
  rw [aI Ls.toArray i hi,aI Ls.toArray j hj]
  simp only [List.getElem_toArray]
  rcases aH i j with h | h
  ·exact this i j (by simpa using hi) (by simpa using hj) h
  ·exact (this j i (by simpa using hj) (by simpa using hi) (by omega)).symm
 ·rw [aI _ j hj]
  exact ((r.len _ (hL i hi)).2 _ (an hj)).2.2.2.1
 ·rw [hn,sR hm]; exact kz r.wf
 ·rw [hn,sR hm]; exact qc.ti hne hU.o hB.o hC.2.1
 ·rw [hn,sR hm]; exact r.cd
 ·rw [hn,sR hm]
  exact fV (EZ (m:=5000) (fun L hL s hs=>gG ((r.len L hL).2 s hs).2.2.1) _ u) (by omega)
 ·obtain ⟨s,hs,h⟩:=((ku _).2 x).1 hx
  obtain ⟨L,hL,hs⟩:=du.1 hs
  have:=(r.len L hL).2 s hs
  rcases h with rfl | rfl
  ·exact this.1
  ·exact this.2.1
 ·exact (((r.len _ (hL i hi)).2 sp hsp).2.2.2.2 x hx)
end
end Go.E
end
section
namespace Go.E
open Go Go.Sort Go.Proofs
theorem cr {c n:Nat} {g:Nat}:¬ (Value.slice none n c).ownBlock=some g:=by simp [Value.ownBlock]
abbrev LV (q:UK) (d:World) (U Bf C snap:Nat) (Ls:List Lvl):Nat→Nat→Prop:=bT U (uM q d U Bf C snap Ls.toArray)
theorem Ei {q:UQ} {d w:World} {n U Bf C snap:Nat} {Ls:List Lvl} {Lv:List (List Sp)} {lov hiv v:Value} {lo hi:Option Bytes} {B:List Bytes} (hB:B=cN Lv.flatten) (hinc:cM d w) (uc:UC (q.k U) d U Bf C Ls.toArray snap B lov hiv lo hi) (m:MI0 w U 2 Bf 227 (.pointer (some ⟨U,0,none⟩)) Ls) (u:UI0 w U Bf C snap q.it (Jq q.it) (Jr q.it U) lov hiv) (hF:qp n d w v Ls) (hne:Bf≠U)
    (fU:∀ x,w.frozen? ⟨U,x,none⟩=false) (fB:∀ x,w.frozen? ⟨Bf,x,none⟩=false) (cB:∀ x,x=0∨5≤x∧x≤8∨x=10→w.cell? ⟨Bf,x,none⟩=some (.slice none 0 0)) (c3:w.cell? ⟨Bf,3,none⟩=some (.bool false)) (c9:w.cell? ⟨Bf,9,none⟩=some .nilFunc) (hlo:OB d lov lo) (hhi:OB d hiv hi) :
    KM d (q.k U).Y U Bf C U 6 232 (.pointer (some ⟨U,72,none⟩)) (GB (uG (q.k U) Ls.toArray B) lo hi) (LV (q.k U) d U Bf C snap Ls) (uD (q.k U) d U Bf C snap Ls.toArray B lov hiv lo hi) w (dN (q.k U).Y U Bf (LV (q.k U) d U Bf C snap Ls) (fun _=>False) (fun _=>False)) (-2):=by
 have hat:∀ i,i < Ls.toArray.size→Ls[i]? = some Ls.toArray[i]! := fun i hi=>by rw [aI Ls.toArray i hi,List.getElem_toArray]; exact aD _
 have hS:(fun b=>(Value.slice none 0 0).ownBlock=some b)=fun _:Nat=>False:=by
  funext b
  simp [Value.ownBlock]
 have mi:uW (q.k U) d U Bf C snap Ls.toArray B w (fun _=>False) (-1):=by
  refine ⟨0,fun _ => -1,.slice none 0 0,.slice none 0 0,fun _=>False,[],[],⟨⟨m.u2,by have:=m.b1; simpa using this,fun i hi => ?_,m.u10,fU,fB,hinc⟩,⟨m.b2,⟨_,c3⟩,⟨0,by omega,m.b4⟩,fun x h1 h2=>m.it x (by omega) (by omega)⟩,
   ⟨⟨_,_,_,m.u3⟩,⟨_,_,_,m.u4⟩,m.u5,⟨_,m.u6⟩,⟨_,m.u7⟩,⟨_,m.u8⟩,⟨_,m.u9⟩,⟨_,m.u11⟩⟩,
   ⟨⟨cB 0 (by omega),cw,by simp⟩,⟨u.u0,u.u1,u.u93,u.u94,⟨_,c9⟩,.slice none 0 0,[],⟨cB 10 (by omega),cw,by simp⟩,fun g h=>(cr h).elim,hS.symm⟩,cB 5 (by omega),cw,fun g h=>(cr h).elim,fun g h=>(cr h).elim,fun g h=>h.elim,fun g h=>(cr h).elim,fun g h=>h.elim,fun g h=>h.elim,fun g h=>h.elim⟩⟩,
   aT _,.inr (.inr ⟨rfl,rfl⟩),fun h=>by omega,.inr (.inr ⟨m.u11,fun i hi _ => ?_,rfl,m.b4⟩)⟩
  ·obtain ⟨a,b,c,e⟩:=m.lv i _ (hat i hi)
   have hI:=hF.2.at_ _ (aO (hat i hi))
   exact ⟨a,by rw [mQ (by unfold gY; omega)]; exact b,⟨_,c,rfl,fun h=>by unfold gY at h; omega⟩,⟨_,e,rfl,fun h=>by unfold gY at h; omega⟩,hI.1,by omega,fU⟩
  ·show (-1:Int)+1=((cp (Lf Ls.toArray) B 0 i:Nat):Int)
   unfold cp
   rw [if_pos rfl]
   rfl
 refine ⟨fun _=>False,fun _=>False,⟨fun _ _=>False,.slice none 0 0,.slice none 0 0,.slice none 0 0,[],[],0,[],none,0,-2,⟨⟨-1,none,0,mi,⟨u.b0,u.b1,u.b2,u.b4,u.b5,u.b6,u.b8,fU,hlo,hhi⟩,.inl rfl⟩,
  ⟨u.d.d0,u.d.d1,u.d.d2,u.d.d3,u.d.d4,u.d.d5,⟨_,u.d.d6⟩,⟨_,u.d.d7⟩,⟨_,u.d.d8⟩,⟨_,u.d.d9⟩,u.d.d10,⟨_,_,u.d.d11,rfl,rfl⟩,fU,fB⟩,
  ⟨cB 6 (by omega),cw,⟨⟨none,rfl⟩,by omega⟩,cB 7 (by omega),cw,cB 8 (by omega),cw,fun g h=>(cr h).elim,fun g h=>(cr h).elim,fun g h=>(cr h).elim,fun g h=>(cr h).elim,fun g h=>(cr h).elim,fun g h=>(cr h).elim,fun g h=>h.elim,fun b x h=>h.elim,fun g x h=>(cr h).elim,fun g x h=>(cr h).elim,fun g x h=>(cr h).elim⟩⟩,.inl rfl⟩,rfl⟩
end Go.E
end
