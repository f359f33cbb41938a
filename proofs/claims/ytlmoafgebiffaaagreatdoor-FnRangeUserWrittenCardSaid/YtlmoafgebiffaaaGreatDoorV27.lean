/- Parts of the proof: On, Or, Ta. -/
import Derived.Deep.Slices
import Derived.Test.YtlmoafgebiffaaaGreatDoorV17
import Derived.Test.YtlmoafgebiffaaaGreatDoorV18
import Derived.Test.YtlmoafgebiffaaaGreatDoorV20
import Derived.Test.YtlmoafgebiffaaaGreatDoorV21
import Derived.Test.YtlmoafgebiffaaaGreatDoorV24
import Derived.Test.YtlmoafgebiffaaaGreatDoorV26
set_option linter.all false
set_option maxRecDepth 10000
section
namespace Go.Proofs
open Go Go.E Go.Sort Go.Proofs.Tryz
section
variable {k:aq} {d w:World}
def Jy (x:E.K):Prop:=(au x.tr=19∨au x.tr=20∨au x.tr=21)∧(au x.tr=20→x.val=[])∧(au x.tr=19→x.suf=[]∧x.val=[])
theorem KW (l:Bytes):(!((⟨l.toArray⟩:ByteArray).toList == (ByteArray.empty).toList))=decide (l≠[]):=by
 have e:(ByteArray.empty).toList=((⟨([]:Bytes).toArray⟩:ByteArray)).toList:=rfl
 rw [e,ByteArray.toList_mk,ByteArray.toList_mk]
 cases l with
 | nil=>rfl
 | cons a l=>rfl
theorem L6 (a b:Bytes):((⟨a.toArray⟩:ByteArray).toList == (⟨b.toArray⟩:ByteArray).toList)=decide (a=b):=by
 rw [ByteArray.toList_mk,ByteArray.toList_mk,bG]
 simp
theorem wL {kv:Value} {x:Sp} (hv:Sl KE 3 w kv x.ks) (hl:x.ks.length≤1000) (hk:wO (kK x.ks) k w):ai prog 6 #[.agg #[.string ⟨x.s.toArray⟩,.string ⟨x.e.toArray⟩,kv]] k w:=by
 obtain ⟨ka,kc,rfl⟩:=hv.form
 refine al [.tmp 2] func6 ?_
 obtain ⟨B,hB⟩:∃ B,B=w.heap.size:=⟨_,rfl⟩
 obtain ⟨w0,hw0⟩:∃ w0,w0=w.alloc (.cells #[.string ⟨x.s.toArray⟩,.string ⟨x.e.toArray⟩,.slice ka x.ks.length kc] 30):=⟨_,rfl⟩
 have x0:bp w w0:=by rw [hw0]; exact aJ _
 have c2:w0.cell? ⟨B,2,none⟩=some (.slice ka x.ks.length kc):=by rw [hw0,hB]; exact bX @aA
 refine bu @aA ?_
 rw [← hw0,← hB]
 refine bZ (fun i:Nat=>[(1,.pointer (some ⟨B,0,none⟩)),(8,.slice ka x.ks.length kc),(9,.int .i64 x.ks.length),(10,.int .i64 i)])
  (fun i w'=>i≤x.ks.length∧bp w0 w'∧(∀ y ∈ x.ks.take i,Jy y)∧(x.ks.take i).Pairwise fun a b=>¬ a.tr < b.tr∧¬ (a.tr=b.tr∧a.suf=b.suf)) (fun i _=>x.ks.length - i) 0 (by kernel_rfl) ?_ ⟨aT _,bp.refl _,by simp,by simp⟩ ?_
 ·exact bU
 rintro K2 e i w1 ⟨i2,x1,i4,i5⟩ hK2
 rcases aH i x.ks.length with hi | hi
 rotate_left
 ·have hi':¬ (i:Int) < x.ks.length:=by omega
  obtain rfl:i=x.ks.length:=by omega
  rw [ag] at i4 i5
  refine bu @hi' ?_
  exact hk.yes (x0.trans x1) ⟨i4,i5⟩
 have hi':(i:Int) < x.ks.length:=by omega
 have hv1:=hv.inc KE.mono (x0.trans x1).inc
 obtain ⟨g,f,c,hv',hc,hat⟩:=hv1.at (by omega)
 obtain ⟨rfl,rfl⟩:=sEq hv'
 obtain ⟨y,hy⟩:=gEl hi
 obtain ⟨cs,_,hcs,hR⟩:=hat i y hy
 obtain ⟨rfl,htr⟩:=hR
 have h0:w1.cell? ⟨g,f+i * 3,none⟩=some (.int .u64 y.tr):=hcs 0 _ rfl
 have h1:w1.cell? ⟨g,f+i * 3+1,none⟩=some (.string ⟨y.suf.toArray⟩):=hcs 1 _ rfl
 have h2:w1.cell? ⟨g,f+i * 3+2,none⟩=some (.string ⟨y.val.toArray⟩):=hcs 2 _ rfl
 obtain ⟨C,hC⟩:∃ C,C=w1.heap.size:=⟨_,rfl⟩
 obtain ⟨w2,hw2⟩:∃ w2,w2=w1.alloc (.cells #[.int .u64 y.tr,.string ⟨y.suf.toArray⟩,.string ⟨y.val.toArray⟩] 53):=⟨_,rfl⟩
 have x2:bp w1 w2:=by rw [hw2]; exact aJ _
 have k0:w2.cell? ⟨C,0,none⟩=some (.int .u64 y.tr):=by rw [hw2,hC]; exact bX @aA
 have k1:w2.cell? ⟨C,1,none⟩=some (.string ⟨y.suf.toArray⟩):=by rw [hw2,hC]; exact bX @aA
 have k2:w2.cell? ⟨C,2,none⟩=some (.string ⟨y.val.toArray⟩):=by rw [hw2,hC]; exact bX @aA
 refine hJ @hi' @h0 @h1 @h2 @aA ?_
 refine sL ?_
 rw [← hw2,← hC]
 have xx:=(x0.trans x1).trans x2
 have cx2:=(x1.trans x2).cell c2
 refine bA ?_
 refine Gt (fun _:Unit=>[(1,.pointer (some ⟨B,0,none⟩)),(3,.int .i64 i),(4,.pointer (some ⟨C,0,none⟩)),(8,.slice (some ⟨g,f,none⟩) x.ks.length kc),(9,.int .i64 x.ks.length),(10,.int .i64 i)]) (fun _ w'=>w'=w2∧Jy y) (by kernel_rfl) (by kernel_rfl) (fun K hK => ?_) ?_
 ·have eqn:∀ n m:Nat,((n:Int) == (m:Int))=decide (n=m):=fun n m=>by rw [bG]; simp only [beq_iff_eq,decide_eq_true_eq]; omega
  have q21:=eqn (au y.tr) 21
  have q20:=eqn (au y.tr) 20
  have q19:=eqn (au y.tr) 19
  simp only [Int.cast_ofNat_Int] at q21 q20 q19
  by_cases e21:au y.tr=21
  ·rw [aV e21] at q21
   refine bu @q21 ?_
   refine hK _ _ () ?_ ⟨rfl,.inr (.inr e21),by omega,by omega⟩
   exact bU
  rw [aG e21] at q21
  by_cases e20:au y.tr=20
  ·rw [aV e20] at q20
   by_cases hval:y.val=[]
   ·have n1:=KW y.val
    have n2:decide (y.val≠[])=false:=aG (by simpa using hval)
    rw [n2] at n1
    refine hJ @q21 @q20 @k2 @n1 @n2 ?_
    refine hK _ _ () ?_ ⟨rfl,.inr (.inl e20),fun _=>hval,by omega⟩
    exact bU
   ·have n1:=KW y.val
    have n2:decide (y.val≠[])=true:=aV hval
    rw [n2] at n1
    refine hJ @q21 @q20 @k2 @n1 @n2 ?_
    exact hk.no xx
  rw [aG e20] at q20
  by_cases e19:au y.tr=19
  ·rw [aV e19] at q19
   have n1:=KW y.suf
   have n2:=KW y.val
   by_cases hsuf:y.suf=[]
   ·have n3:decide (y.suf≠[])=false:=aG (by simpa using hsuf)
    rw [n3] at n1
    by_cases hval:y.val=[]
    ·have n4:decide (y.val≠[])=false:=aG (by simpa using hval)
     rw [n4] at n2
     refine AE @q21 @q20 @q19 @k1 @k2 @n1 @n2 @n3 @n4 ?_
     refine hK _ _ () ?_ ⟨rfl,.inl e19,by omega,fun _=>⟨hsuf,hval⟩⟩
     exact bU
    ·have n4:decide (y.val≠[])=true:=aV hval
     rw [n4] at n2
     refine AE @q21 @q20 @q19 @k1 @k2 @n1 @n2 @n3 @n4 ?_
     exact hk.no xx
   ·have n3:decide (y.suf≠[])=true:=aV hsuf
    rw [n3] at n1
    refine vJ @q21 @q20 @q19 @k1 @k2 @n1 @n3 ?_
    exact hk.no xx
  rw [aG e19] at q19
  refine dQ @q21 @q20 @q19 ?_
  exact hk.no xx
 rintro e3 _ w3 ⟨rfl,hfit⟩
 have d1:(0:Int)≤i:=by omega
 have d2:(i:Int)≤kc:=by omega
 simp (disch:=first | exact dZ | fail) only [go_sem,cx2,pG Tryz.es28 d1 d2]
 refine bZ (fun j:Nat=>[(1,.pointer (some ⟨B,0,none⟩)),(3,.int .i64 i),(4,.pointer (some ⟨C,0,none⟩)),(8,.slice (some ⟨g,f,none⟩) x.ks.length kc),(9,.int .i64 x.ks.length),(10,.int .i64 i),(38,.slice (some ⟨g,f,none⟩) i kc),(39,.int .i64 i),(40,.int .i64 j)])
  (fun j w'=>j≤i∧bp w3 w'∧∀ z ∈ (x.ks.take i).take j,¬ z.tr < y.tr∧¬ (z.tr=y.tr∧z.suf=y.suf)) (fun j _=>i - j) 0 (by kernel_rfl) ?_ ⟨aT _,bp.refl _,by simp⟩ ?_
 ·exact bU
 rintro K4 e4 j w4 ⟨j2,x4,j4⟩ hK4
 have eI:IntKind.i64.wrap ((i:Int)+1)=((i+1:Nat):Int):=by rw [dP (by omega) (by omega)]; omega
 rcases aH j i with hj | hj
 rotate_left
 ·have hj':¬ (j:Int) < i:=by omega
  obtain rfl:j=i:=by omega
  rw [dq (by rw [bE]; omega)] at j4
  refine dO @hj' @eI ?_
  refine hK2 _ _ (j+1) ?_ ⟨hi,(x1.trans x2).trans x4,ee i4 hy hfit,?_⟩ (by omega)
  ·exact bU
  ·rw [bz hy]
   exact List.pairwise_append.2 ⟨i5,List.pairwise_singleton _ _,fun a ha b hb=>by rw [aM.1 hb]; exact j4 a ha⟩
 have hj':(j:Int) < i:=by omega
 have eJ:IntKind.i64.wrap ((j:Int)+1)=((j+1:Nat):Int):=by rw [dP (by omega) (by omega)]; omega
 obtain ⟨z,hz⟩:∃ z,x.ks[j]? = some z:=⟨_,aD (by omega)⟩
 obtain ⟨cs,_,hcz,hRz⟩:=hat j z hz
 obtain ⟨rfl,_⟩:=hRz
 have xw4:=x2.trans x4
 have z0:w4.cell? ⟨g,f+j * 3,none⟩=some (.int .u64 z.tr):=xw4.cell (hcz 0 _ rfl)
 have z1:w4.cell? ⟨g,f+j * 3+1,none⟩=some (.string ⟨z.suf.toArray⟩):=xw4.cell (hcz 1 _ rfl)
 have z2:w4.cell? ⟨g,f+j * 3+2,none⟩=some (.string ⟨z.val.toArray⟩):=xw4.cell (hcz 2 _ rfl)
 obtain ⟨w5,hw5⟩:∃ w5,w5=w4.alloc (.cells #[.int .u64 z.tr,.string ⟨z.suf.toArray⟩,.string ⟨z.val.toArray⟩] 53):=⟨_,rfl⟩
 have x5:bp w4 w5:=by rw [hw5]; exact aJ _
 have m0:w5.cell? ⟨w4.heap.size,0,none⟩=some (.int .u64 z.tr):=by rw [hw5]; exact bX @aA
 have m1:w5.cell? ⟨w4.heap.size,1,none⟩=some (.string ⟨z.suf.toArray⟩):=by rw [hw5]; exact bX @aA
 have k0:=(x4.trans x5).cell k0
 have k1:=(x4.trans x5).cell k1
 have hzt:(x.ks.take i)[j]? = some z:=by rw [List.getElem?_take,if_pos hj]; exact hz
 have xf:=xx.trans (x4.trans x5)
 have eqn:∀ n m:Nat,((n:Int) == (m:Int))=decide (n=m):=fun n m=>by rw [bG]; simp only [beq_iff_eq,decide_eq_true_eq]; omega
 have q1:=eqn z.tr y.tr
 have q2:=L6 z.suf y.suf
 have kk0:=k0
 have kk1:=k1
 rw [hw5] at kk0 kk1 m0 m1
 by_cases hlt:z.tr < y.tr
 ·have hlt':(z.tr:Int) < y.tr:=by omega
  refine vJ @hj' @z0 @z1 @z2 @hlt' @kk0 @m0 ?_
  exact hk.no (by rw [hw5] at xf; exact xf)
 have hlt':¬ (z.tr:Int) < y.tr:=by omega
 by_cases het:z.tr=y.tr
 ·rw [aV het] at q1
  by_cases hes:z.suf=y.suf
  ·have q3:decide (z.suf=y.suf)=true:=aV hes
   rw [q3] at q2
   refine Ko @hj' @z0 @z1 @z2 @hlt' @kk0 @m0 @q1 @kk1 @m1 @q2 @q3 ?_
   exact hk.no (by rw [hw5] at xf; exact xf)
  ·have q3:decide (z.suf=y.suf)=false:=aG hes
   rw [q3] at q2
   refine HX @hj' @z0 @z1 @z2 @hlt' @kk0 @m0 @q1 @kk1 @m1 @q2 @q3 @eJ ?_
   refine hK4 _ _ (j+1) ?_ ⟨hj,by rw [hw5] at x5; exact x4.trans x5,ee j4 hzt ⟨hlt,fun h=>hes h.2⟩⟩ (by omega)
   exact bU
 ·rw [aG het] at q1
  refine AE @hj' @z0 @z1 @z2 @hlt' @kk0 @m0 @q1 @eJ ?_
  refine hK4 _ _ (j+1) ?_ ⟨hj,by rw [hw5] at x5; exact x4.trans x5,ee j4 hzt ⟨hlt,fun h=>het h.1⟩⟩ (by omega)
  exact bU
theorem Lc {x y:Value} (hx:x.cells = #[x]) (hy:y.cells = #[y]) {k:aq} {w:World} (hk:k (.slice (some ⟨w.heap.size,0,none⟩) 2 2) (w.alloc (.cells #[x,y] 9))):KL prog 97 2 #[(0,x),(1,y)] k w:=by
 obtain ⟨i,z,h1,h2,h3,h4,h5,h6,h7⟩:=iP rw97
 have hz:z.cells.size=1:=h6
 have e:(Instr.buildSlice 97 2 #[(0,x),(1,y)]).run prog w = .ok (.slice (some ⟨w.heap.size,0,none⟩) 2 2) (w.alloc (.cells #[x,y] 9)):=by
  simp [Instr.buildSlice,run_underlying h1,sizeOf,typeInfo,h2,h3,zeroValue,newRow,h4,Instr.fill,hx,hy,hz,show Array.range 2 = #[0,1] from rfl]
 simp only [KL,dH,e]
 exact hk
def L7 (x:Sp):Prop:=x.ks.length≤40∧x.s.length≤1048576∧x.e.length≤1048576∧∀ k ∈ x.ks,k.suf.length≤1048576∧k.val.length≤1048576
theorem ux {a b:Bytes} {g c:Nat} (h0:w.cell? ⟨g,0,none⟩=some (.string ⟨a.toArray⟩)) (h1:w.cell? ⟨g,1,none⟩=some (.string ⟨b.toArray⟩)) (hk:∀ t,(t=true→a.length≤1048576∧b.length≤1048576)→k (.bool t) w):ai prog 22 #[.slice (some ⟨g,0,none⟩) 2 c] k w:=by
 have sz:∀ l:Bytes,(⟨l.toArray⟩:ByteArray).size=l.length:=fun l=>by simp [ByteArray.size]
 refine al [.tmp 2] func22 ?_
 refine bA ?_
 refine bZ (fun i:Nat=>[(5,.slice (some ⟨g,0,none⟩) 2 c),(6,.int .i64 2),(7,.int .i64 i)])
  (fun i w'=>i≤2∧w'=w∧(1≤i→a.length≤1048576)∧(2≤i→b.length≤1048576)) (fun i _=>2 - i) 0 (by kernel_rfl) ?_ ⟨aT _,rfl,by omega,by omega⟩ ?_
 ·exact bU
 rintro K2 e i w1 ⟨i2,rfl,i4,i5⟩ hK2
 have l0:((0:Nat):Int) < 2:=by decide
 have l1:((1:Nat):Int) < 2:=by decide
 have l2:¬ ((2:Nat):Int) < 2:=by decide
 have w0:IntKind.i64.wrap (((0:Nat):Int)+1)=((1:Nat):Int):=by decide
 have w1:IntKind.i64.wrap (((1:Nat):Int)+1)=((2:Nat):Int):=by decide
 have t0:Int.toNat ((0:Nat):Int)=0:=rfl
 have t1:Int.toNat ((1:Nat):Int)=1:=rfl
 match i,i2,i4,i5,hK2 with
 | 0,_,i4,i5,hK2 =>
  by_cases ha:1048576 < a.length
  ·have ha':(1048576:Int) < a.length:=by omega
   simp (disch:=first | exact dZ | fail) only [go_sem,l0,w0,t0,h0,sz,ha',Nat.zero_mul,Nat.add_zero]
   exact hk false (by simp)
  ·have ha':¬ (1048576:Int) < a.length:=by omega
   simp (disch:=first | exact dZ | fail) only [go_sem,l0,w0,t0,h0,sz,ha',Nat.zero_mul,Nat.add_zero]
   refine hK2 _ _ 1 ?_ ⟨by omega,rfl,fun _=>by omega,by omega⟩ (by omega)
   exact bU
 | 1,_,i4,i5,hK2 =>
  by_cases ha:1048576 < b.length
  ·have ha':(1048576:Int) < b.length:=by omega
   simp (disch:=first | exact dZ | fail) only [go_sem,l1,w1,t1,h1,sz,ha',Nat.one_mul,Nat.zero_add]
   exact hk false (by simp)
  ·have ha':¬ (1048576:Int) < b.length:=by omega
   simp (disch:=first | exact dZ | fail) only [go_sem,l1,w1,t1,h1,sz,ha',Nat.one_mul,Nat.zero_add]
   refine hK2 _ _ 2 ?_ ⟨by omega,rfl,fun _=>i4 (aF _),fun _=>by omega⟩ (by omega)
   exact bU
 | 2,_,i4,i5,hK2 =>
  refine bu @l2 ?_
  exact hk true fun _=>⟨i4 (by omega),i5 (by omega)⟩
theorem tA {kv:Value} {x:Sp} (hv:Sl KE 3 w kv x.ks) (hl:x.ks.length≤1000) (hk:wO (L7 x) k w):ai prog 7 #[.agg #[.string ⟨x.s.toArray⟩,.string ⟨x.e.toArray⟩,kv]] k w:=by
 obtain ⟨ka,kc,rfl⟩:=hv.form
 refine al [.tmp 2] func7 ?_
 obtain ⟨B,hB⟩:∃ B,B=w.heap.size:=⟨_,rfl⟩
 obtain ⟨w0,hw0⟩:∃ w0,w0=w.alloc (.cells #[.string ⟨x.s.toArray⟩,.string ⟨x.e.toArray⟩,.slice ka x.ks.length kc] 30):=⟨_,rfl⟩
 have x0:bp w w0:=by rw [hw0]; exact aJ _
 have c0:w0.cell? ⟨B,0,none⟩=some (.string ⟨x.s.toArray⟩):=by rw [hw0,hB]; exact bX @aA
 have c1:w0.cell? ⟨B,1,none⟩=some (.string ⟨x.e.toArray⟩):=by rw [hw0,hB]; exact bX @aA
 have c2:w0.cell? ⟨B,2,none⟩=some (.slice ka x.ks.length kc):=by rw [hw0,hB]; exact bX @aA
 refine bu @aA ?_
 rw [← hw0,← hB]
 refine bZ (fun i:Nat=>[(1,.pointer (some ⟨B,0,none⟩)),(6,.slice ka x.ks.length kc),(7,.int .i64 x.ks.length),(8,.int .i64 i)])
  (fun i w'=>i≤x.ks.length∧bp w0 w'∧∀ y ∈ x.ks.take i,y.suf.length≤1048576∧y.val.length≤1048576) (fun i _=>x.ks.length - i) 0 (by kernel_rfl) ?_ ⟨aT _,bp.refl _,by simp⟩ ?_
 ·exact bU
 rintro K2 e i w1 ⟨i2,x1,i4⟩ hK2
 rcases aH i x.ks.length with hi | hi
 rotate_left
 ·have hi':¬ (i:Int) < x.ks.length:=by omega
  obtain rfl:i=x.ks.length:=by omega
  rw [ag] at i4
  have c0:=x1.cell c0
  have c1:=x1.cell c1
  have c2:=x1.cell c2
  by_cases h40:x.ks.length≤40
  ·have h40':(x.ks.length:Int)≤40:=by omega
   refine hJ @hi' @c2 @h40' @c0 @c1 ?_
   refine Lc (by simp only [zC]) (by simp only [zC]) ?_
   obtain ⟨W,hW⟩:∃ W,W=w1.alloc (.cells #[.string ⟨x.s.toArray⟩,.string ⟨x.e.toArray⟩] 9):=⟨_,rfl⟩
   have xW:bp w1 W:=by rw [hW]; exact aJ _
   have t0:W.cell? ⟨w1.heap.size,0,none⟩=some (.string ⟨x.s.toArray⟩):=by rw [hW]; exact bX @aA
   have t1:W.cell? ⟨w1.heap.size,1,none⟩=some (.string ⟨x.e.toArray⟩):=by rw [hW]; exact bX @aA
   rw [← hW]
   refine bA ?_
   refine ux t0 t1 fun t ht => ?_
   refine bA ?_
   exact hk t _ ((x0.trans x1).trans xW) fun h=>⟨h40,(ht h).1,(ht h).2,i4⟩
  ·have h40':¬ (x.ks.length:Int)≤40:=by omega
   refine dQ @hi' @c2 @h40' ?_
   exact hk.no (x0.trans x1)
 have hi':(i:Int) < x.ks.length:=by omega
 have hv1:=hv.inc KE.mono (x0.trans x1).inc
 obtain ⟨g,f,c,hv',hc,hat⟩:=hv1.at (by omega)
 obtain ⟨rfl,rfl⟩:=sEq hv'
 obtain ⟨y,hy⟩:=gEl hi
 obtain ⟨cs,_,hcs,hR⟩:=hat i y hy
 obtain ⟨rfl,htr⟩:=hR
 have h0:w1.cell? ⟨g,f+i * 3,none⟩=some (.int .u64 y.tr):=hcs 0 _ rfl
 have h1:w1.cell? ⟨g,f+i * 3+1,none⟩=some (.string ⟨y.suf.toArray⟩):=hcs 1 _ rfl
 have h2:w1.cell? ⟨g,f+i * 3+2,none⟩=some (.string ⟨y.val.toArray⟩):=hcs 2 _ rfl
 refine hJ @hi' @h0 @h1 @h2 @aA ?_
 refine Lc (by simp only [zC]) (by simp only [zC]) ?_
 obtain ⟨W,hW⟩:∃ W,W=(w1.alloc (.cells #[.int .u64 y.tr,.string ⟨y.suf.toArray⟩,.string ⟨y.val.toArray⟩] 53)).alloc (.cells #[.string ⟨y.suf.toArray⟩,.string ⟨y.val.toArray⟩] 9):=⟨_,rfl⟩
 have xW:bp w1 W:=by rw [hW]; exact (aJ _).trans (aJ _)
 have t0:W.cell? ⟨w1.heap.size+1,0,none⟩=some (.string ⟨y.suf.toArray⟩):=by rw [hW]; exact bX @aA
 have t1:W.cell? ⟨w1.heap.size+1,1,none⟩=some (.string ⟨y.val.toArray⟩):=by rw [hW]; exact bX @aA
 have eI:IntKind.i64.wrap ((i:Int)+1)=((i+1:Nat):Int):=by rw [dP (by omega) (by omega)]; omega
 rw [← hW]
 refine bA ?_
 refine ux t0 t1 fun t ht => ?_
 cases t with
 | false =>
  refine bA ?_
  exact hk.no ((x0.trans x1).trans xW)
 | true =>
  refine bu @eI ?_
  refine hK2 _ _ (i+1) ?_ ⟨hi,x1.trans xW,ee i4 hy (ht rfl)⟩ (by omega)
  exact bU
end
end Go.Proofs
end
section
namespace Go.Proofs
open Go Go.E Go.Sort Go.Proofs.Tryz
section
variable {k:aq} {d w:World}
set_option maxHeartbeats 2000000 in
theorem tm {lv:Value} {L:List Sp} {snap:Nat} (hv:Sl dh 3 d lv L) (hsn:snap < 18446744073709551616) (hinc:cM d w) (hk:∀ w2,bp w w2→k (.bool true) w2) :
    ai prog 3 #[lv,.int .u64 snap] k w:=by
 obtain ⟨la,lc,rfl⟩:=hv.form
 refine al [.tmp 4] func3 ?_
 refine bA ?_
 refine B7 (hv.inc dh.mono hinc) fun b1 w1 x1 hb1 => ?_
 cases b1 with
 | false =>
  refine bu @Bool.not_false ?_
  exact hk _ x1
 | true =>
 obtain ⟨f1,f2⟩:=hb1 rfl
 refine bu @Bool.not_true ?_
 obtain ⟨W0,hW0⟩:∃ W,W=w1.alloc (.cells #[.slice la L.length lc] 22):=⟨_,rfl⟩
 have xW0:bp w1 W0:=by rw [hW0]; exact aJ _
 have a0:W0.cell? ⟨w1.heap.size,0,none⟩=some (.slice la L.length lc):=by rw [hW0]; exact bX @aA
 obtain ⟨d2,g2,e2⟩:=oq (hinc.trans x1.inc) xW0
 have st:Sl pe 1 d2 (.slice (some ⟨w1.heap.size,0,none⟩) 1 1) [L]:=ur (cs:=[.slice la L.length lc]) rfl (fun j u hu=>by
  match j,hu with
  | 0,hu=>obtain rfl:=bk hu; exact e2 _ _ _ (aF _) a0) ⟨_,rfl,hv.inc dh.mono g2.i⟩
 rw [← hW0]
 refine qn (n:=8) st (by simp) (fun x hx=>by rw [aM.1 hx]; exact ⟨f1,fun y hy=>(f2 y hy).2.2.1⟩) (by decide) g2.j fun b3 w3 x3 hb3 => ?_
 have x13:=(x1.trans xW0).trans x3
 cases b3 with
 | false =>
  refine bu @Bool.not_false ?_
  exact hk _ x13
 | true =>
 have lo:=hb3 rfl
 refine bu @Bool.not_true ?_
 have hL8:L.length≤8:=lo.sz L aK
 have hLw:Wf L:=lo.wf L aK
 have hLk:∀ y ∈ L,y.ks≠[]∧y.ks.length≤40:=fun y hy=>lo.ks L aK y hy
 refine bZ (fun b:Nat × Value=>[(0,.slice la L.length lc),(1,.int .u64 snap),(5,b.2),(22,.slice la L.length lc),(23,.int .i64 L.length),(24,.int .i64 b.1)])
  (fun b w'=>b.1≤L.length∧(∃ d1,LoopL dh 3 37 d w3 d1 w' b.2 ((L.take b.1).flatMap fT))∧(∀ x ∈ L.take b.1,kK x.ks)) (fun b _=>L.length - b.1) (0,.slice none 0 0) (by kernel_rfl) ?_ ⟨aT _,⟨d,LoopL.nil (hinc.trans x13.inc)⟩,by simp⟩ ?_
 ·exact bU
 rintro K2 e ⟨i,v⟩ w4 ⟨i2,⟨d4,i4⟩,i5⟩ hK2
 simp only at i2 i4 i5
 have xw4:=x13.trans i4.g.x
 rcases aH i L.length with hi | hi
 rotate_left
 ·obtain rfl:i=L.length:=by omega
  rw [ag] at i4 i5
  have hi':¬ (L.length:Int) < L.length:=by omega
  obtain ⟨d5,g5,_,_,s5⟩:=i4.done dh.mono
  have tt:=(Gr.ext hinc x13).trans g5
  have hbl:=yg i5 fun y hy=>(hLk y hy).2
  have hL40:L.length * 40≤8 * 40:=bO _ hL8
  have hbk:=yh i5 fun y hy=>(hLk y hy).2
  obtain ⟨A,hA⟩:∃ A,A=jc L:=⟨_,rfl⟩
  have s5:Sl dh 3 d5 v A:=by rw [hA]; exact s5
  rw [← hA] at hbl hbk
  obtain ⟨a5,c5,rfl⟩:=s5.form
  refine bu @hi' ?_
  have hS:∀ f ∈ A,xh f∧f.s < f.e∧f.ks≠[]∧f.ks.length≤40:=fun f hf=>H9 i5 hLw f2 (fun y hy=>(hLk y hy).2) (hA ▸ hf)
  refine qB s5 (by omega) (fun f hf=>(hS f hf).1) (fun f hf=>(hS f hf).2.1) (fun f hf=>(hS f hf).2.2.1) (by rw [hA]; exact yi hLw) (by omega) tt.j fun d7 w7 v7 F g7 s7 o => ?_
  have i7:=tt.trans g7
  obtain ⟨a7,c7,rfl⟩:=s7.form
  rw [hA] at o
  have u1:VOk [L] snap:=IB lo (by decide) hsn fun x hx=>by rw [aM.1 hx]; exact ⟨f1,f2⟩
  have eL:[L].flatten=L:=by simp
  have hcd:∀ x,Cd (fh L x):=fun x=>by have:=lo.cd x; rw [eL] at this; exact this
  have u2:VOk [F] snap:=IA i5 o hcd hL8 hsn f2 fun y hy=>(hLk y hy).2
  obtain ⟨hF1,hF2,_⟩:=sy i5 o hL8 fun y hy=>(hLk y hy).2
  have hseen:=Cb (snap:=snap) i5 o lo hL8 fun y hy=>(hLk y hy).2
  have hVl2:=u2.vl
  have hVk2:=u2.vk
  obtain ⟨V2,hV2⟩:∃ V,V=rV [F] snap none none:=⟨_,rfl⟩
  rw [← hV2] at hVl2 hVk2 hseen
  refine bA ?_
  refine yd s7 (by omega) (fun x hx=>by have:=hF2 x hx; omega) i7.j fun d8 w8 v8 g8 s8 => ?_
  have i8:=i7.trans g8
  obtain ⟨a8,c8,rfl⟩:=s8.form
  refine bA ?_
  obtain ⟨W1,hW1⟩:∃ W,W=w8.alloc (.cells #[.slice la L.length lc] 22):=⟨_,rfl⟩
  have xW1:bp w8 W1:=by rw [hW1]; exact aJ _
  have b0:W1.cell? ⟨w8.heap.size,0,none⟩=some (.slice la L.length lc):=by rw [hW1]; exact bX @aA
  obtain ⟨d9,g9,e9⟩:=oq i8.j xW1
  have Cc:Sl pe 1 d9 (.slice (some ⟨w8.heap.size,0,none⟩) 1 1) [L]:=ur (cs:=[.slice la L.length lc]) rfl (fun j u hu=>by
   match j,hu with
   | 0,hu=>obtain rfl:=bk hu; exact e9 _ _ _ (aF _) b0) ⟨_,rfl,hv.inc dh.mono (i8.trans g9).i⟩
  rw [← hW1]
  have i9:=i8.trans g9
  refine pD Cc u1 i9.j fun d10 w10 v10 g10 s10 => ?_
  have i10:=i9.trans g10
  rw [hseen] at s10
  obtain ⟨a10,c10,rfl⟩:=s10.form
  refine bA ?_
  obtain ⟨W2,hW2⟩:∃ W,W=w10.alloc (.cells #[.slice a8 F.length c8] 22):=⟨_,rfl⟩
  have xW2:bp w10 W2:=by rw [hW2]; exact aJ _
  have q0:W2.cell? ⟨w10.heap.size,0,none⟩=some (.slice a8 F.length c8):=by rw [hW2]; exact bX @aA
  obtain ⟨d11,g11,e11⟩:=oq i10.j xW2
  have st2:Sl pe 1 d11 (.slice (some ⟨w10.heap.size,0,none⟩) 1 1) [F]:=ur (cs:=[.slice a8 F.length c8]) rfl (fun j u hu=>by
   match j,hu with
   | 0,hu=>obtain rfl:=bk hu; exact e11 _ _ _ (aF _) q0) ⟨_,rfl,(s8.inc dh.mono ((g9.trans g10).trans g11).i)⟩
  rw [← hW2]
  have i11:=i10.trans g11
  refine pD st2 u2 i11.j fun d12 w12 v12 g12 s12 => ?_
  have i12:=i11.trans g12
  rw [← hV2] at s12
  obtain ⟨a12,c12,rfl⟩:=s12.form
  have hsl:∀ x ∈ (gU V2).map cW,x.ks.length≤2147483647:=fun x hx=>by
   obtain ⟨y,hy,rfl⟩:=bj.1 hx
   rw [pA,aR]
   have:=hVk2 y (bH.1 hy).1
   omega
  have hsn2:((gU V2).map cW).length≤2147483647:=by
   rw [aR]
   have:(gU V2).length≤V2.length:=bN _ _
   omega
  refine bA ?_
  refine te ((s10.inc dh.mono (g11.trans g12).i).inc dh.mono i12.j) (s12.inc dh.mono i12.j) hsn2 hsl fun w13 x13 => ?_
  rw [aV rfl]
  have i13:=i12.trans (Gr.ext i12.j x13)
  refine bA ?_
  refine sg i13.j fun w14 x14 => ?_
  refine bA ?_
  exact hk _ (i13.x.trans x14)
 have hi':(i:Int) < L.length:=by omega
 have hsub:=i4.g.i
 obtain ⟨g,f,c,hv',hc,hat⟩:=((hv.inc dh.mono i4.g.i).inc dh.mono i4.g.j).at (by omega)
 obtain ⟨rfl,rfl⟩:=sEq hv'
 obtain ⟨x,hx⟩:=gEl hi
 have hmem:=aO hx
 obtain ⟨gd,fd,cd,hvd,_,hatd⟩:=(hv.inc dh.mono i4.g.i).at (by omega)
 obtain ⟨⟨rfl,rfl⟩,rfl⟩:(gd=g∧fd=f)∧cd=lc:=by simpa [eq_comm] using hvd
 obtain ⟨cs,_,hcs,kv,rfl,hkv⟩:=hatd i x hx
 obtain ⟨ka,kc,rfl⟩:=hkv.form
 have h0:w4.cell? ⟨gd,fd+i * 3,none⟩=some (.string ⟨x.s.toArray⟩):=i4.g.j _ _ _ (hcs 0 _ rfl)
 have h1:w4.cell? ⟨gd,fd+i * 3+1,none⟩=some (.string ⟨x.e.toArray⟩):=i4.g.j _ _ _ (hcs 1 _ rfl)
 have h2:w4.cell? ⟨gd,fd+i * 3+2,none⟩=some (.slice ka x.ks.length kc):=i4.g.j _ _ _ (hcs 2 _ rfl)
 have hk40:=(hLk x hmem).2
 obtain ⟨B,hB⟩:∃ B,B=w4.heap.size:=⟨_,rfl⟩
 obtain ⟨w5,hw5⟩:∃ w5,w5=w4.alloc (.cells #[.string ⟨x.s.toArray⟩,.string ⟨x.e.toArray⟩,.slice ka x.ks.length kc] 30):=⟨_,rfl⟩
 have x5:bp w4 w5:=by rw [hw5]; exact aJ _
 have p0:w5.cell? ⟨B,0,none⟩=some (.string ⟨x.s.toArray⟩):=by rw [hw5,hB]; exact bX @aA
 have p1:w5.cell? ⟨B,1,none⟩=some (.string ⟨x.e.toArray⟩):=by rw [hw5,hB]; exact bX @aA
 have p2:w5.cell? ⟨B,2,none⟩=some (.slice ka x.ks.length kc):=by rw [hw5,hB]; exact bX @aA
 refine hJ @hi' @h0 @h1 @h2 @aA ?_
 rw [← hw5,← hB]
 have i5':=i4.ext dh.mono x5
 refine wL (hkv.inc KE.mono i5'.g.j) (by omega) fun bf w6 x6 hbf => ?_
 have i6:=i5'.ext dh.mono x6
 cases bf with
 | false =>
  refine bu @Bool.not_false ?_
  exact hk _ (x13.trans i6.g.x)
 | true =>
 have hfit:=hbf rfl
 have p0:=x6.cell p0
 have p1:=x6.cell p1
 have p2:=x6.cell p2
 refine eO @Bool.not_true @p0 @p1 @p2 ?_
 refine tA (hkv.inc KE.mono i6.g.j) (by omega) fun bs w7 x7 hbs => ?_
 have i7:=i6.ext dh.mono x7
 cases bs with
 | false =>
  refine bu @Bool.not_false ?_
  exact hk _ (x13.trans i7.g.x)
 | true =>
 obtain ⟨hs1,hs2,hs3,hs4⟩:=hbs rfl
 have p0:=x7.cell p0
 have p1:=x7.cell p1
 have p2:=x7.cell p2
 refine eO @Bool.not_true @p0 @p1 @p2 ?_
 refine sf hkv (by omega) i7.g.j fun d8 w8 v8 g8 s8 => ?_
 have i8:=i7.call dh.mono g8
 obtain ⟨a8,c8,rfl⟩:=s8.form
 have eok:EncOk x:=⟨hfit,hs1,hs2,hs3,hs4,Ef hkv⟩
 refine bA ?_
 refine qs s8 eok i8.g.j fun d9 w9 v9 g9 s9 => ?_
 have i9:=i8.call dh.mono g9
 obtain ⟨a9,c9,rfl⟩:=s9.form
 refine bA ?_
 obtain ⟨El,hEl⟩:∃ El,El=(fT x).map gy:=⟨_,rfl⟩
 have hEn:El.length=(fT x).length:=by rw [hEl,aR]
 have henl:=yf hfit
 obtain ⟨base,hbase⟩:∃ base,base=(L.take i).flatMap fT:=⟨_,rfl⟩
 have hbl:base.length≤8 * 40:=by
  have h1:((L.take i).flatMap fT).length≤(L.take i).length * 40:=yg i5 fun y hy=>(hLk y (List.mem_of_mem_take hy)).2
  have h2:(L.take i).length * 40≤8 * 40:=bO _ (by rw [bE]; omega)
  rw [hbase]; omega
 rw [← hEl] at s9
 rw [← hbase] at i9
 rw [← hEl]
 refine bZ (fun b:Nat × Value=>[(0,.slice (some ⟨gd,fd,none⟩) L.length cd),(1,.int .u64 snap),(5,b.2),(22,.slice (some ⟨gd,fd,none⟩) L.length cd),(23,.int .i64 L.length),(24,.int .i64 i),(44,.slice a9 El.length c9),(45,.int .i64 El.length),(46,.int .i64 b.1)])
  (fun b w'=>b.1≤(fT x).length∧∃ d1,cM d9 d1∧LoopL dh 3 37 d w3 d1 w' b.2 (base++(fT x).take b.1)) (fun b _=>(fT x).length - b.1) (0,v) (by kernel_rfl) ?_ ⟨aT _,d9,cM.refl d9,by rw [List.take_zero,ao]; exact i9⟩ ?_
 ·exact bU
 rintro K4 e4 ⟨j,v10⟩ w10 ⟨j2,d10,j3,i10⟩ hK4
 simp only at j2 i10
 have eI:IntKind.i64.wrap ((i:Int)+1)=((i+1:Nat):Int):=by rw [dP (by omega) (by omega)]; omega
 rcases aH j (fT x).length with hj | hj
 rotate_left
 ·obtain rfl:j=(fT x).length:=by omega
  rw [ag] at i10
  have hj':¬ (((fT x).length:Nat):Int) < El.length:=by omega
  refine dO @hj' @eI ?_
  refine hK2 _ _ (i+1,v10) ?_ ⟨hi,⟨d10,?_⟩,ee i5 hx hfit⟩ (by simp only; omega)
  ·exact bU
  ·rw [bz hx,ay,ae,List.flatMap_nil,ao,← hbase]
   exact i10
 have hj':(j:Int) < El.length:=by omega
 have eJ:IntKind.i64.wrap ((j:Int)+1)=((j+1:Nat):Int):=by rw [dP (by omega) (by omega)]; omega
 obtain ⟨ge,fe,ce,hve,_,hate⟩:=((s9.inc Gv.mono j3).inc Gv.mono i10.g.j).at (by omega)
 obtain ⟨rfl,rfl⟩:a9=some ⟨ge,fe,none⟩∧c9=ce:=by simpa using hve
 obtain ⟨z,hz⟩:∃ z,(fT x)[j]? = some z:=⟨_,aD hj⟩
 have hzm:=aO hz
 have hze:El[j]? = some (gy z):=by rw [hEl,bw,hz]; rfl
 obtain ⟨cse,_,hcse,rfl,_⟩:=hate j _ hze
 obtain ⟨t,dk⟩:=GI eok z hzm
 have k0:w10.cell? ⟨ge,fe+j * 3,none⟩=some (.string ⟨z.s.toArray⟩):=hcse 0 _ rfl
 have k1:w10.cell? ⟨ge,fe+j * 3+1,none⟩=some (.int .u64 t):=by have:=hcse 1 _ rfl; rw [← dk.hd]; exact this
 have k2:w10.cell? ⟨ge,fe+j * 3+2,none⟩=some (.string ⟨(E.valOf z).toArray⟩):=hcse 2 _ rfl
 obtain ⟨va10,vc10,rfl,_⟩:=i10.form
 refine hJ @hj' @k0 @k1 @k2 @aA ?_
 have i11:=i10.ext dh.mono (aJ (.cells #[.string ⟨z.s.toArray⟩,.int .u64 t,.string ⟨(E.valOf z).toArray⟩] 40))
 refine qt dk (E2 dk) i11.g.j fun d12 w12 kv12 g12 s12 => ?_
 have i12:=i11.call dh.mono g12
 obtain ⟨ka12,kc12,rfl⟩:=s12.form
 simp only [str]
 refine dO @aA @Bool.not_true ?_
 have i13:=i12.ext dh.mono (aJ (.cells #[.string ⟨z.s.toArray⟩,.string ⟨z.e.toArray⟩,.slice ka12 z.ks.length kc12] 37))
 obtain ⟨css,o13⟩:=i13.o
 refine iL z [str z.s,str z.e,.slice ka12 z.ks.length kc12] rw27 o13 ⟨_,rfl,s12⟩ rfl (.inl rfl) (World.size_alloc ..).symm rfl (by simp [Value.oneCell',str]) (by rw [aE,bE]; omega) i13.g.j fun v14 w14 o14 k14 n14 j14 _ => ?_
 have i14:=i13.more o14 k14 n14 j14
 refine bu @eJ ?_
 refine hK4 _ _ (j+1,v14) ?_ ⟨hj,d12,(j3.trans g12.i),?_⟩ (by simp only; omega)
 ·exact bU
 ·rw [bz hz,← ax]
  exact i14
end
end Go.Proofs
end
section
namespace Go.E
open Go Go.Sort Go.Proofs Go.Proofs.Tryz
section
variable {H:Type} {enc:TypeId × Value→H} {w:World} {base:Nat} {spare:Nat→Bool} {held:Bool} {fuel:Nat} {cs:List Value} {x:DataW H × List MemPlace}
theorem tC {α:Type} [Inhabited α] {R:gR α} {t e:TypeId} {sz:Nat} (ht:prog.underlying t=some (.slice e)) (hsz:prog.cellsOf e=sz) (hp:0 < sz) (el:∀ n cs x,DataW.trod enc prog w base spare held n e cs=some x→∃ y,R w cs y) (h:DataW.trod enc prog w base spare held fuel t cs=some x):∃ v l,cs=[v]∧Sl R sz w v l:=by
 rcases Go.Deep.open_slice ht h with ⟨rfl,_⟩ | ⟨a,len,cap,m,n,D,Pl,rfl,_,hl,_,hm,_,hx⟩
 ·exact ⟨_,[],rfl,rfl,rfl⟩
 ·have hlm:len≤m:=by rw [hm]; split <;> omega
  have hx:∀ i,i < len→∃ y,∃ cs',w.cells? base (a.add (i * sz)) sz=some cs'∧R w cs' y:=fun i hi=>by
   obtain ⟨cs',h1,h2⟩:=hx i (by omega)
   obtain ⟨y,hy⟩:=el _ _ _ h2
   rw [hsz] at h1
   exact ⟨y,cs',h1,hy⟩
  obtain ⟨Y,hY⟩:=Go.Deep.choose_lt hx
  have hsp:0 < len→a.spot=none:=fun h0=>by
   obtain ⟨cs',h1,_⟩:=hY 0 h0
   obtain ⟨_,h2,h3⟩:=World.cells?_some h1
   have:=h3 0 hp
   rw [aD (by omega)] at this
   have:=World.cell?_spot this
   simpa [Addr.add] using this
  refine ⟨_,(List.range len).map Y,rfl,hsp,by simp,hl,fun i y hy => ?_⟩
  have hi:i < len:=by have:=(aQ.1 hy).1; simpa using this
  obtain ⟨cs',h1,h2⟩:=hY i hi
  obtain ⟨_,h4,h5⟩:=World.cells?_some h1
  have:Y i=y:=by simpa [bw,List.getElem?_range hi] using hy
  subst this
  refine ⟨cs',h4,fun j u hu => ?_,h2⟩
  have hj:=(aQ.1 hu).1
  have:=h5 j (by omega)
  rw [hu,iV (hsp (by omega)),iV rfl] at this
  exact this
theorem jd (h:DataW.trod enc prog w base spare held fuel 9 cs=some x):∃ l,cs=[str l]:=by
 obtain ⟨s,rfl,_⟩:=DataW.trod_string Tryz.underlying9 h
 exact ⟨s.data.toList,rfl⟩
theorem qT (h:DataW.trod enc prog w base spare held fuel 23 cs=some x):∃ n:Nat,cs=[.int .u64 n]∧n < 18446744073709551616:=by
 obtain ⟨n,rfl,_,hw⟩:=DataW.trod_int Tryz.underlying23 h
 have hw:0≤n∧n≤18446744073709551615:=by simpa [Lit.wf,IntKind.min,IntKind.max,IntKind.bits,IntKind.signed] using hw
 have:0≤n∧n < 18446744073709551616:=by omega
 refine ⟨n.toNat,?_,by omega⟩
 rw [Int.toNat_of_nonneg this.1]
theorem z7 (h:DataW.trod enc prog w base spare held fuel 53 cs=some x):∃ y,KE w cs y:=by
 obtain ⟨xs,n,_,_,hl,hlen,hf⟩:=DataW.trod_struct Tryz.underlying53 h
 rw [show prog.cellsOf 53=3 by kernel_rfl] at hl
 match cs,hl with
 | [c0,c1,c2],_ =>
  match xs,hlen with
  | [y0,y1,y2],_ =>
   have f0:DataW.trod enc prog w base spare held n 23 (([c0,c1,c2].drop 0).take (prog.cellsOf 23))=some y0:=hf 0 _ rfl
   have f1:DataW.trod enc prog w base spare held n 9 (([c0,c1,c2].drop 1).take (prog.cellsOf 9))=some y1:=hf 1 _ rfl
   have f2:DataW.trod enc prog w base spare held n 9 (([c0,c1,c2].drop 2).take (prog.cellsOf 9))=some y2:=hf 2 _ rfl
   rw [show prog.cellsOf 23=1 by kernel_rfl] at f0
   rw [show prog.cellsOf 9=1 by kernel_rfl] at f1 f2
   obtain ⟨a,ha,hw⟩:=qT f0
   obtain ⟨b,hb⟩:=jd f1
   obtain ⟨c,hc⟩:=jd f2
   simp at ha hb hc
   subst ha hb hc
   exact ⟨⟨a,b,c⟩,rfl,hw⟩
theorem yj (h:DataW.trod enc prog w base spare held fuel 30 cs=some x):∃ y,dh w cs y:=by
 obtain ⟨xs,n,_,_,hl,hlen,hf⟩:=DataW.trod_struct Tryz.underlying30 h
 rw [show prog.cellsOf 30=3 by kernel_rfl] at hl
 match cs,hl with
 | [c0,c1,c2],_ =>
  match xs,hlen with
  | [y0,y1,y2],_ =>
   have f0:DataW.trod enc prog w base spare held n 9 (([c0,c1,c2].drop 0).take (prog.cellsOf 9))=some y0:=hf 0 _ rfl
   have f1:DataW.trod enc prog w base spare held n 9 (([c0,c1,c2].drop 1).take (prog.cellsOf 9))=some y1:=hf 1 _ rfl
   have f2:DataW.trod enc prog w base spare held n 28 (([c0,c1,c2].drop 2).take (prog.cellsOf 28))=some y2:=hf 2 _ rfl
   rw [show prog.cellsOf 28=1 by kernel_rfl] at f2
   rw [show prog.cellsOf 9=1 by kernel_rfl] at f0 f1
   obtain ⟨a,ha⟩:=jd f0
   obtain ⟨b,hb⟩:=jd f1
   obtain ⟨v,l,hv,hs⟩:=tC (R:=KE) (sz:=3) Tryz.underlying28 (by kernel_rfl) (by decide) (fun n cs x h=>z7 h) f2
   simp at ha hb hv
   subst ha hb hv
   exact ⟨⟨a,b,l⟩,_,rfl,hs⟩
theorem tq (h:DataW.trod enc prog w base spare held fuel 22 cs=some x):∃ v l,cs=[v]∧Sl dh 3 w v l:=tC (sz:=3) Tryz.underlying22 (by kernel_rfl) (by decide) (fun n cs x h=>yj h) h
end
theorem E3 {w w2:World} (x:bp w w2):RowKit.Below w.heap.size w w2:=⟨x.st.1,x.st.2.1,x.st.2.2,x.size,fun b hb=>x.block b hb fun _ h=>h⟩
end Go.E
end
