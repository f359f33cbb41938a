/- Parts of the proof: Og, Wf, Wg, Xa, Va. -/
import Derived.Test.YtlmoafgebiffaaaGreatDoorV09
import Derived.Test.YtlmoafgebiffaaaGreatDoorV16
set_option linter.all false
set_option maxRecDepth 10000
section
namespace Go.E
open Go Go.Sort Go.Proofs Go.Proofs.Tryz
open Go.Lib (uvarint)
theorem Jk {s c:Nat} (hs:s < 72057594037927936) (hc:c < 256):IntKind.u64.wrap ((BitVec.ofInt 64 (IntKind.u64.wrap ((s:Int) * 2 ^ min (Int.toNat 8) 64)) ||| BitVec.ofInt 64 (IntKind.u64.wrap (c:Int))).toNat:Int)=((s * 256+c:Nat):Int):=by
 have w1:IntKind.u64.wrap ((s:Int) * 2 ^ min (Int.toNat 8) 64)=((s * 256:Nat):Int):=by
  rw [show (2:Int) ^ min (Int.toNat 8) 64=256 from rfl,show IntKind.u64.wrap ((s:Int) * 256)=((s:Int) * 256) % 18446744073709551616 from rfl]; omega
 have w2:IntKind.u64.wrap (c:Int)=((c:Nat):Int):=kB (by omega)
 rw [w1,w2]
 have h:(BitVec.ofInt 64 ((s * 256:Nat):Int) ||| BitVec.ofInt 64 ((c:Nat):Int)).toNat=s * 256+c:=by
  rw [BitVec.toNat_or,BitVec.toNat_ofInt,BitVec.toNat_ofInt]
  have e1:(((s * 256:Nat):Int) % ((2 ^ 64:Nat):Int)).toNat=2 ^ 8 * s:=by
   rw [show ((2 ^ 64:Nat):Int)=18446744073709551616 from rfl,show 2 ^ 8 * s=s * 256 by omega]; omega
  have e2:(((c:Nat):Int) % ((2 ^ 64:Nat):Int)).toNat=c:=by
   rw [show ((2 ^ 64:Nat):Int)=18446744073709551616 from rfl]; omega
  rw [e1,e2,← Nat.two_pow_add_eq_or_of_lt (by omega:c < 2 ^ 8)]
  omega
 rw [h]
 rw [show IntKind.u64.wrap ((s * 256+c:Nat):Int)=((s * 256+c:Nat):Int) % 18446744073709551616 from rfl]
 omega
end Go.E
namespace Go.Proofs
open Go Go.E Go.Sort Go.Proofs.Tryz
theorem F3 {w:World} {v:Value} {l:Bytes} {q:aq} (h:dR w v l) (hk:q (.string ⟨l.toArray⟩) w):dK prog 56 9 v q w:=by rw [gL h]; exact hk
open Go.Lib (uvarint)
section
variable {k:aq} {d w0 w:World} {be bl:Nat} {bv uv sv lv:Value} {us:List Bytes} {ss:List (Bytes × Bytes)} {es:List En3}
theorem pZ {a:Option Addr} {n c s q:Nat} (hs:s < 72057594037927936) (hq:q < 256) (hk:∀ w2,bp w w2→k (.agg #[.slice a n c,.int .u64 ((s * 256+q:Nat):Int)]) w2):ai prog 103 #[.slice a n c,.int .u64 s,.int .u8 q] k w:=by
 refine al [.cell 6 68] func103 ?_
 have e:=Jk hs hq
 have key:∀ W,bp w W→k (.agg #[.slice a n c,.int .u64 (IntKind.u64.wrap ((BitVec.ofInt 64 (IntKind.u64.wrap ((s:Int) * 2 ^ min (Int.toNat 8) 64)) ||| BitVec.ofInt 64 (IntKind.u64.wrap (q:Int))).toNat:Int))]) W:=fun W hW=>by rw [e]; exact hk W hW
 refine bA ?_
 exact key _ (aJ _)
theorem Bu {ka:Value} {key:Bytes} {tr:Int} (hb:dR w ka key) (hk:∀ w2,bp w w2→k (.agg #[.string ⟨key.toArray⟩,.int .u64 tr,.string .empty]) w2):ai prog 26 #[.agg #[ka,.int .u64 tr]] k w:=by
 obtain ⟨a,c,rfl⟩:=aY hb
 refine al [.cell 2 40] func26 ?_
 refine bA ?_
 have x1:bp w ((w.alloc (.cells #[.slice a key.length c,.int .u64 tr] 68)).alloc (.cells #[.string .empty,.int .u64 0,.string .empty] 40)):=(aJ _).trans (aJ _)
 have hb2:=hb.inc x1.inc
 simp only [gL hb2]
 refine bA ?_
 exact hk _ (aj (aj (aj ((aJ _).trans (aJ _)) (by omega)) (by omega)) (by omega))
theorem pd {ka va:Value} {key val:Bytes} {tr:Nat} (h:En d w0 w be bl bv uv sv lv us ss es) (hb:dR w ka key) (hv:dR w va val) (ht:tr < 18446744073709551616) (hes:es.length≤1000)
    (hk:∀ w2 lv2,En d w0 w2 be bl bv uv sv lv2 us ss (es++[⟨key,tr,val⟩])→Keep (fun b _=>b=bl∨lv.ownBlock=some b) w w2→k .nilIface w2):ai prog 25 #[.agg #[ka,.int .u64 tr],va,.pointer (some ⟨bl,0,none⟩)] k w:=by
 obtain ⟨a,c,rfl⟩:=aY hb
 obtain ⟨a2,c2,rfl⟩:=aY hv
 refine al [.tmp 5] func25 ?_
 refine bA ?_
 have x1:bp w (w.alloc (.cells #[.slice a key.length c,.int .u64 tr] 68)):=aJ _
 refine Bu (hb.inc x1.inc) fun w2 x2 => ?_
 have x2:=x1.trans x2
 refine bA ?_
 refine F3 (hv.inc (x2.trans (aJ _)).inc) ?_
 have c0:=x2.cell h.l0
 have hbl:=aC h.l0
 have hs2:=x2.size
 have h3:=h.ext x2
 refine bu @c0 ?_
 have h4:=h3.ext (aJ (.cells #[.string ⟨key.toArray⟩,.int .u64 tr,.string ⟨val.toArray⟩] 40))
 obtain ⟨css,ol⟩:=h4.lo
 refine iL ⟨key,tr,val⟩ [str key,.int .u64 tr,str val] rw32 ol ⟨rfl,ht⟩ rfl (.inl rfl) (World.size_alloc ..).symm rfl (by simp [Value.oneCell',str]) (by omega) h4.inc fun v2 w5 o5 k5 n5 j5 hv2 => ?_
 have h6:=h4.uent ⟨_,o5⟩ k5 n5
 obtain ⟨la,lc,rfl⟩:=hv2
 have nbl:¬ lv.ownBlock=some bl:=fun e=>by
  obtain ⟨col,_,e2,_,_,_,e6⟩:=h.col
  have:=e6 bl e; omega
 have f5:∀ o,w5.frozen? ⟨bl,o,none⟩=false:=fun o=>by rw [k5.frozen _ o (aC h4.l0)]; exact h4.fl o
 have c5:=k5.some h4.l0 nbl
 refine dO @c5 @f5 ?_
 refine hk _ _ h6 (((x2.trans (aJ _)).keep.trans (k5.mono fun _ _ _ h => .inr h)).set fun _ => .inl rfl)
def Jl (st en:Bytes) (q:Nat) (us:List Bytes) (ss:List (Bytes × Bytes)) (del:Bool):List En3 :=
 (if ss=[] then [] else [⟨st,q * 256+21,uvarint en.length++(en++eZ ss)⟩])++(if us=[] then [] else [⟨st,q * 256+20,uvarint en.length++(en++eN us)⟩])++(if del then [⟨st,q * 256+19,en⟩] else [])
open Classical in
theorem EM {d w:World} {g:Nat} (hi:cM d w) (ho:cj d g):∃ dd,cM d dd∧cM dd w∧cj dd g∧∀ b o u,b≠g→w.cell? ⟨b,o,none⟩=some u→dd.cell? ⟨b,o,none⟩=some u:=by
 let D:Nat→Bool:=fun b=>decide (b≠g)
 refine ⟨only w D,ny hi D fun b o v h=>aV fun e => ?_,nt w D,nx w D (aG fun h=>h rfl),fun b o u hb h => ?_⟩
 ·rw [e,ho o] at h; simp at h
 ·rw [iI,show D b=true from aV hb,if_pos rfl]; exact h
theorem xi {w:World} {g m:Nat} {L a:Bytes} (o:w.ownsRow 0 5 1 (.slice (some ⟨g,0,none⟩) m m) m (eF L)) (h:L.take a.length=a) (hl:a.length≤m) {c:Nat}:dR w (.slice (some ⟨g,0,none⟩) a.length c) a:=by
 refine ⟨rfl,rfl,fun i v hv => ?_⟩
 rw [Nat.zero_add]
 refine bW o ?_
 have hi:=(aQ.1 hv).1
 rw [cP] at hi
 rw [← h] at hv
 unfold eF at hv ⊢
 rw [List.map_take,List.getElem?_take,if_pos hi] at hv
 exact hv
theorem za {sb q:Nat} {sa ea:Value} {st en:Bytes} {del:Bool} (h:En d w0 w be bl bv uv sv lv us ss es) (hsa:d.cell? ⟨sb,0,none⟩=some sa) (hea:d.cell? ⟨sb,1,none⟩=some ea) (hst:dR d sa st) (hen:dR d ea en) (he2:en.length≤1048576)
    (hq:q < 72057594037927936) (hus:us.length≤1000) (hss:ss.length≤1000) (hlenss:∀ x ∈ ss,Hp x) (hlenus:∀ x ∈ us,Hq x) (hes:es.length≤900)
    (hk:∀ w2 bv2 lv2,En d w0 w2 be bl bv2 uv sv lv2 us ss (es++Jl st en q us ss del)→k .nilIface w2):ai prog 78 #[.pointer (some ⟨be,0,none⟩),.pointer (some ⟨sb,0,none⟩),.int .u64 q,.bool del] k w:=by
 obtain ⟨a1,c1,rfl⟩:=aY hst
 obtain ⟨a2,c2,rfl⟩:=aY hen
 obtain ⟨csS,oS⟩:=h.so
 obtain ⟨sa1,sc1,rfl,hsl2,hsl3⟩:=oS.form
 obtain ⟨csU,oU⟩:=h.uo
 obtain ⟨ua1,uc1,rfl,hul2,hul3⟩:=oU.form
 have hi:=h.inc
 have j0:=hi _ _ _ hsa
 have j1:=hi _ _ _ hea
 refine al [.tmp 8] func78 ?_
 refine bu @h.c3 ?_
 refine mW (fun b:Unit=>[(0,.pointer (some ⟨be,0,none⟩)),(1,.pointer (some ⟨sb,0,none⟩)),(2,.int .u64 q),(3,.bool del)])
  (fun _ w'=>∃ bv2 lv2,En d w0 w' be bl bv2 (.slice ua1 us.length uc1) (.slice sa1 ss.length sc1) lv2 us ss (es++if ss=[] then [] else [⟨st,q * 256+21,uvarint en.length++(en++eZ ss)⟩])) (by kernel_rfl) (by kernel_rfl) (fun K hK => ?_) ?_
 ·by_cases hs0:ss=[]
  ·have h':¬ (0:Int) < ss.length:=by rw [hs0]; simp
   refine bu @h' ?_
   refine hK _ _ () ?_ ⟨_,_,by rw [if_pos hs0,ao]; exact h⟩
   exact bU
  ·have h':(0:Int) < ss.length:=by have:=List.length_pos_iff.2 hs0; omega
   refine dO @h' @j0 ?_
   refine pZ (q:=21) hq (by omega) fun w2 x2 => ?_
   obtain ⟨A,hA⟩:∃ A,A=uvarint en.length++(en++eZ ss):=⟨_,rfl⟩
   have hle:=kp hlenss
   have hvl:=jT (x:=en.length) (by omega)
   have hvp:=fW en.length
   have hAl:A.length=vl en.length+en.length+(eZ ss).length:=by rw [hA]; unfold vl; simp only [aE]; omega
   obtain ⟨N,hN⟩:∃ N,N=w2.heap.size:=⟨_,rfl⟩
   obtain ⟨w3,hw3⟩:∃ w3,w3=(w2.alloc (.cells #[.slice a1 st.length c1,.int .u64 ((q * 256+21:Nat):Int)] 68)).drew:=⟨_,rfl⟩
   have x3:bp w w3:=by rw [hw3]; exact x2.trans (Keep.drew (aJ _))
   have z3:w3.heap.size=N+1:=by rw [hw3,hN,World.size_drew,World.size_alloc]
   have n0:w3.cell? ⟨N,0,none⟩=some (.slice a1 st.length c1):=by rw [hw3,hN]; exact bX @aA
   have n1:w3.cell? ⟨N,1,none⟩=some (.int .u64 ((q * 256+21:Nat):Int)):=by rw [hw3,hN]; exact bX @aA
   have h3:=h.ext x3
   have j1':=x3.cell j1
   have j0':=x3.cell j0
   have hs:=x2.size
   have nlv:¬ lv.ownBlock=some N:=fun e=>by obtain ⟨_,o⟩:=h.lo; have:=(o.own.lt _ e).2; omega
   have nbl:bl≠N:=fun e=>by have:=aC h.l0; omega
   have nbe:be≠N:=fun e=>by have:=aC h.c0; omega
   refine bA ?_
   refine bF (sq [0,1,2] (.read 3 (sq [4,5,6] (.read 7 (.eff 8 [] (sq [9] .done)))))) ?_
   rw [← hw3,← hN]
   refine dQ @j1' @h3.c2 @h3.c3 ?_
   obtain ⟨_,oS3⟩:=h3.so
   refine zV (d:=w3) (hen.inc h3.inc) he2 (oS3.slw Cm.mono h3.inc) hss hlenss (cM.refl w3) ?_
   rw [← hA]
   have key:∀ K2:aq,K2=K2:=fun _=>rfl
   obtain ⟨bn,bm,hbv⟩:∃ bn bm,bv = .slice bn bm bm:=by
    rcases h.bo with e | ⟨g,m,L,e,_⟩
    ·exact ⟨_,_,e⟩
    ·exact ⟨_,_,e⟩
   subst hbv
   refine bu @h3.c1 ?_
   refine mW (fun b:Nat × Nat=>[(0,.pointer (some ⟨be,0,none⟩)),(1,.pointer (some ⟨sb,0,none⟩)),(2,.int .u64 q),(3,.bool del),(9,.pointer (some ⟨N,0,none⟩)),(10,.int .i64 A.length)])
    (fun b w'=>En d w0 w' be bl (.slice (some ⟨b.1,0,none⟩) b.2 b.2) (.slice ua1 us.length uc1) (.slice sa1 ss.length sc1) lv us ss es∧A.length≤b.2∧b.1≠N∧w'.cell? ⟨N,0,none⟩=some (.slice a1 st.length c1)∧w'.cell? ⟨N,1,none⟩=some (.int .u64 ((q * 256+21:Nat):Int))) (by kernel_rfl) (by kernel_rfl) (fun K3 hK3 => ?_) ?_
   ·by_cases hc:bm < A.length
    ·have hc':(bm:Int) < A.length:=by omega
     refine bu @hc' ?_
     refine Gu (by omega) fun w4 o4 x4 => ?_
     have c4:=x4.cell h3.c1
     have f4:∀ o,w4.frozen? ⟨be,o,none⟩=false:=fun o=>by rw [x4.frozen _ o (aC h3.c0)]; exact h3.f o
     refine dO @c4 @f4 ?_
     refine hK3 _ _ (w3.heap.size,A.length) ?_ ⟨h3.ubuf ⟨_,_,_,rfl,by omega,o4⟩ x4.keep (fun g hg => .inr (by simp only [Value.ownBlock,aP] at hg; omega)),aF _,by simp only; omega,othC (x4.cell n0) (by omega),othC (x4.cell n1) (by omega)⟩
     exact bU
    ·have hc':¬ (bm:Int) < A.length:=by omega
     refine bu @hc' ?_
     rcases h3.bo with e | ⟨g,m,L,e,hm,o⟩
     ·simp only [aU] at e; omega
     ·simp only [aU] at e
      obtain ⟨rfl,rfl,_⟩:=e
      have hlt:=(o.lt _ rfl).2
      refine hK3 _ _ (g,bm) ?_ ⟨h3,by simp only; omega,?_,n0,n1⟩
      ·exact bU
      ·intro e
       simp only at e
       rcases h.bo with e2 | ⟨g2,m2,L2,e2,_,o2⟩
       ·simp only [aU,reduceCtorEq,false_and] at e2
       ·simp only [aU,aP,Addr.mk.injEq,true_and,and_true] at e2
        obtain ⟨rfl,rfl,_⟩:=e2
        have:=(o2.lt _ rfl).2
        simp only at this
        omega
   rintro e3 ⟨g,m⟩ w5 ⟨h5,hm,hgN,n0,n1⟩
   simp only at h5 hm hgN
   have hi5:=h5.inc
   have j1':=hi5 _ _ _ hea
   have og:cj d g:=h5.onb g rfl
   obtain ⟨hm2,L,o5⟩:m≤4294967296∧∃ L,w5.ownsRow 0 5 1 (.slice (some ⟨g,0,none⟩) m m) m (eF L):=by
    rcases h5.bo with e | ⟨g2,m2,L2,e2,hm2,o2⟩
    ·simp at e
    ·have e3:=e2
     simp only [aU,aP,Addr.mk.injEq,and_true] at e3
     obtain ⟨rfl,rfl,_⟩:=e3
     exact ⟨hm2,L2,o2⟩
   have d1:(0:Int)≤A.length:=by omega
   have d2:(A.length:Int)≤m:=by omega
   obtain ⟨_,oS5⟩:=h5.so
   obtain ⟨dd,dd1,dd2,dd3,dd4⟩:=EM hi5 og
   have clash:∀ b,(Value.slice sa1 ss.length sc1).ownBlock=some b→b≠g:=fun b hb e=>by
    obtain ⟨col,_,_,k3,k4,k5,_⟩:=h5.col
    have:=k3 g rfl
    have:=k5 b hb
    rw [e] at this
    omega
   have hsl:=oS5.sl Cm.mono dd1 fun b hb o u hu=>dd4 b o u (clash b hb) hu
   have hne:ss≠[]:=hs0
   refine bA ?_
   refine bF (sq [0,1,2] (.read 3 (sq [4,5,6,7,8] (.read 9 (sq [10,11,12] (.read 13 (.eff 14 [] .done))))))) ?_
   simp (disch:=first | exact dZ | fail) only [go_sem,h5.c1,h5.c2,h5.c3,j1',pG Tryz.es56 d1 d2]
   refine zX (d:=dd) (w:=w5.drew) (hen.inc dd1) he2 hsl hss hne hlenss dd2 dd3 o5.drew (by rw [← hA]; exact aF _) hm hm fun _ w6 o6 k6 => ?_
   have k6:Keep (fun b _=>b=g) w5 w6:=(Keep.drew (Keep.refl _ w5)).trans k6
   have h6:=h5.bufk hm2 o6 k6
   have n0:=k6.some n0 (Ne.symm hgN)
   have n1:=k6.some n1 (Ne.symm hgN)
   rw [← hA] at o6
   have tk:=AV L A (by have:=o5.1; rw [cP,Nat.mul_one] at this; omega)
   have h7:=h6.ext (Keep.drew (bp.refl w6))
   refine bA ?_
   refine bF (sq [0,1,2] (.read 3 (.read 4 (sq [5,6,7] (.read 8 (sq [9,10] (.eff 11 [] (sq [12] .done)))))))) ?_
   simp (disch:=first | exact dZ | fail) only [go_sem,h6.c0,h6.c1,n0,n1,pG Tryz.es56 d1 d2]
   refine pd h7 (hst.inc h7.inc) (xi o6.drew tk hm) (by omega) (by omega) fun w8 lv8 h8 _ => ?_
   refine bA ?_
   refine hK _ _ () ?_ ⟨_,_,by rw [if_neg hs0,← hA]; exact h8⟩
   exact bU
 rintro e1 _ w1 ⟨bv1,lv1,h1⟩
 clear hi j0 j1 oS oU
 obtain ⟨es1,hes1⟩:∃ es1,es1=(es++if ss=[] then [] else [⟨st,q * 256+21,uvarint en.length++(en++eZ ss)⟩]:List En3):=⟨_,rfl⟩
 rw [← hes1] at h1
 have hes2:es1.length≤901:=by
  rw [hes1,aE]
  split
  ·simp; omega
  ·simp; omega
 have hk:∀ w2 bv2 lv2,En d w0 w2 be bl bv2 (.slice ua1 us.length uc1) (.slice sa1 ss.length sc1) lv2 us ss (es1++((if us=[] then [] else [⟨st,q * 256+20,uvarint en.length++(en++eN us)⟩])++(if del then [⟨st,q * 256+19,en⟩] else [])))→k .nilIface w2:=fun w2 bv2 lv2 h=>hk w2 bv2 lv2 (by unfold Jl; rw [ax,← ax,← hes1]; exact h)
 clear hes1 h hes
 revert h1
 generalize bv1=bv
 generalize lv1=lv
 generalize es1=es at hes2 hk
 generalize w1=w
 intro h
 have hi:=h.inc
 have j0:=hi _ _ _ hsa
 have j1:=hi _ _ _ hea
 obtain ⟨csU,oU⟩:=h.uo
 refine bu @h.c2 ?_
 refine mW (fun b:Unit=>[(0,.pointer (some ⟨be,0,none⟩)),(1,.pointer (some ⟨sb,0,none⟩)),(2,.int .u64 q),(3,.bool del)])
  (fun _ w'=>∃ bv2 lv2,En d w0 w' be bl bv2 (.slice ua1 us.length uc1) (.slice sa1 ss.length sc1) lv2 us ss (es++if us=[] then [] else [⟨st,q * 256+20,uvarint en.length++(en++eN us)⟩])) (by kernel_rfl) (by kernel_rfl) (fun K hK => ?_) ?_
 ·by_cases hs0:us=[]
  ·have h':¬ (0:Int) < us.length:=by rw [hs0]; simp
   refine bu @h' ?_
   refine hK _ _ () ?_ ⟨_,_,by rw [if_pos hs0,ao]; exact h⟩
   exact bU
  ·have h':(0:Int) < us.length:=by have:=List.length_pos_iff.2 hs0; omega
   refine dO @h' @j0 ?_
   refine pZ (q:=20) hq (by omega) fun w2 x2 => ?_
   obtain ⟨A,hA⟩:∃ A,A=uvarint en.length++(en++eN us):=⟨_,rfl⟩
   have hle:=kq hlenus
   have hvl:=jT (x:=en.length) (by omega)
   have hvp:=fW en.length
   have hAl:A.length=vl en.length+en.length+(eN us).length:=by rw [hA]; unfold vl; simp only [aE]; omega
   obtain ⟨N,hN⟩:∃ N,N=w2.heap.size:=⟨_,rfl⟩
   obtain ⟨w3,hw3⟩:∃ w3,w3=(w2.alloc (.cells #[.slice a1 st.length c1,.int .u64 ((q * 256+20:Nat):Int)] 68)).drew:=⟨_,rfl⟩
   have x3:bp w w3:=by rw [hw3]; exact x2.trans (Keep.drew (aJ _))
   have z3:w3.heap.size=N+1:=by rw [hw3,hN,World.size_drew,World.size_alloc]
   have n0:w3.cell? ⟨N,0,none⟩=some (.slice a1 st.length c1):=by rw [hw3,hN]; exact bX @aA
   have n1:w3.cell? ⟨N,1,none⟩=some (.int .u64 ((q * 256+20:Nat):Int)):=by rw [hw3,hN]; exact bX @aA
   have h3:=h.ext x3
   have j1':=x3.cell j1
   have j0':=x3.cell j0
   have hs:=x2.size
   have nlv:¬ lv.ownBlock=some N:=fun e=>by obtain ⟨_,o⟩:=h.lo; have:=(o.own.lt _ e).2; omega
   have nbl:bl≠N:=fun e=>by have:=aC h.l0; omega
   have nbe:be≠N:=fun e=>by have:=aC h.c0; omega
   refine bA ?_
   refine bF (sq [0,1,2] (.read 3 (sq [4,5,6] (.read 7 (.eff 8 [] (sq [9] .done)))))) ?_
   rw [← hw3,← hN]
   refine dQ @j1' @h3.c2 @h3.c3 ?_
   obtain ⟨_,oS3⟩:=h3.uo
   refine vi (d:=w3) (hen.inc h3.inc) he2 (oS3.slw Cn.mono h3.inc) hus hlenus (cM.refl w3) ?_
   rw [← hA]
   have key:∀ K2:aq,K2=K2:=fun _=>rfl
   obtain ⟨bn,bm,hbv⟩:∃ bn bm,bv = .slice bn bm bm:=by
    rcases h.bo with e | ⟨g,m,L,e,_⟩
    ·exact ⟨_,_,e⟩
    ·exact ⟨_,_,e⟩
   subst hbv
   refine bu @h3.c1 ?_
   refine mW (fun b:Nat × Nat=>[(0,.pointer (some ⟨be,0,none⟩)),(1,.pointer (some ⟨sb,0,none⟩)),(2,.int .u64 q),(3,.bool del),(12,.pointer (some ⟨N,0,none⟩)),(13,.int .i64 A.length)])
    (fun b w'=>En d w0 w' be bl (.slice (some ⟨b.1,0,none⟩) b.2 b.2) (.slice ua1 us.length uc1) (.slice sa1 ss.length sc1) lv us ss es∧A.length≤b.2∧b.1≠N∧w'.cell? ⟨N,0,none⟩=some (.slice a1 st.length c1)∧w'.cell? ⟨N,1,none⟩=some (.int .u64 ((q * 256+20:Nat):Int))) (by kernel_rfl) (by kernel_rfl) (fun K3 hK3 => ?_) ?_
   ·by_cases hc:bm < A.length
    ·have hc':(bm:Int) < A.length:=by omega
     refine bu @hc' ?_
     refine Gu (by omega) fun w4 o4 x4 => ?_
     have c4:=x4.cell h3.c1
     have f4:∀ o,w4.frozen? ⟨be,o,none⟩=false:=fun o=>by rw [x4.frozen _ o (aC h3.c0)]; exact h3.f o
     refine dO @c4 @f4 ?_
     refine hK3 _ _ (w3.heap.size,A.length) ?_ ⟨h3.ubuf ⟨_,_,_,rfl,by omega,o4⟩ x4.keep (fun g hg => .inr (by simp only [Value.ownBlock,aP] at hg; omega)),aF _,by simp only; omega,othC (x4.cell n0) (by omega),othC (x4.cell n1) (by omega)⟩
     exact bU
    ·have hc':¬ (bm:Int) < A.length:=by omega
     refine bu @hc' ?_
     rcases h3.bo with e | ⟨g,m,L,e,hm,o⟩
     ·simp only [aU] at e; omega
     ·simp only [aU] at e
      obtain ⟨rfl,rfl,_⟩:=e
      have hlt:=(o.lt _ rfl).2
      refine hK3 _ _ (g,bm) ?_ ⟨h3,by simp only; omega,?_,n0,n1⟩
      ·exact bU
      ·intro e
       simp only at e
       rcases h.bo with e2 | ⟨g2,m2,L2,e2,_,o2⟩
       ·simp only [aU,reduceCtorEq,false_and] at e2
       ·simp only [aU,aP,Addr.mk.injEq,true_and,and_true] at e2
        obtain ⟨rfl,rfl,_⟩:=e2
        have:=(o2.lt _ rfl).2
        simp only at this
        omega
   rintro e3 ⟨g,m⟩ w5 ⟨h5,hm,hgN,n0,n1⟩
   simp only at h5 hm hgN
   have hi5:=h5.inc
   have j1':=hi5 _ _ _ hea
   have og:cj d g:=h5.onb g rfl
   obtain ⟨hm2,L,o5⟩:m≤4294967296∧∃ L,w5.ownsRow 0 5 1 (.slice (some ⟨g,0,none⟩) m m) m (eF L):=by
    rcases h5.bo with e | ⟨g2,m2,L2,e2,hm2,o2⟩
    ·simp at e
    ·have e3:=e2
     simp only [aU,aP,Addr.mk.injEq,and_true] at e3
     obtain ⟨rfl,rfl,_⟩:=e3
     exact ⟨hm2,L2,o2⟩
   have d1:(0:Int)≤A.length:=by omega
   have d2:(A.length:Int)≤m:=by omega
   obtain ⟨_,oS5⟩:=h5.uo
   obtain ⟨dd,dd1,dd2,dd3,dd4⟩:=EM hi5 og
   have clash:∀ b,(Value.slice ua1 us.length uc1).ownBlock=some b→b≠g:=fun b hb e=>by
    obtain ⟨col,_,_,k3,k4,k5,_⟩:=h5.col
    have:=k3 g rfl
    have:=k4 b hb
    rw [e] at this
    omega
   have hsl:=oS5.sl Cn.mono dd1 fun b hb o u hu=>dd4 b o u (clash b hb) hu
   have hne:us≠[]:=hs0
   refine bA ?_
   refine bF (sq [0,1,2] (.read 3 (sq [4,5,6,7,8] (.read 9 (sq [10,11,12] (.read 13 (.eff 14 [] .done))))))) ?_
   simp (disch:=first | exact dZ | fail) only [go_sem,h5.c1,h5.c2,h5.c3,j1',pG Tryz.es56 d1 d2]
   refine vj (d:=dd) (w:=w5.drew) (hen.inc dd1) he2 hsl hus hne hlenus dd2 dd3 o5.drew (by rw [← hA]; exact aF _) hm hm fun _ w6 o6 k6 => ?_
   have k6:Keep (fun b _=>b=g) w5 w6:=(Keep.drew (Keep.refl _ w5)).trans k6
   have h6:=h5.bufk hm2 o6 k6
   have n0:=k6.some n0 (Ne.symm hgN)
   have n1:=k6.some n1 (Ne.symm hgN)
   rw [← hA] at o6
   have tk:=AV L A (by have:=o5.1; rw [cP,Nat.mul_one] at this; omega)
   have h7:=h6.ext (Keep.drew (bp.refl w6))
   refine bA ?_
   refine bF (sq [0,1,2] (.read 3 (.read 4 (sq [5,6,7] (.read 8 (sq [9,10] (.eff 11 [] (sq [12] .done)))))))) ?_
   simp (disch:=first | exact dZ | fail) only [go_sem,h6.c0,h6.c1,n0,n1,pG Tryz.es56 d1 d2]
   refine pd h7 (hst.inc h7.inc) (xi o6.drew tk hm) (by omega) (by omega) fun w8 lv8 h8 _ => ?_
   refine bA ?_
   refine hK _ _ () ?_ ⟨_,_,by rw [if_neg hs0,← hA]; exact h8⟩
   exact bU
 rintro e1 _ w1 ⟨bv1,lv1,h1⟩
 have hi:=h1.inc
 have j0:=hi _ _ _ hsa
 have j1:=hi _ _ _ hea
 have hes3:(es++if us=[] then [] else [⟨st,q * 256+20,uvarint en.length++(en++eN us)⟩]:List En3).length≤902:=by
  rw [aE]
  split
  ·simp; omega
  ·simp; omega
 cases del with
 | false =>
  refine bA ?_
  exact hk _ _ _ (by rw [← ax,show (if false=true then [(⟨st,q * 256+19,en⟩:En3)] else [])=[] from rfl,ao]; exact h1)
 | true =>
  refine bu @j0 ?_
  refine pZ (q:=19) hq (by omega) fun w2 x2 => ?_
  obtain ⟨N,hN⟩:∃ N,N=w2.heap.size:=⟨_,rfl⟩
  obtain ⟨w3,hw3⟩:∃ w3,w3=(w2.alloc (.cells #[.slice a1 st.length c1,.int .u64 ((q * 256+19:Nat):Int)] 68)).drew:=⟨_,rfl⟩
  have x3:bp w1 w3:=by rw [hw3]; exact x2.trans (Keep.drew (aJ _))
  have n0:w3.cell? ⟨N,0,none⟩=some (.slice a1 st.length c1):=by rw [hw3,hN]; exact bX @aA
  have n1:w3.cell? ⟨N,1,none⟩=some (.int .u64 ((q * 256+19:Nat):Int)):=by rw [hw3,hN]; exact bX @aA
  have h3:=h1.ext x3
  have j1':=x3.cell j1
  refine bA ?_
  refine bF (sq [0,1,2] (.read 3 (.read 4 (sq [5,6,7] (.read 8 (.eff 9 [] (sq [10] .done))))))) ?_
  rw [← hw3,← hN]
  refine eO @h3.c0 @n0 @n1 @j1' ?_
  refine pd h3 (hst.inc h3.inc) (hen.inc h3.inc) (by omega) (by omega) fun w8 lv8 h8 _ => ?_
  refine bA ?_
  refine hk _ bv1 lv8 ?_
  rw [← ax,show (if true=true then [(⟨st,q * 256+19,en⟩:En3)] else [])=[⟨st,q * 256+19,en⟩] from rfl]
  exact h8
end
end Go.Proofs
end
section
namespace Go.E
open Go Go.Sort Go.Proofs Go.Proofs.Tryz
def pe:gR (List Sp):=fun w cs x=>∃ v,cs=[v]∧Sl dh 3 w v x
theorem pe.mono:gH pe:=fun _ _ _ _ hi ⟨v,h1,h2⟩=>⟨v,h1,h2.inc dh.mono hi⟩
def Bv:gR Lvl:=fun _ cs x=>cs=[.iface 236 (.pointer (some ⟨x.I,0,none⟩))]
theorem Bv.mono:gH Bv:=fun _ _ _ _ _ h=>h
structure ItsAt (n:Nat) (d w:World) (Ls:List Lvl):Prop where
 at_:∀ x ∈ Ls,IterAt w x.I x.b x.o x.L.length (-1)∧kW d x.b x.o x.L∧cj d x.I∧n≤x.I∧x.I < w.heap.size
 ne:Ls.Pairwise fun x y=>x.I≠y.I
theorem ItsAt.keep {n:Nat} {d d2 w w2:World} {Ls:List Lvl} {M:Nat→Nat→Prop} (h:ItsAt n d w Ls) (hk:Keep M w w2) (hm:∀ x ∈ Ls,∀ o,¬ M x.I o) (hi:cM d d2) (ho:∀ b,cj d b→(∃ x ∈ Ls,x.I=b)→cj d2 b):ItsAt n d2 w2 Ls where
 at_ x hx:=by
  obtain ⟨a1,a2,a3,a4,a5⟩:=h.at_ x hx
  exact ⟨a1.keep hk (hm x hx),a2.inc hi,ho _ a3 ⟨x,hx,rfl⟩,a4,aL a5 hk.size⟩
 ne:=h.ne
def Bw:Obj := .cells #[.func (.func 85) #[] #[],.func (.func 86) #[] #[],.func (.func 87) #[] #[],.nilFunc,.func (.func 89) #[] #[],.nilFunc,.func (.func 91) #[] #[],.func (.func 92) #[] #[],
 .string ⟨#[108,101,118,101,108,100,98,46,66,121,116,101,119,105,115,101,67,111,109,112,97,114,97,116,111,114]⟩] 137
end Go.E
namespace Go.Proofs
open Go Go.E Go.Sort Go.Proofs.Tryz
section
variable {k:aq} {d w:World}
theorem iz (hk:k (.pointer (some ⟨w.heap.size,0,none⟩)) (w.alloc Bw)):ai prog 56 #[] k w:=by
 refine al [.tmp 0] func56 ?_
 refine bA ?_
 exact hk
theorem xj {a:Option Addr} {n c:Nat} (hk:k (.pointer (some ⟨w.heap.size,0,none⟩)) (w.alloc (.cells #[.func (.func 85) #[] #[],.slice a n c,.int .i64 (-1)] 256))):ai prog 100 #[.func (.func 85) #[] #[],.slice a n c] k w:=by
 refine al [.tmp 4] func100 ?_
 refine bA ?_
 refine al [] func113 ?_
 refine bA ?_
 exact hk
theorem gS {v:Value} {l:List (List Sp)} (hv:Sl pe 1 d v l) (hl:l.length < 1000000) (hlen:∀ x ∈ l,x.length < 1000000∧∀ s ∈ x,xh s) (hinc:cM d w)
    (hk:∀ d' w' v' Ls,Gr d w d' w'→Sl Bv 1 d' v' Ls→ItsAt w.heap.size d' w' Ls→Ls.map Lvl.L=l→k v' w'):ai prog 68 #[v] k w:=by
 obtain ⟨ka,kc,rfl⟩:=hv.form
 refine al [.tmp 2] func68 ?_
 refine bA ?_
 refine bZ (fun b:Nat × Value=>[(3,b.2),(6,.slice ka l.length kc),(7,.int .i64 l.length),(8,.int .i64 b.1)])
  (fun b w'=>b.1≤l.length∧∃ d1 Ls,LoopL Bv 1 155 d w d1 w' b.2 Ls∧ItsAt w.heap.size d1 w' Ls∧Ls.map Lvl.L=l.take b.1∧∀ x ∈ Ls,b.2.ownBlock≠some x.I) (fun b _=>l.length - b.1) (0,.slice none 0 0) (by kernel_rfl) ?_ ⟨aT _,d,[],LoopL.nil hinc,⟨by simp,.nil⟩,rfl,by simp⟩ ?_
 ·exact bU
 rintro K2 e ⟨i,v⟩ w1 ⟨i2,d1,Ls,i3,it,hm,hne⟩ hK2
 simp only at i2 i3 hm hne
 have hLs:Ls.length=i:=by
  have:=congrArg List.length hm
  rwa [aR,dV i2] at this
 rcases aH i l.length with hi | hi
 rotate_left
 ·have hi':¬ (i:Int) < l.length:=by omega
  refine bu @hi' ?_
  obtain rfl:i=l.length:=by omega
  rw [ag] at hm
  obtain ⟨d2,g2,i2,o2,s2⟩:=i3.done Bv.mono
  exact hk d2 w1 v Ls g2 s2 (it.keep (bp.refl w1) (fun _ _ _ h=>h) i2 fun b h1 h2=>o2 b h1 fun h=>by obtain ⟨x,hx,rfl⟩:=h2; exact hne x hx h) hm
 have hi':(i:Int) < l.length:=by omega
 obtain ⟨g,f,c,hv',hc,hat⟩:=(hv.inc pe.mono i3.g.i).at (by omega)
 obtain ⟨rfl,rfl⟩:=sEq hv'
 obtain ⟨x,hx⟩:=gEl hi
 obtain ⟨cs,_,hcs,u,rfl,hu⟩:=hat i _ hx
 have hmem:=aO hx
 obtain ⟨ua,uc,rfl⟩:=hu.form
 have h0:w1.cell? ⟨g,f+i * 1,none⟩=some (.slice ua x.length uc):=i3.g.j _ _ _ (hcs 0 _ rfl)
 refine dO @hi' @h0 ?_
 refine bF (sq [0,5] (.eff 1 [] (sq [2,3] (.read 4 (.eff 6 [4] (.eff 7 [] (sq [8] (.eff 9 [] (.eff 10 [] (sq [11] .done)))))))))) ?_
 refine bA ?_
 refine iz ?_
 obtain ⟨w3,hw3⟩:∃ w3,w3=w1.drew.alloc Bw:=⟨_,rfl⟩
 have x3:bp w1 w3:=by rw [hw3]; exact (Keep.refl _ w1).drew.trans (aJ _)
 have p0:w3.cell? ⟨w1.heap.size,0,none⟩=some (.func (.func 85) #[] #[]):=by rw [hw3]; unfold Bw; exact bX @aA
 rw [← hw3]
 refine bu @p0 ?_
 have i4:=i3.ext Bv.mono x3
 refine Bt hu (hlen x hmem).1 (hlen x hmem).2 i4.g.j fun d4 w4 v4 g4 s4 => ?_
 have i5:=i4.call Bv.mono g4
 have p0:=g4.x.cell p0
 obtain ⟨pa,pc,rfl⟩:=s4.form
 obtain ⟨pb,po,hpa⟩:∃ b o,kW d4 b o x∧(0 < x.length→pa=some ⟨b,o,none⟩):=by
  rcases bt x.length with h | h
  ·exact ⟨0,0,fun j hj=>by omega,fun h'=>by omega⟩
  ·obtain ⟨b,o,c',e,_,hat4⟩:=s4.at h
   refine ⟨b,o,fun j hj => ?_,fun _=>by simpa using (Value.slice.inj e).1⟩
   have:=hat4 j _ (aD hj)
   rw [aI x j hj]
   exact FC.span this
 refine bu @p0 ?_
 refine xj ?_
 obtain ⟨I,hI⟩:∃ I,I=w4.heap.size:=⟨_,rfl⟩
 obtain ⟨w6,hw6⟩:∃ w6,w6=w4.alloc (.cells #[.func (.func 85) #[] #[],.slice pa x.length pc,.int .i64 (-1)] 256):=⟨_,rfl⟩
 have x6:bp w4 w6:=by rw [hw6]; exact aJ _
 have z6:w6.heap.size=I+1:=by rw [hw6,World.size_alloc,hI]
 have q0:w6.cell? ⟨I,0,none⟩=some (.func (.func 85) #[] #[]):=by rw [hw6,hI]; exact bX @aA
 have q1:w6.cell? ⟨I,1,none⟩=some (.slice pa x.length pc):=by rw [hw6,hI]; exact bX @aA
 have q2:w6.cell? ⟨I,2,none⟩=some (.int .i64 (-1)):=by rw [hw6,hI]; exact bX @aA
 have f6:∀ y,w6.frozen? ⟨I,y,none⟩=false:=fun y=>by rw [hw6,hI]; simp (disch:=first | exact dZ | fail) only [go_sem]
 rw [← hw6,← hI]
 have i7:=i5.ext Bv.mono x6
 obtain ⟨va,vcap,rfl,_⟩:=i7.form
 have p0:=x6.cell p0
 refine bu @p0 ?_
 obtain ⟨css,o7⟩:=i7.o
 have hsz:w.heap.size≤w4.heap.size:=i5.g.x.size
 have it7:ItsAt w.heap.size d4 w6 Ls:=it.keep (M:=fun _ _=>False) (x3.trans (g4.x.trans x6)) (fun _ _ _ h=>h) g4.i fun b h1 ⟨y,hy,e⟩=>g4.o b (by have:=(it.at_ y hy).2.2.2.2; have:=x3.size; omega) h1
 have oI:cj d4 I:=i5.g.j.out (by omega)
 refine iL (⟨I,pb,po,x⟩:Lvl) [.iface 236 (.pointer (some ⟨I,0,none⟩))] rw201 o7 rfl rfl (.inl rfl) rfl rfl (by simp [Value.oneCell']) (by rw [hLs]; omega) i7.g.j fun v2 w2 o2 k2 n2 j2 _ => ?_
 refine bu @p0 ?_
 have hown:∀ y ∈ Ls,y.I < w6.heap.size∧y.I≠I:=fun y hy=>by
  have:=(it.at_ y hy).2.2.2.2
  have:=x3.size
  have:=g4.x.size
  omega
 have oI2:(Value.slice va Ls.length vcap).ownBlock≠some I:=fun h=>by
  have:=(o7.own.lt _ h).2
  obtain ⟨_,o5⟩:=i5.o
  have:=(o5.own.lt _ h).2
  omega
 refine hK2 _ _ (i+1,v2) ?_ ⟨hi,d4,Ls++[⟨I,pb,po,x⟩],i7.more o2 k2 n2 j2,?_,?_,?_⟩ (by simp only; omega)
 ·exact bU
 ·have it8:=it7.keep (w2:=w2) k2 (fun y hy o h=>hne y hy h) (cM.refl d4) fun b h _=>h
  refine ⟨fun y hy => ?_,List.pairwise_append.2 ⟨it8.ne,List.pairwise_singleton _ _,fun y hy z hz => ?_⟩⟩
  ·rcases aS.1 hy with hy | hy
   ·exact it8.at_ y hy
   ·obtain rfl:=aM.1 hy
    refine ⟨⟨k2.some q0 fun h=>oI2 h,⟨pa,pc,k2.some q1 fun h=>oI2 h,hpa.2⟩,k2.some q2 fun h=>oI2 h,fun y=>by rw [k2.frozen I y (by omega)]; exact f6 y⟩,hpa.1,oI,by simp only; omega,by have:=k2.size; simp only; omega⟩
  ·rw [aM.1 hz]
   exact (hown y hy).2
 ·rw [az,hm,bz hx]
  rfl
 ·intro y hy h
  rcases n2 _ h with h | h
  ·rcases aS.1 hy with hy | hy
   ·exact hne y hy h
   ·obtain rfl:=aM.1 hy
    exact oI2 h
  ·rcases aS.1 hy with hy | hy
   ·have:=(hown y hy).1; omega
   ·obtain rfl:=aM.1 hy
    simp only at h
    omega
end
end Go.Proofs
end
section
namespace Go.E
open Go Go.Sort Go.Proofs Go.Proofs.Tryz
theorem EN {b o:Nat} {k:aq} (l:List Value) (i:Nat) {w:World} (hc:∀ j,i≤j→j < i+l.length→∃ u,w.cell? ⟨b,o+j,none⟩=some u) (hf:∀ y,w.frozen? ⟨b,y,none⟩=false) (h1:∀ u ∈ l,u.oneCell'=true)
    (hk:∀ w',(∀ j u,l[j]? = some u→w'.cell? ⟨b,o+i+j,none⟩=some u)→Keep (fun c x=>c=b∧o+i≤x∧x < o+i+l.length) w w'→k undef w'):tD ⟨b,o,none⟩ i l k w:=by
 induction l generalizing i w with
 | nil =>
  rw [FP]
  exact hk w (by simp) (Keep.refl _ w)
 | cons v l ih =>
  rw [wo]
  have ea:(⟨b,o,none⟩:Addr).add i=⟨b,o+i,none⟩:=by cases i <;> rfl
  rw [ea]
  obtain ⟨u,hu⟩:=hc i (aF _) (by simp only [aZ]; omega)
  rw [hu,hf]
  unfold vF
  rw [ea]
  refine ⟨⟨rfl,rfl,h1 v aK⟩,ih (i+1) (fun j h2 h3 => ?_) (fun y=>by rw [World.frozen?_setCell]; exact hf y) (fun x hx=>h1 x (aW _ hx)) fun w' hw' k'=>hk w' (fun j x hx => ?_) ?_⟩
  ·obtain ⟨x,hx⟩:=hc j (by omega) (by simp only [aZ]; omega)
   exact ⟨x,by show (w.setCell ⟨b,o+i,none⟩ v).cell? _=_; rw [fk (by omega)]; exact hx⟩
  ·cases j with
   | zero =>
    simp only [List.getElem?_cons_zero,aP] at hx
    subst hx
    refine k'.some (b:=b) (o:=o+i+0) ?_ (by omega)
    show (w.setCell ⟨b,o+i,none⟩ v).cell? ⟨b,o+i,none⟩=_
    rw [cJ,hu]
    rfl
   | succ j =>
    rw [List.getElem?_cons_succ] at hx
    have:=hw' j x hx
    rwa [show o+(i+1)+j=o+i+(j+1) by omega] at this
  ·refine Keep.trans (bY (o:=o+i) ⟨rfl,aF _,by simp only [aZ]; omega⟩) (k'.mono fun c x _ h => ?_)
   simp only [aZ]
   omega
theorem EO {b o:Nat} {k:aq} {v:Value} {l:List Value} {w:World} (hc:∀ j,j < l.length+1→∃ u,w.cell? ⟨b,o+j,none⟩=some u) (hf:∀ y,w.frozen? ⟨b,y,none⟩=false) (h1:∀ u ∈ v :: l,u.oneCell'=true)
    (hk:∀ w',(∀ j u,(v :: l)[j]? = some u→w'.cell? ⟨b,o+j,none⟩=some u)→Keep (fun c x=>c=b∧o≤x∧x < o+(l.length+1)) w w'→k undef w'):vF (w.cell? ⟨b,o,none⟩) (w.frozen? ⟨b,o,none⟩) v ⟨b,o,none⟩ 0 l k w:=by
 have:=EN (k:=k) (b:=b) (o:=o) (v :: l) 0 (w:=w) (fun j _ h=>hc j (by simpa using h)) hf h1 fun w' a c=>hk w' a c
 rwa [wo] at this
theorem OB.inc {d d2:World} {v:Value} {b:Option Bytes} (h:OB d v b) (hi:cM d d2):OB d2 v b:=by
 rcases h with h | ⟨l,a,n,c,h1,h2,h3⟩
 ·exact .inl h
 ·exact .inr ⟨l,a,n,c,h1,h2,h3.inc hi⟩
def ou (key:Bytes) (has:Bool):Option Bytes:=if has then some key else none
end Go.E
namespace Go.Proofs
open Go Go.E Go.Sort Go.Proofs.Tryz
section
variable {k:aq} {d w:World}
theorem dw {key:Bytes} {has:Bool} (hinc:cM d w) (hl:key.length≤4294967296) (hk:∀ d2 w2 v,Gr d w d2 w2→OB d2 v (ou key has)→k v w2):ai prog 67 #[.agg #[.string ⟨key.toArray⟩,.bool has]] k w:=by
 refine al [.tmp 2] func67 ?_
 refine bA ?_
 have x1:bp w (w.alloc (.cells #[.string ⟨key.toArray⟩,.bool has] 88)):=aJ _
 cases has with
 | false =>
  refine bu @aA ?_
  exact hk d _ _ (Gr.ext hinc x1) (.inl ⟨rfl,rfl⟩)
 | true =>
  refine bu @aA ?_
  refine dY (hinc.trans x1.inc) hl fun d2 w2 a n c g2 h2 => ?_
  refine bA ?_
  exact hk d2 w2 _ ((Gr.ext hinc x1).trans g2) (.inr ⟨key,a,n,c,rfl,rfl,h2⟩)
theorem ov (hinc:cM d w) (hk:∀ d2 w2 C,Gr d w d2 w2→w.heap.size≤C→d2.cell? ⟨C,0,none⟩=some (.func (.func 85) #[] #[])→d2.cell? ⟨C,1,none⟩=some (.func (.func 86) #[] #[])→d2.cell? ⟨C,5,none⟩=some .nilFunc→k (.pointer (some ⟨C,0,none⟩)) w2):ai prog 56 #[] k w:=by
 refine al [.tmp 0] func56 ?_
 refine bA ?_
 generalize hO:Obj.cells _ _=O
 have x2:bp w (w.alloc O):=aJ _
 obtain ⟨d2,g2,e2⟩:=oq hinc x2
 have c0:(w.alloc O).cell? ⟨w.heap.size,0,none⟩=some (.func (.func 85) #[] #[]):=by rw [← hO]; exact bX @aA
 have c1:(w.alloc O).cell? ⟨w.heap.size,1,none⟩=some (.func (.func 86) #[] #[]):=by rw [← hO]; exact bX @aA
 have c5:(w.alloc O).cell? ⟨w.heap.size,5,none⟩=some .nilFunc:=by rw [← hO]; exact bX @aA
 exact hk d2 _ _ g2 (aF _) (e2 _ _ _ (aF _) c0) (e2 _ _ _ (aF _) c1) (e2 _ _ _ (aF _) c5)
end
end Go.Proofs
end
section
namespace Go.E
open Go Go.Sort Go.Proofs Go.Proofs.Tryz
def wO (P:Prop) (k:aq) (w:World):Prop:=∀ b w',bp w w'→(b=true→P)→k (.bool b) w'
theorem wO.no {P:Prop} {k:aq} {w w':World} (h:wO P k w) (x:bp w w'):k (.bool false) w':=h false w' x fun h=>by cases h
theorem wO.yes {P:Prop} {k:aq} {w w':World} (h:wO P k w) (x:bp w w') (p:P):k (.bool true) w':=h true w' x fun _=>p
theorem ee {α:Type} {P:α→Prop} {l:List α} {i:Nat} {x:α} (h:∀ y ∈ l.take i,P y) (hx:l[i]? = some x) (hp:P x):∀ y ∈ l.take (i+1),P y:=by
 rw [bz hx]
 intro y hy
 rcases aS.1 hy with hy | hy
 ·exact h y hy
 ·rw [aM.1 hy]; exact hp
def Bx (x:K):Prop:=x.suf.length≤2147483647∧x.val.length≤2147483647
def xp (x:Sp):Prop:=x.s.length≤2147483647∧x.e.length≤2147483647∧x.ks.length≤2147483647∧∀ y ∈ x.ks,Bx y
end Go.E
namespace Go.Proofs
open Go Go.E Go.Sort Go.Proofs.Tryz
section
variable {k:aq} {w:World}
theorem B0 {x:K} (hk:wO (Bx x) k w):ai prog 70 #[.agg #[.int .u64 x.tr,.string ⟨x.suf.toArray⟩,.string ⟨x.val.toArray⟩]] k w:=by
 refine al [.tmp 2] func70 ?_
 by_cases h1:2147483647 < (x.suf.length:Int)
 ·refine dO @aA @h1 ?_
  exact hk.no (aJ _)
 by_cases h2:2147483647 < (x.val.length:Int)
 ·refine dQ @aA @h1 @h2 ?_
  exact hk.no (aJ _)
 refine dQ @aA @h1 @h2 ?_
 exact hk.yes (aJ _) ⟨by omega,by omega⟩
theorem B5 {v:Value} {l:List K} (hv:Sl KE 3 w v l) (hk:wO (l.length≤2147483647∧∀ x ∈ l,Bx x) k w):ai prog 42 #[v] k w:=by
 obtain ⟨ka,kc,rfl⟩:=hv.form
 refine al [.tmp 2] func42 ?_
 by_cases hz:2147483647 < (l.length:Int)
 ·refine bu @hz ?_
  exact hk.no (bp.refl _)
 refine bu @hz ?_
 refine bZ (fun i:Nat=>[(2,.bool false),(8,.slice ka l.length kc),(8+1,.int .i64 l.length),(8+2,.int .i64 i)])
  (fun i w'=>i≤l.length∧bp w w'∧∀ x ∈ l.take i,Bx x) (fun i _=>l.length - i) 0 (by kernel_rfl) ?_ ⟨aT _,bp.refl _,by simp⟩ ?_
 ·exact bU
 rintro K2 e i w1 ⟨i2,i3,i4⟩ hK2
 rcases aH i l.length with hi | hi
 rotate_left
 ·have hi':¬ (i:Int) < l.length:=by omega
  obtain rfl:i=l.length:=by omega
  rw [ag] at i4
  refine bu @hi' ?_
  exact hk.yes i3 ⟨by omega,i4⟩
 have hi':(i:Int) < l.length:=by omega
 obtain ⟨g,f,c,hv',hc,hat⟩:=(hv.inc KE.mono i3.inc).at (by omega)
 obtain ⟨rfl,rfl⟩:=sEq hv'
 obtain ⟨x,hx⟩:=gEl hi
 obtain ⟨cs,_,hcs,hR⟩:=hat i x hx
 obtain ⟨rfl,htr⟩:=hR
 have h0:w1.cell? ⟨g,f+i * 3,none⟩=some (.int .u64 x.tr):=hcs 0 _ rfl
 have h1:w1.cell? ⟨g,f+i * 3+1,none⟩=some (.string ⟨x.suf.toArray⟩):=hcs 1 _ rfl
 have h2:w1.cell? ⟨g,f+i * 3+2,none⟩=some (.string ⟨x.val.toArray⟩):=hcs 2 _ rfl
 refine hJ @hi' @h0 @h1 @h2 @aA ?_
 refine B0 fun b w2 x2 hb => ?_
 have x3:=i3.trans (bp.trans (aJ _) x2)
 cases b with
 | false =>
  refine bA ?_
  exact hk.no (x3)
 | true =>
  refine bA ?_
  refine hK2 _ _ (i+1) ?_ ⟨hi,x3,ee i4 hx (hb rfl)⟩ (by omega)
  exact bU
theorem B6 {kv:Value} {x:Sp} (hv:Sl KE 3 w kv x.ks) (hk:wO (xp x) k w):ai prog 16 #[.agg #[.string ⟨x.s.toArray⟩,.string ⟨x.e.toArray⟩,kv]] k w:=by
 obtain ⟨ka,kc,rfl⟩:=hv.form
 refine al [.tmp 2] func16 ?_
 by_cases h1:2147483647 < (x.s.length:Int)
 ·refine dO @aA @h1 ?_
  exact hk.no (aJ _)
 by_cases h2:2147483647 < (x.e.length:Int)
 ·refine dQ @aA @h1 @h2 ?_
  exact hk.no (aJ _)
 refine dQ @aA @h1 @h2 ?_
 refine B5 (hv.inc KE.mono (aJ _).inc) fun b w2 x2 hb => ?_
 have x3:=(aJ _).trans x2
 cases b with
 | false =>
  refine bA ?_
  exact hk.no x3
 | true =>
  refine bA ?_
  exact hk.yes x3 ⟨by omega,by omega,hb rfl⟩
theorem B7 {v:Value} {l:List Sp} (hv:Sl dh 3 w v l) (hk:wO (l.length≤2147483647∧∀ x ∈ l,xp x) k w):ai prog 4 #[v] k w:=by
 obtain ⟨ka,kc,rfl⟩:=hv.form
 refine al [.tmp 2] func4 ?_
 by_cases hz:2147483647 < (l.length:Int)
 ·refine bu @hz ?_
  exact hk.no (bp.refl _)
 refine bu @hz ?_
 refine bZ (fun i:Nat=>[(2,.bool false),(8,.slice ka l.length kc),(8+1,.int .i64 l.length),(8+2,.int .i64 i)])
  (fun i w'=>i≤l.length∧bp w w'∧∀ x ∈ l.take i,xp x) (fun i _=>l.length - i) 0 (by kernel_rfl) ?_ ⟨aT _,bp.refl _,by simp⟩ ?_
 ·exact bU
 rintro K2 e i w1 ⟨i2,i3,i4⟩ hK2
 rcases aH i l.length with hi | hi
 rotate_left
 ·have hi':¬ (i:Int) < l.length:=by omega
  obtain rfl:i=l.length:=by omega
  rw [ag] at i4
  refine bu @hi' ?_
  exact hk.yes i3 ⟨by omega,i4⟩
 have hi':(i:Int) < l.length:=by omega
 obtain ⟨g,f,c,hv',hc,hat⟩:=(hv.inc dh.mono i3.inc).at (by omega)
 obtain ⟨rfl,rfl⟩:=sEq hv'
 obtain ⟨x,hx⟩:=gEl hi
 obtain ⟨cs,_,hcs,hR⟩:=hat i x hx
 obtain ⟨kv,rfl,hkv⟩:=hR
 obtain ⟨kva,kvc,rfl⟩:=hkv.form
 have h0:w1.cell? ⟨g,f+i * 3,none⟩=some (.string ⟨x.s.toArray⟩):=hcs 0 _ rfl
 have h1:w1.cell? ⟨g,f+i * 3+1,none⟩=some (.string ⟨x.e.toArray⟩):=hcs 1 _ rfl
 have h2:w1.cell? ⟨g,f+i * 3+2,none⟩=some (.slice kva x.ks.length kvc):=hcs 2 _ rfl
 refine hJ @hi' @h0 @h1 @h2 @aA ?_
 refine B6 (hkv.inc KE.mono (aJ _).inc) fun b w2 x2 hb => ?_
 have x3:=i3.trans (bp.trans (aJ _) x2)
 cases b with
 | false =>
  refine bA ?_
  exact hk.no (x3)
 | true =>
  refine bA ?_
  refine hK2 _ _ (i+1) ?_ ⟨hi,x3,ee i4 hx (hb rfl)⟩ (by omega)
  exact bU
end
end Go.Proofs
end
section
namespace Go.E
open Go Go.Sort Go.Proofs
theorem kF {α β:Type} {l:List α} {f g:α→List β} (h:∀ a ∈ l,f a=g a):l.flatMap f=l.flatMap g:=by
 induction l with
 | nil=>rfl
 | cons x l ih=>rw [ae,ae,h x aK,ih fun a ha=>h a (aW _ ha)]
theorem EP {α β:Type} {l:List α} {f g:α→Option β} (h:∀ a ∈ l,f a=g a):l.filterMap f=l.filterMap g:=by
 induction l with
 | nil=>rfl
 | cons x l ih=>rw [List.filterMap_cons,List.filterMap_cons,h x aK,ih fun a ha=>h a (aW _ ha)]
section
variable {α:Type}
def gI (lt:α→α→Bool) (x:α) (l:List α):Nat→Nat
 | 0=>0
 | i+1=>match l[i]? with
  | some y=>if lt x y then gI lt x l i else i+1
  | none=>i+1
def mY (lt:α→α→Bool) (x:α) (l:List α):List α:=l.take (gI lt x l l.length)++x :: l.drop (gI lt x l l.length)
def lQ (lt:α→α→Bool) (l:List α):List α:=l.foldl (fun a x=>mY lt x a) []
variable {lt:α→α→Bool}
theorem xq (x:α) (l:List α) (i:Nat):gI lt x l i≤i:=by
 induction i with
 | zero=>exact aF _
 | succ i ih =>
  unfold gI
  split
  ·split
   ·omega
   ·exact aF _
  ·exact aF _
theorem sC (x:α) (l:List α) {i:Nat} (hi:i≤l.length):(∀ j y,gI lt x l i≤j→j < i→l[j]? = some y→lt x y=true)∧∀ j y,gI lt x l i=j+1→l[j]? = some y→lt x y=false:=by
 induction i with
 | zero=>exact ⟨fun j y _ h=>by omega,fun j y h=>by simp [gI] at h⟩
 | succ i ih =>
  have ih:=ih (by omega)
  have hy:l[i]? = some l[i]:=aD (by omega)
  unfold gI
  rw [hy]
  simp only
  split
  ·rename_i hlt
   refine ⟨fun j y h1 h2 h3 => ?_,ih.2⟩
   rcases aH j i with h4 | h4
   ·exact ih.1 j y h1 h4 h3
   ·obtain rfl:j=i:=by omega
    rw [hy] at h3
    cases h3
    exact hlt
  ·rename_i hlt
   refine ⟨fun j y h1 h2 h3=>by omega,fun j y h1 h2 => ?_⟩
   obtain rfl:i=j:=by omega
   rw [hy] at h2
   cases h2
   simpa using hlt
theorem ph (x:α) (l:List α):(mY lt x l).Perm (x :: l):=by
 unfold mY
 refine List.perm_middle.trans ?_
 rw [cT]
theorem xr (x:α) (l:List α):(mY lt x l).length=l.length+1:=by
 simpa using (ph (lt:=lt) x l).length_eq
theorem sD (l a:List α):(l.foldl (fun a x=>mY lt x a) a).Perm (l++a):=by
 induction l generalizing a with
 | nil=>exact List.Perm.refl _
 | cons x l ih =>
  rw [List.foldl_cons]
  refine (ih _).trans ?_
  refine ((ph x a).append_left l).trans ?_
  exact List.perm_middle
theorem kt (l:List α):(lQ lt l).Perm l:=by
 have:=sD (lt:=lt) l []
 rwa [ao] at this
theorem ow (l:List α):(lQ lt l).length=l.length:=(kt l).length_eq
structure TotB (lt:α→α→Bool):Prop where
 asym:∀ a b,lt a b=true→lt b a=false
 trans:∀ a b c,lt b a=false→lt c b=false→lt c a=false
theorem xu (h:TotB lt) (x:α) {l:List α} (hl:l.Pairwise fun a b=>lt b a=false):(mY lt x l).Pairwise fun a b=>lt b a=false:=by
 have hs:=sC (lt:=lt) x l (aF _)
 have hle:=xq (lt:=lt) x l l.length
 unfold mY
 obtain ⟨j,hj⟩:∃ j,j=gI lt x l l.length:=⟨_,rfl⟩
 rw [← hj] at hs hle ⊢
 have hge:∀ y ∈ l.drop j,lt y x=false:=fun y hy=>by
  obtain ⟨i,hi,e⟩:=bB hy
  rw [List.getElem_drop] at e
  rw [List.length_drop] at hi
  exact h.asym _ _ (hs.1 (j+i) y (by omega) (by omega) (by rw [aD (by omega),e]))
 have hlt:∀ y ∈ l.take j,lt x y=false:=fun y hy=>by
  obtain ⟨i,hi,e⟩:=bB hy
  rw [List.getElem_take] at e
  rw [bE] at hi
  obtain ⟨m,rfl⟩:∃ m,j=m+1:=⟨j - 1,by omega⟩
  have h0:=hs.2 m l[m] rfl (aD (by omega))
  rcases aH i m with h1 | h1
  ·have:=bJ.1 hl i m (by omega) (by omega) h1
   rw [e] at this
   exact h.trans _ _ _ this h0
  ·obtain rfl:i=m:=by omega
   rw [← e]; exact h0
 refine List.pairwise_append.2 ⟨hl.sublist (List.take_sublist _ _),List.pairwise_cons.2 ⟨hge,hl.sublist (List.drop_sublist _ _)⟩,fun a ha b hb => ?_⟩
 rcases av.1 hb with rfl | hb
 ·exact hlt a ha
 ·have:=List.pairwise_append.1 (by rw [cT]; exact hl:(l.take j++l.drop j).Pairwise fun a b=>lt b a=false)
  exact this.2.2 a ha b hb
theorem jJ (h:TotB lt) (l:List α):(lQ lt l).Pairwise fun a b=>lt b a=false:=by
 have aux:∀ (l a:List α),a.Pairwise (fun a b=>lt b a=false)→(l.foldl (fun a x=>mY lt x a) a).Pairwise fun a b=>lt b a=false:=by
  intro l
  induction l with
  | nil=>exact fun a ha=>ha
  | cons x l ih=>exact fun a ha=>ih _ (xu h x ha)
 exact aux l [] .nil
end
def gT (a b:K):Bool:=if a.tr≠b.tr then decide (b.tr < a.tr) else if a.suf≠b.suf then decide (a.suf < b.suf) else decide (a.val < b.val)
theorem gi {a b:K}:gT b a=false↔b.tr < a.tr∨b.tr=a.tr∧(a.suf < b.suf∨a.suf=b.suf∧¬ b.val < a.val):=by
 unfold gT
 by_cases h:b.tr=a.tr
 ·rw [if_neg (by simpa using h)]
  by_cases h2:b.suf=a.suf
  ·rw [if_neg (by simpa using h2)]
   simp only [decide_eq_false_iff_not]
   constructor
   ·intro h3; exact .inr ⟨h,.inr ⟨h2.symm,h3⟩⟩
   ·rintro (h3 | ⟨_,h3 | ⟨_,h3⟩⟩)
    ·omega
    ·rw [h2] at h3; exact absurd h3 (bQ _)
    ·exact h3
  ·rw [if_pos h2]
   simp only [decide_eq_false_iff_not]
   constructor
   ·intro h3
    rcases gV a.suf b.suf with h4 | h4 | h4
    ·exact .inr ⟨h,.inl h4⟩
    ·exact absurd h4.symm h2
    ·exact absurd h4 h3
   ·rintro (h3 | ⟨_,h3 | ⟨h3,_⟩⟩)
    ·omega
    ·exact iw h3
    ·exact absurd h3.symm h2
 ·rw [if_pos h]
  simp only [decide_eq_false_iff_not]
  omega
theorem pj:TotB gT where
 asym a b h:=by
  rw [gi]
  have:¬ gT a b=false:=by rw [h]; simp
  rw [gi] at this
  rcases dE b.tr a.tr with h1 | h1 | h1
  ·exact .inl h1
  ·refine .inr ⟨h1,?_⟩
   rcases gV a.suf b.suf with h2 | h2 | h2
   ·exact .inl h2
   ·refine .inr ⟨h2,fun h3=>this (.inr ⟨h1.symm,.inr ⟨h2.symm,iw h3⟩⟩)⟩
   ·exact absurd (.inr ⟨h1.symm,.inl h2⟩) this
  ·exact absurd (.inl h1) this
 trans a b c h1 h2:=by
  rw [gi] at h1 h2 ⊢
  rcases h1 with h1 | ⟨h1,h1'⟩
  ·rcases h2 with h2 | ⟨h2,_⟩
   ·exact .inl (by omega)
   ·exact .inl (by omega)
  ·rcases h2 with h2 | ⟨h2,h2'⟩
   ·exact .inl (by omega)
   ·refine .inr ⟨by omega,?_⟩
    rcases h1' with h3 | ⟨h3,h4⟩
    ·rcases h2' with h5 | ⟨h5,_⟩
     ·exact .inl (List.lt_trans h3 h5)
     ·rw [← h5]; exact .inl h3
    ·rcases h2' with h5 | ⟨h5,h6⟩
     ·rw [h3]; exact .inl h5
     ·exact .inr ⟨h3.trans h5,fun h7=>h4 (fQ h6 h7)⟩
def dy (ks:List K):List K:=lQ gT ks
theorem eh (ks:List K):(dy ks).Perm ks:=kt ks
theorem xw (ks:List K):(dy ks).Pairwise fun a b=>b.tr≤a.tr:=by
 refine (jJ pj ks).imp fun {a b} h => ?_
 rcases gi.1 h with h | ⟨h,_⟩ <;> omega
def FD (x y:Bytes):Bool:=decide (¬ y < x)
def jW (b:List Bytes) (x:Bytes):List Bytes:=if b[gI FD x b b.length]? = some x then b else mY FD x b
def cN (l:List Sp):List Bytes:=l.foldl (fun b s=>jW (jW b s.s) s.e) []
theorem ub {b:List Bytes} (hb:b.Pairwise (· < ·)) (x:Bytes):(jW b x).Pairwise (· < ·)∧∀ y,y ∈ jW b x↔y=x∨y ∈ b:=by
 have hs:=sC (lt:=FD) x b (aF _)
 have hle:=xq (lt:=FD) x b b.length
 unfold jW
 split
 ·rename_i he
  exact ⟨hb,fun y=>⟨.inr,fun h=>h.elim (fun h=>h ▸ aO he) id⟩⟩
 ·rename_i he
  refine ⟨?_,fun y=>by rw [(ph x b).mem_iff,av]⟩
  unfold mY
  obtain ⟨j,hj⟩:∃ j,j=gI FD x b b.length:=⟨_,rfl⟩
  rw [← hj] at hs hle he ⊢
  have hp:=bJ.1 hb
  have hge:∀ y ∈ b.drop j,x < y:=fun y hy=>by
   obtain ⟨i,hi,e⟩:=bB hy
   rw [List.getElem_drop] at e
   rw [List.length_drop] at hi
   have h1:=hs.1 (j+i) y (by omega) (by omega) (by rw [aD (by omega),e])
   have h1:¬ y < x:=of_decide_eq_true h1
   rcases gV x y with h2 | h2 | h2
   ·exact h2
   ·exfalso
    have hj0:j < b.length:=by omega
    have h3:=hs.1 j b[j] (aF _) hj0 (aD hj0)
    have h3:¬ b[j] < x:=of_decide_eq_true h3
    rcases bt i with rfl | hi0
    ·exact he (by rw [aD hj0,h2,← e]; simp)
    ·have:=hp j (j+i) hj0 (by omega) (by omega)
     rw [e,← h2] at this
     exact h3 this
   ·exact absurd h2 h1
  have hlt:∀ y ∈ b.take j,y < x:=fun y hy=>by
   obtain ⟨i,hi,e⟩:=bB hy
   rw [List.getElem_take] at e
   rw [bE] at hi
   obtain ⟨m,rfl⟩:∃ m,j=m+1:=⟨j - 1,by omega⟩
   have h0:=hs.2 m b[m] rfl (aD (by omega))
   have h0:b[m] < x:=by
    have:=of_decide_eq_false h0
    exact Classical.byContradiction fun h=>this h
   rcases aH i m with h1 | h1
   ·have:=hp i m (by omega) (by omega) h1
    rw [e] at this
    exact List.lt_trans this h0
   ·obtain rfl:i=m:=by omega
    rw [← e]; exact h0
  refine List.pairwise_append.2 ⟨hb.sublist (List.take_sublist _ _),List.pairwise_cons.2 ⟨hge,hb.sublist (List.drop_sublist _ _)⟩,fun a ha c hc => ?_⟩
  rcases av.1 hc with rfl | hc
  ·exact hlt a ha
  ·exact List.lt_trans (hlt a ha) (hge c hc)
theorem ku (l:List Sp):(cN l).Pairwise (· < ·)∧∀ y,y ∈ cN l↔∃ s ∈ l,y=s.s∨y=s.e:=by
 have aux:∀ (l:List Sp) (b:List Bytes),b.Pairwise (· < ·)→(l.foldl (fun b s=>jW (jW b s.s) s.e) b).Pairwise (· < ·)∧∀ y,y ∈ l.foldl (fun b s=>jW (jW b s.s) s.e) b↔y ∈ b∨∃ s ∈ l,y=s.s∨y=s.e:=by
  intro l
  induction l with
  | nil=>exact fun b hb=>⟨hb,fun y=>by simp⟩
  | cons s l ih =>
   intro b hb
   have h1:=ub hb s.s
   have h2:=ub h1.1 s.e
   obtain ⟨a,c⟩:=ih _ h2.1
   refine ⟨a,fun y => ?_⟩
   rw [List.foldl_cons,c,h2.2,h1.2]
   constructor
   ·rintro ((h | h | h) | ⟨t,ht,h⟩)
    ·exact .inr ⟨s,aK,.inr h⟩
    ·exact .inr ⟨s,aK,.inl h⟩
    ·exact .inl h
    ·exact .inr ⟨t,aW _ ht,h⟩
   ·rintro (h | ⟨t,ht,h⟩)
    ·exact .inl (.inr (.inr h))
    ·rcases av.1 ht with rfl | ht
     ·rcases h with h | h
      ·exact .inl (.inr (.inl h))
      ·exact .inl (.inl h)
     ·exact .inr ⟨t,ht,h⟩
 obtain ⟨a,c⟩:=aux l [] .nil
 exact ⟨a,fun y=>by show y ∈ l.foldl _ []↔_; rw [c]; simp⟩
theorem AY {L:List Sp} {x:Bytes}:(∃ p,p < 2 * L.length∧iA L p=x)↔∃ s ∈ L,x=s.s∨x=s.e:=by
 constructor
 ·rintro ⟨p,hp,rfl⟩
  refine ⟨L[p / 2]!,by rw [aI L (p / 2) (by omega)]; exact an _,?_⟩
  unfold iA
  split
  ·exact .inl rfl
  ·exact .inr rfl
 ·rintro ⟨s,hs,h⟩
  obtain ⟨j,hj,rfl⟩:=bB hs
  rcases h with rfl | rfl
  ·exact ⟨2 * j,by omega,by unfold iA; rw [if_pos (by omega),show 2 * j / 2=j by omega,aI L j hj]⟩
  ·exact ⟨2 * j+1,by omega,by unfold iA; rw [if_neg (by omega),show (2 * j+1) / 2=j by omega,aI L j hj]⟩
def fR (Lv:List (List Sp)):Nat→List Sp:=fun i=>Lv[i]!
theorem kz {Lv:List (List Sp)} (h:∀ L ∈ Lv,Wf L):Bds Lv.length (fR Lv) (cN Lv.flatten) where
 wf i hi:=by unfold fR; rw [aI Lv i hi]; exact h _ (an hi)
 sorted:=(ku _).1
 mem x:=by
  rw [(ku _).2]
  constructor
  ·rintro ⟨s,hs,h1⟩
   obtain ⟨L,hL,hs⟩:=du.1 hs
   obtain ⟨i,hi,rfl⟩:=bB hL
   exact ⟨i,hi,AY.2 ⟨s,by unfold fR; rw [aI Lv i hi]; exact hs,h1⟩⟩
  ·rintro ⟨i,hi,h1⟩
   obtain ⟨s,hs,h1⟩:=AY.1 h1
   unfold fR at hs
   rw [aI Lv i hi] at hs
   exact ⟨s,du.2 ⟨_,an hi,hs⟩,h1⟩
def cn (l:List Sp) (s e:Bytes):List K:=l.flatMap fun x=>if ¬ s < x.s∧¬ x.e < e then x.ks else []
def fy (l:List Sp) (b:List Bytes) (i:Nat):List Sp:=if cn l b[i]! b[i+1]! = [] then [] else [⟨b[i]!,b[i+1]!,dy (cn l b[i]! b[i+1]!)⟩]
def df (l:List Sp):List Sp:=(List.range ((cN l).length - 1)).flatMap (fy l (cN l))
section
variable {n:Nat} {L:Nat→List Sp} {B:List Bytes}
theorem B8 (h:Bds n L B) {i u:Nat} (hi:i < n) (hu:u+1 < B.length) {j:Nat} (hj:j < (L i).length):(¬ B[u]! < (L i)[j]!.s∧¬ (L i)[j]!.e < B[u+1]!)↔cp L B (u+1) i=2 * j+1:=by
 have b0:iA (L i) (2 * j)=(L i)[j]!.s:=by unfold iA; rw [if_pos (by omega),show 2 * j / 2=j by omega]
 have b1:iA (L i) (2 * j+1)=(L i)[j]!.e:=by unfold iA; rw [if_neg (by omega),show (2 * j+1) / 2=j by omega]
 obtain ⟨x,hx,e0⟩:=h.at (p:=2 * j) hi (by omega)
 obtain ⟨y,hy,e1⟩:=h.at (p:=2 * j+1) hi (by omega)
 have c0:=iC h (t:=u+1) (by omega) hi (by omega:2 * j < 2 * (L i).length) hx e0
 have c1:=iC h (t:=u+1) (by omega) hi (by omega:2 * j+1 < 2 * (L i).length) hy e1
 rw [← b0,← b1,← e0,← e1,h.lt (by omega) hx,h.lt hy (by omega)]
 omega
theorem xy (h:Bds n L B) {i u:Nat} (hi:i < n) (hu:u+1 < B.length):cn (L i) B[u]! B[u+1]! = if cp L B (u+1) i % 2=1 then (L i)[cp L B (u+1) i / 2]!.ks else []:=by
 obtain ⟨c,hc⟩:∃ c,c=cp L B (u+1) i:=⟨_,rfl⟩
 have hle:=jw (L:=L) (B:=B) (u+1) i
 rw [← hc] at hle ⊢
 have key:∀ (A:List Sp) (o:Nat),(∀ j,j < A.length→o+j < (L i).length∧A[j]! = (L i)[o+j]!)→cn A B[u]! B[u+1]! = if c % 2=1∧o≤c / 2∧c / 2 < o+A.length then (L i)[c / 2]!.ks else []:=by
  intro A
  induction A with
  | nil =>
   intro o _
   rw [if_neg (by simp only [List.length_nil]; omega)]
   rfl
  | cons x A ih =>
   intro o hA
   have h0:=hA 0 (by simp)
   have hx:x=(L i)[o]! := by simpa using h0.2
   have ih:=ih (o+1) fun j hj=>by
    have:=hA (j+1) (by simp only [aZ]; omega)
    rw [show o+(j+1)=o+1+j by omega] at this
    refine ⟨this.1,?_⟩
    rw [← this.2,aI A j hj,aI (x :: A) (j+1) (by simp only [aZ]; omega)]
    rfl
   show (if ¬ B[u]! < x.s∧¬ x.e < B[u+1]! then x.ks else [])++cn A B[u]! B[u+1]! = _
   rw [ih,hx]
   have hc1:=B8 h hi hu (j:=o) (by omega)
   rw [← hc] at hc1
   by_cases hco:c=2 * o+1
   ·rw [if_pos (hc1.2 hco),if_neg (by omega),if_pos (by simp only [aZ]; omega),ao,show c / 2=o by omega]
   ·rw [if_neg (fun h=>hco (hc1.1 h)),List.nil_append]
    by_cases h5:c % 2=1∧o+1≤c / 2∧c / 2 < o+1+A.length
    ·rw [if_pos h5,if_pos (by simp only [aZ]; omega)]
    ·rw [if_neg h5,if_neg (by simp only [aZ]; omega)]
 have:=key (L i) 0 fun j hj=>⟨by omega,by rw [Nat.zero_add]⟩
 rw [this]
 by_cases h5:c % 2=1
 ·rw [if_pos (by omega),if_pos h5]
 ·rw [if_neg (by omega),if_neg h5]
end
theorem B9 {Lv:List (List Sp)} (h:∀ L ∈ Lv,Wf L) {u:Nat} (hu:u+1 < (cN Lv.flatten).length):cn Lv.flatten (cN Lv.flatten)[u]! (cN Lv.flatten)[u+1]! = cy Lv.length (fR Lv) (cN Lv.flatten) (u+1):=by
 have hB:=kz h
 obtain ⟨B,hBe⟩:∃ B,B=cN Lv.flatten:=⟨_,rfl⟩
 rw [← hBe] at hB hu ⊢
 have e:cy Lv.length (fR Lv) B (u+1)=(List.range Lv.length).flatMap fun i=>cn (fR Lv i) B[u]! B[u+1]! := by
  unfold cy
  refine kF fun i hi => ?_
  rw [List.mem_range] at hi
  exact (xy hB hi hu).symm
 rw [e]
 have key:∀ (A:List (List Sp)) (o:Nat),(∀ j,j < A.length→A[j]! = fR Lv (o+j))→cn A.flatten B[u]! B[u+1]! = (List.range A.length).flatMap fun i=>cn (fR Lv (o+i)) B[u]! B[u+1]! := by
  intro A
  induction A with
  | nil=>intro o _; rfl
  | cons x A ih =>
   intro o hA
   have h0:=hA 0 (by simp)
   have hx:x=fR Lv o:=by simpa using h0
   rw [List.flatten_cons,aZ,List.range_succ_eq_map,ae,List.flatMap_map]
   have:cn (x++A.flatten) B[u]! B[u+1]! = cn x B[u]! B[u+1]! ++ cn A.flatten B[u]! B[u+1]! := by unfold cn; rw [ay]
   rw [this,ih (o+1) fun j hj=>by
    have:=hA (j+1) (by simp only [aZ]; omega)
    rw [show o+(j+1)=o+1+j by omega] at this
    rw [← this,aI A j hj,aI (x :: A) (j+1) (by simp only [aZ]; omega)]
    rfl,hx]
   congr 1
   refine kF fun i _ => ?_
   rw [show o+1+i=o+(i+1) by omega]
 have:=key Lv 0 fun j _=>by rw [Nat.zero_add]; rfl
 rw [this]
 refine kF fun i _ => ?_
 rw [Nat.zero_add]
theorem sE {Lv:List (List Sp)} (h:∀ L ∈ Lv,Wf L) (hf:∀ L ∈ Lv,∀ s ∈ L,s.ks≠[]):df Lv.flatten=(eK Lv.length (fR Lv) (cN Lv.flatten)).map fun u=>⟨(cN Lv.flatten)[u - 1]!,(cN Lv.flatten)[u]!,dy (cy Lv.length (fR Lv) (cN Lv.flatten) u)⟩:=by
 have hB:=kz h
 obtain ⟨B,hBe⟩:∃ B,B=cN Lv.flatten:=⟨_,rfl⟩
 have hc:=fun {u:Nat} (hu:u+1 < B.length)=>(by rw [hBe] at hu ⊢; exact B9 h hu:cn Lv.flatten B[u]! B[u+1]! = cy Lv.length (fR Lv) B (u+1))
 unfold df
 rw [← hBe] at hB ⊢
 have hk:∀ u,u+1 < B.length→(cn Lv.flatten B[u]! B[u+1]! = []↔tE Lv.length (fR Lv) B (u+1)=false):=fun u hu=>by
  rw [hc hu]
  have:tE Lv.length (fR Lv) B (u+1)=true↔cy Lv.length (fR Lv) B (u+1)≠[]:=by
   rw [oR]
   constructor
   ·rintro ⟨i,hi,h1⟩ h0
    unfold cy at h0
    have:=List.flatMap_eq_nil_iff.1 h0 i (List.mem_range.2 hi)
    rw [if_pos h1] at this
    have hl:cp (fR Lv) B (u+1) i / 2 < (fR Lv i).length:=by have:=jw (L:=fR Lv) (B:=B) (u+1) i; omega
    rw [aI (fR Lv i) _ hl] at this
    refine hf _ ?_ _ (an hl) this
    unfold fR
    rw [aI Lv i hi]
    exact an hi
   ·intro h0
    refine Classical.byContradiction fun hn=>h0 ?_
    unfold cy
    refine List.flatMap_eq_nil_iff.2 fun i hi => ?_
    rw [if_neg fun h1=>hn ⟨i,List.mem_range.1 hi,h1⟩]
  rw [← Bool.not_eq_true,this,Decidable.not_not]
 have hcov:eK Lv.length (fR Lv) B=(List.range (B.length - 1)).filterMap fun u=>if tE Lv.length (fR Lv) B (u+1) then some (u+1) else none:=by
  have e0:tE Lv.length (fR Lv) B 0=false:=by
   cases h0:tE Lv.length (fR Lv) B 0 with
   | false=>rfl
   | true=>exact absurd (rh hB (aT _) h0).1 (iW 0)
  have e1:tE Lv.length (fR Lv) B B.length=false:=by
   cases h0:tE Lv.length (fR Lv) B B.length with
   | false=>rfl
   | true=>exact absurd (rh hB (aF _) h0).2 (iW _)
  unfold eK
  cases hl:B.length with
  | zero=>simp [e0]
  | succ m =>
   rw [hl] at e1
   rw [List.range_succ,List.filter_append,List.filter_cons_of_neg (by rw [e1]; simp),List.filter_nil,ao,List.range_succ_eq_map,List.filter_cons_of_neg (by rw [e0]; simp),Nat.add_sub_cancel]
   rw [List.filter_map,← List.filterMap_eq_filter,List.map_filterMap]
   refine EP fun u _ => ?_
   simp only [Function.comp,Option.guard]
   split <;> rfl
 rw [hcov,List.map_filterMap]
 have hr:∀ m,m≤B.length - 1→(List.range m).flatMap (fy Lv.flatten B)=(List.range m).filterMap fun x=>(if tE Lv.length (fR Lv) B (x+1) then some (x+1) else none).map fun u=>(⟨B[u - 1]!,B[u]!,dy (cy Lv.length (fR Lv) B u)⟩:Sp):=by
  intro m
  induction m with
  | zero=>intro _; rfl
  | succ m ih =>
   intro hm
   rw [List.range_succ,ay,List.filterMap_append,ih (by omega)]
   congr 1
   have hu:m+1 < B.length:=by omega
   have:=hk m hu
   rw [ae,List.flatMap_nil,ao]
   unfold fy
   cases hcv:tE Lv.length (fR Lv) B (m+1) with
   | false=>rw [if_pos (this.2 hcv)]; simp [hcv]
   | true =>
    rw [if_neg (fun h=>by rw [this.1 h] at hcv; cases hcv),hc hu]
    simp [hcv]
 exact hr _ (aF _)
end Go.E
end
