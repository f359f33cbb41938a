/- Parts of the proof: Oe, Wa, Wb, Wd, Ux. -/
import Derived.Test.YtlmoafgebiffaaaGreatDoorV10
import Derived.Test.YtlmoafgebiffaaaGreatDoorV14
set_option linter.all false
set_option maxRecDepth 10000
section
namespace Go.Proofs
open Go Go.E Go.Sort Go.Proofs.Tryz
open Go.Lib (uvarint)
section
variable {k:aq} {d w:World}
theorem EG {v:Value} {l:List (Bytes × Bytes)} {g m p r c:Nat} {L:Bytes} (hv:Sl Cm 2 d v l) (hl:l.length≤1000) (hlen:∀ x ∈ l,Hp x) (hinc:cM d w) (ho:cj d g)
    (o:w.ownsRow 0 5 1 (.slice (some ⟨g,0,none⟩) m m) m (eF L)) (hr:(eZ l).length≤r) (hp:p+r≤m) (hrc:r≤c)
    (hk:∀ w2,w2.ownsRow 0 5 1 (.slice (some ⟨g,0,none⟩) m m) m (eF (wr L p (eZ l)))→Keep (fun b _=>b=g) w w2→k (.int .i64 (eZ l).length) w2):ai prog 118 #[.slice (some ⟨g,p,none⟩) r c,v] k w:=by
 obtain ⟨ka,kc,rfl⟩:=hv.form
 have hle:=kp hlen
 refine al [.tmp 4] func118 ?_
 refine bA ?_
 refine bZ (fun b:Nat × Nat=>[(0,.slice (some ⟨g,p,none⟩) r c),(1,.slice ka l.length kc),(5,.int .i64 b.2),(6,.int .i64 b.1)])
  (fun b w'=>b.1≤l.length∧b.2=(eZ (l.take b.1)).length∧w'.ownsRow 0 5 1 (.slice (some ⟨g,0,none⟩) m m) m (eF (wr L p (eZ (l.take b.1))))∧Keep (fun b _=>b=g) w w') (fun b _=>l.length - b.1) (0,0) (by kernel_rfl) ?_ ⟨aT _,rfl,o,Keep.refl _ w⟩ ?_
 ·exact bU
 rintro K2 e ⟨i,n⟩ w1 ⟨i2,i3,i4,i5⟩ hK2
 simp only at i2 i3 i4
 rcases aH i l.length with hi | hi
 rotate_left
 ·have hi':¬ (i:Int) < l.length:=by omega
  refine bu @hi' ?_
  obtain rfl:i=l.length:=by omega
  rw [ag] at i3 i4
  rw [i3]
  exact hk _ i4 i5
 have hi':(i:Int) < l.length:=by omega
 have hj:=hinc.keep i5 (by rintro a b rfl; exact ho b)
 obtain ⟨b,f,c',hv',hc',hat⟩:=((hv.inc Cm.mono hj)).at (by omega)
 obtain ⟨rfl,rfl⟩:ka=some ⟨b,f,none⟩∧kc=c':=by simpa using hv'
 obtain ⟨x,hx⟩:=gEl hi
 have hmem:=aO hx
 obtain ⟨cs,_,hcs,sa,sb,rfl,hA,hB⟩:=hat i x hx
 obtain ⟨a1,c1,rfl⟩:=aY hA
 obtain ⟨a2,c2,rfl⟩:=aY hB
 have hcd:∀ o u,(some u=d.cell? ⟨b,o,none⟩)→b≠g:=fun o u hu he=>by rw [he,ho o] at hu; simp at hu
 obtain ⟨s1,s2⟩:=hlen x hmem
 have p1:=xd (l:=l) (i:=i+1)
 rw [kC hx,aE,jU,← i3] at p1
 obtain ⟨bd,fd,cd,hvd,_,hatd⟩:=hv.at (by omega)
 obtain ⟨⟨rfl,rfl⟩,rfl⟩:(bd=b∧fd=f)∧cd=kc:=by simpa [eq_comm] using hvd
 obtain ⟨csd,_,hcsd,sad,sbd,rfl,hAd,hBd⟩:=hatd i x hx
 obtain ⟨a1d,c1d,rfl⟩:=aY hAd
 obtain ⟨a2d,c2d,rfl⟩:=aY hBd
 have h0:=hcsd 0 _ rfl
 have h1:=hcsd 1 _ rfl
 have q0:w1.cell? ⟨bd,fd+i * 2,none⟩=some (.slice a1d x.1.length c1d):=hj _ _ _ h0
 have q1:w1.cell? ⟨bd,fd+i * 2+1,none⟩=some (.slice a2d x.2.length c2d):=hj _ _ _ h1
 have v1:=fW x.1.length
 have v2:=fW x.2.length
 have l1:n < r:=by omega
 refine bu @hi' ?_
 refine bF (sq [0,1,2,3,4,5,6,7] (.read 8 (sq [9,10] (.eff 11 [] (sq [12,13] .done))))) ?_
 refine eO @q0 @q1 @om @kB ?_
 refine oZ i4.drew (by omega) (by omega) (by omega) fun w2 o2 k2 => ?_
 have k2':=i5.drew.trans k2
 have hj:=hinc.keep k2' (by rintro a b rfl; exact ho b)
 have q0:w2.cell? ⟨bd,fd+i * 2,none⟩=some (.slice a1d x.1.length c1d):=hj _ _ _ h0
 have q1:w2.cell? ⟨bd,fd+i * 2+1,none⟩=some (.slice a2d x.2.length c2d):=hj _ _ _ h1
 refine bu @fX ?_
 obtain ⟨A,hA1,eA⟩:=F0 (g:=g) (p:=p) (n:=n+vl x.1.length) (r:=r) (c:=c) (by omega) (by omega)
 refine bF (sq [0,1,2,3,4,5,6,7] (.read 8 (.eff 9 [] (sq [10,11] .done)))) ?_
 refine dQ @q0 @q1 @eA ?_
 refine Ji o2.drew (hAd.inc hj) (bs:=x.1) (p:=p+n+vl x.1.length) (fun h => ?_) (by omega) (fun _=>by omega) fun w3 o3 k3 => ?_
 ·rw [hA1 (by omega),Nat.add_assoc]
 have k3':=k2'.drew.trans k3
 have hj:=hinc.keep k3' (by rintro a b rfl; exact ho b)
 have q0:w3.cell? ⟨bd,fd+i * 2,none⟩=some (.slice a1d x.1.length c1d):=hj _ _ _ h0
 have q1:w3.cell? ⟨bd,fd+i * 2+1,none⟩=some (.slice a2d x.2.length c2d):=hj _ _ _ h1
 refine bu @fX ?_
 have l3:n+vl x.1.length+x.1.length < r:=by omega
 refine bF (sq [0,1,2,3,4,5,6,7] (.read 8 (sq [9,10] (.eff 11 [] (sq [12,13] .done))))) ?_
 refine eO @q0 @q1 @om @kB ?_
 refine oZ o3.drew (by omega) (by omega) (by omega) fun w4 o4 k4 => ?_
 have k4':=k3'.drew.trans k4
 have hj:=hinc.keep k4' (by rintro a b rfl; exact ho b)
 have q0:w4.cell? ⟨bd,fd+i * 2,none⟩=some (.slice a1d x.1.length c1d):=hj _ _ _ h0
 have q1:w4.cell? ⟨bd,fd+i * 2+1,none⟩=some (.slice a2d x.2.length c2d):=hj _ _ _ h1
 refine bu @fX ?_
 obtain ⟨A2,hA2,eA2⟩:=F0 (g:=g) (p:=p) (n:=n+vl x.1.length+x.1.length+vl x.2.length) (r:=r) (c:=c) (by omega) (by omega)
 refine bF (sq [0,1,2,3,4,5,6,7] (.read 8 (.eff 9 [] (sq [10,11] .done)))) ?_
 refine dQ @q0 @q1 @eA2 ?_
 refine Ji o4.drew (hBd.inc hj) (bs:=x.2) (p:=p+(n+vl x.1.length+x.1.length)+vl x.2.length) (fun h => ?_) (by omega) (fun _=>by omega) fun w5 o5 k5 => ?_
 ·rw [hA2 (by omega),Nat.add_assoc p]
 have k5':=k4'.drew.trans k5
 have e1:IntKind.i64.wrap ((i:Int)+1)=((i+1:Nat):Int):=by rw [dP (by omega) (by omega)]; omega
 refine dO @fX @e1 ?_
 refine hK2 _ _ (i+1,n+vl x.1.length+x.1.length+vl x.2.length+x.2.length) ?_ ⟨hi,?_,?_,k5'⟩ (by simp only; omega)
 ·exact bU
 ·simp only
  rw [kC hx,aE,jU,← i3]; omega
 ·simp only
  rw [kC hx,eR,← i3]
  unfold vg
  rw [eR,eR,eR]
  have a1:(uvarint x.1.length).length=vl x.1.length:=rfl
  have a2:(uvarint x.2.length).length=vl x.2.length:=rfl
  rw [a1,a2]
  have b1:p+n+vl x.1.length+x.1.length=p+(n+vl x.1.length+x.1.length):=by omega
  rw [b1]
  exact o5
theorem EH {v:Value} {l:List Bytes} {g m p r c:Nat} {L:Bytes} (hv:Sl Cn 1 d v l) (hl:l.length≤1000) (hlen:∀ x ∈ l,Hq x) (hinc:cM d w) (ho:cj d g)
    (o:w.ownsRow 0 5 1 (.slice (some ⟨g,0,none⟩) m m) m (eF L)) (hr:(eN l).length≤r) (hp:p+r≤m) (hrc:r≤c)
    (hk:∀ w2,w2.ownsRow 0 5 1 (.slice (some ⟨g,0,none⟩) m m) m (eF (wr L p (eN l)))→Keep (fun b _=>b=g) w w2→k (.int .i64 (eN l).length) w2):ai prog 120 #[.slice (some ⟨g,p,none⟩) r c,v] k w:=by
 obtain ⟨ka,kc,rfl⟩:=hv.form
 have hle:=kq hlen
 refine al [.tmp 4] func120 ?_
 refine bA ?_
 refine bZ (fun b:Nat × Nat=>[(0,.slice (some ⟨g,p,none⟩) r c),(1,.slice ka l.length kc),(5,.int .i64 b.2),(6,.int .i64 b.1)])
  (fun b w'=>b.1≤l.length∧b.2=(eN (l.take b.1)).length∧w'.ownsRow 0 5 1 (.slice (some ⟨g,0,none⟩) m m) m (eF (wr L p (eN (l.take b.1))))∧Keep (fun b _=>b=g) w w') (fun b _=>l.length - b.1) (0,0) (by kernel_rfl) ?_ ⟨aT _,rfl,o,Keep.refl _ w⟩ ?_
 ·exact bU
 rintro K2 e ⟨i,n⟩ w1 ⟨i2,i3,i4,i5⟩ hK2
 simp only at i2 i3 i4
 rcases aH i l.length with hi | hi
 rotate_left
 ·have hi':¬ (i:Int) < l.length:=by omega
  refine bu @hi' ?_
  obtain rfl:i=l.length:=by omega
  rw [ag] at i3 i4
  rw [i3]
  exact hk _ i4 i5
 have hi':(i:Int) < l.length:=by omega
 have hj:=hinc.keep i5 (by rintro a b rfl; exact ho b)
 obtain ⟨b,f,c',hv',hc',hat⟩:=((hv.inc Cn.mono hj)).at (by omega)
 obtain ⟨rfl,rfl⟩:ka=some ⟨b,f,none⟩∧kc=c':=by simpa using hv'
 obtain ⟨x,hx⟩:=gEl hi
 have hmem:=aO hx
 have s1:x.length≤1048576:=hlen x hmem
 have p1:=xg (l:=l) (i:=i+1)
 rw [kE hx,aE,jV,← i3] at p1
 obtain ⟨bd,fd,cd,hvd,_,hatd⟩:=hv.at (by omega)
 obtain ⟨⟨rfl,rfl⟩,rfl⟩:(bd=b∧fd=f)∧cd=kc:=by simpa [eq_comm] using hvd
 obtain ⟨csd,_,hcsd,sad,rfl,hAd⟩:=hatd i x hx
 obtain ⟨a1d,c1d,rfl⟩:=aY hAd
 have h0:=hcsd 0 _ rfl
 rw [Nat.mul_one] at h0
 have q0:w1.cell? ⟨bd,fd+i,none⟩=some (.slice a1d x.length c1d):=hj _ _ _ h0
 have v1:=fW x.length
 have l1:n < r:=by omega
 refine bu @hi' ?_
 refine bF (sq [0,1,2,3,4,5,6] (.read 7 (sq [8,9] (.eff 10 [] (sq [11,12] .done))))) ?_
 refine eO @q0 @om @kB @Nat.mul_one ?_
 refine oZ i4.drew (by omega) (by omega) (by omega) fun w2 o2 k2 => ?_
 have k2':=i5.drew.trans k2
 have hj:=hinc.keep k2' (by rintro a b rfl; exact ho b)
 have q0:w2.cell? ⟨bd,fd+i,none⟩=some (.slice a1d x.length c1d):=hj _ _ _ h0
 refine bu @fX ?_
 obtain ⟨A,hA1,eA⟩:=F0 (g:=g) (p:=p) (n:=n+vl x.length) (r:=r) (c:=c) (by omega) (by omega)
 refine bF (sq [0,1,2,3,4,5,6] (.read 7 (.eff 8 [] (sq [9,10] .done)))) ?_
 refine dQ @q0 @eA @Nat.mul_one ?_
 refine Ji o2.drew (hAd.inc hj) (bs:=x) (p:=p+n+vl x.length) (fun h => ?_) (by omega) (fun _=>by omega) fun w3 o3 k3 => ?_
 ·rw [hA1 (by omega),Nat.add_assoc]
 have k3':=k2'.drew.trans k3
 have e1:IntKind.i64.wrap ((i:Int)+1)=((i+1:Nat):Int):=by rw [dP (by omega) (by omega)]; omega
 refine dO @fX @e1 ?_
 refine hK2 _ _ (i+1,n+vl x.length+x.length) ?_ ⟨hi,?_,?_,k3'⟩ (by simp only; omega)
 ·exact bU
 ·simp only
  rw [kE hx,aE,jV,← i3]; omega
 ·simp only
  rw [kE hx,eR,← i3]
  unfold vh
  rw [eR]
  have a1:(uvarint x.length).length=vl x.length:=rfl
  rw [a1]
  exact o3
theorem zV {v ve:Value} {l:List (Bytes × Bytes)} {en:Bytes} (he:dR d ve en) (hen:en.length≤1048576) (hv:Sl Cm 2 d v l) (hl:l.length≤1000) (hlen:∀ x ∈ l,Hp x) (hinc:cM d w)
    (hk:k (.int .i64 (uvarint en.length++(en++eZ l)).length) w):ai prog 104 #[ve,v] k w:=by
 obtain ⟨a,c,rfl⟩:=aY he
 obtain ⟨ka,kc,hf⟩:=hv.form
 subst hf
 have hle:=kp hlen
 have hvl:=jT (x:=en.length) (by omega)
 have e:(uvarint en.length++(en++eZ l)).length=vl en.length+en.length+(eZ l).length:=by unfold vl; simp only [aE]; omega
 rw [e] at hk
 refine al [.tmp 4] func104 ?_
 refine bA ?_
 refine gQ (by omega) ?_
 refine bu @fX ?_
 refine EE hv hl hlen hinc ?_
 refine bu @fX ?_
 exact hk
theorem vi {v ve:Value} {l:List Bytes} {en:Bytes} (he:dR d ve en) (hen:en.length≤1048576) (hv:Sl Cn 1 d v l) (hl:l.length≤1000) (hlen:∀ x ∈ l,Hq x) (hinc:cM d w)
    (hk:k (.int .i64 (uvarint en.length++(en++eN l)).length) w):ai prog 106 #[ve,v] k w:=by
 obtain ⟨a,c,rfl⟩:=aY he
 obtain ⟨ka,kc,hf⟩:=hv.form
 subst hf
 have hle:=kq hlen
 have hvl:=jT (x:=en.length) (by omega)
 have e:(uvarint en.length++(en++eN l)).length=vl en.length+en.length+(eN l).length:=by unfold vl; simp only [aE]; omega
 rw [e] at hk
 refine al [.tmp 4] func106 ?_
 refine bA ?_
 refine gQ (by omega) ?_
 refine bu @fX ?_
 refine EF hv hl hlen hinc ?_
 refine bu @fX ?_
 exact hk
theorem zX {v ve:Value} {l:List (Bytes × Bytes)} {en:Bytes} {g m r c:Nat} {L:Bytes} (he:dR d ve en) (hen:en.length≤1048576) (hv:Sl Cm 2 d v l) (hl:l.length≤1000) (hne:l≠[]) (hlen:∀ x ∈ l,Hp x) (hinc:cM d w) (ho:cj d g)
    (o:w.ownsRow 0 5 1 (.slice (some ⟨g,0,none⟩) m m) m (eF L)) (hr:(uvarint en.length++(en++eZ l)).length≤r) (hp:r≤m) (hrc:r≤c)
    (hk:∀ x w2,w2.ownsRow 0 5 1 (.slice (some ⟨g,0,none⟩) m m) m (eF (wr L 0 (uvarint en.length++(en++eZ l))))→Keep (fun b _=>b=g) w w2→k x w2):ai prog 105 #[.slice (some ⟨g,0,none⟩) r c,ve,v] k w:=by
 obtain ⟨a,c2,rfl⟩:=aY he
 obtain ⟨ka,kc,hf⟩:=hv.form
 subst hf
 have hle:=kp hlen
 have hvl:=jT (x:=en.length) (by omega)
 have e:(uvarint en.length++(en++eZ l)).length=vl en.length+en.length+(eZ l).length:=by unfold vl; simp only [aE]; omega
 have epos:0 < (eZ l).length:=by
  obtain ⟨x,l2,rfl⟩:=List.exists_cons_of_ne_nil hne
  unfold eZ
  rw [ae,aE,jU]
  have:=fW x.1.length
  omega
 rw [e] at hr
 have v1:=fW en.length
 refine al [.tmp 6] func105 ?_
 refine bu @kB ?_
 refine oZ o (by omega) (by omega) (by omega) fun w2 o2 k2 => ?_
 have hj:=hinc.keep k2 (by rintro a b rfl; exact ho b)
 have l1:vl en.length < r:=by omega
 refine dO @om @Nat.zero_add ?_
 refine Ji o2 (he.inc hj) (bs:=en) (p:=vl en.length) (fun _=>rfl) (by omega) (fun _=>by omega) fun w3 o3 k3 => ?_
 have k3':=k2.trans k3
 have hj:=hinc.keep k3' (by rintro a b rfl; exact ho b)
 have l3:vl en.length+en.length < r:=by omega
 refine dQ @fX @om @Nat.zero_add ?_
 refine EG (p:=vl en.length+en.length) hv hl hlen hj ho o3 (by omega) (by omega) (by omega) fun w4 o4 k4 => ?_
 have k4':=k3'.trans k4
 refine bu @fX ?_
 refine hk _ _ ?_ k4'
 rw [eR,eR,Nat.zero_add]
 exact o4
theorem vj {v ve:Value} {l:List Bytes} {en:Bytes} {g m r c:Nat} {L:Bytes} (he:dR d ve en) (hen:en.length≤1048576) (hv:Sl Cn 1 d v l) (hl:l.length≤1000) (hne:l≠[]) (hlen:∀ x ∈ l,Hq x) (hinc:cM d w) (ho:cj d g)
    (o:w.ownsRow 0 5 1 (.slice (some ⟨g,0,none⟩) m m) m (eF L)) (hr:(uvarint en.length++(en++eN l)).length≤r) (hp:r≤m) (hrc:r≤c)
    (hk:∀ x w2,w2.ownsRow 0 5 1 (.slice (some ⟨g,0,none⟩) m m) m (eF (wr L 0 (uvarint en.length++(en++eN l))))→Keep (fun b _=>b=g) w w2→k x w2):ai prog 107 #[.slice (some ⟨g,0,none⟩) r c,ve,v] k w:=by
 obtain ⟨a,c2,rfl⟩:=aY he
 obtain ⟨ka,kc,hf⟩:=hv.form
 subst hf
 have hle:=kq hlen
 have hvl:=jT (x:=en.length) (by omega)
 have e:(uvarint en.length++(en++eN l)).length=vl en.length+en.length+(eN l).length:=by unfold vl; simp only [aE]; omega
 have epos:0 < (eN l).length:=by
  obtain ⟨x,l2,rfl⟩:=List.exists_cons_of_ne_nil hne
  unfold eN
  rw [ae,aE,jV]
  have:=fW x.length
  omega
 rw [e] at hr
 have v1:=fW en.length
 refine al [.tmp 6] func107 ?_
 refine bu @kB ?_
 refine oZ o (by omega) (by omega) (by omega) fun w2 o2 k2 => ?_
 have hj:=hinc.keep k2 (by rintro a b rfl; exact ho b)
 have l1:vl en.length < r:=by omega
 refine dO @om @Nat.zero_add ?_
 refine Ji o2 (he.inc hj) (bs:=en) (p:=vl en.length) (fun _=>rfl) (by omega) (fun _=>by omega) fun w3 o3 k3 => ?_
 have k3':=k2.trans k3
 have hj:=hinc.keep k3' (by rintro a b rfl; exact ho b)
 have l3:vl en.length+en.length < r:=by omega
 refine dQ @fX @om @Nat.zero_add ?_
 refine EH (p:=vl en.length+en.length) hv hl hlen hj ho o3 (by omega) (by omega) (by omega) fun w4 o4 k4 => ?_
 have k4':=k3'.trans k4
 refine bu @fX ?_
 refine hk _ _ ?_ k4'
 rw [eR,eR,Nat.zero_add]
 exact o4
end
end Go.Proofs
end
section
namespace Go.E
open Go Go.Sort Go.Proofs Go.Proofs.Tryz
def KE:gR K:=fun _ cs x=>cs=[.int .u64 x.tr,str x.suf,str x.val]∧x.tr < 18446744073709551616
theorem KE.mono:gH KE:=fun _ _ _ _ _ h=>h
def dh:gR Sp:=fun w cs x=>∃ v,cs=[str x.s,str x.e,v]∧Sl KE 3 w v x.ks
theorem dh.mono:gH dh:=fun _ _ _ _ hi ⟨v,h1,h2⟩=>⟨v,h1,h2.inc KE.mono hi⟩
theorem aj {w w2:World} {b o:Nat} {v:Value} (h:bp w w2) (hb:w.heap.size≤b):bp w (w2.setCell ⟨b,o,none⟩ v):=Keep.set h fun hb2=>by omega
end Go.E
namespace Go.Proofs
open Go Go.E Go.Sort Go.Proofs.Tryz
section
variable {k:aq} {d w:World}
theorem tV {v:Value} {ks:List K} (hv:fD jt 3 w v ks) (hl:ks.length < 1000000) (hinc:cM d w) (hk:∀ d' w' v',Gr d w d' w'→Sl KE 3 d' v' ks→k v' w'):ai prog 54 #[v] k w:=by
 obtain ⟨ka,kc,rfl⟩:=hv.form
 refine al [.tmp 2] func54 ?_
 refine bA ?_
 refine bZ (fun b:Nat × Value=>[(3,b.2),(6,.slice ka ks.length kc),(7,.int .i64 ks.length),(8,.int .i64 b.1)])
  (fun b w'=>b.1≤ks.length∧LoopL KE 3 91 d w d w' b.2 (ks.take b.1)) (fun b _=>ks.length - b.1) (0,.slice none 0 0) (by kernel_rfl) ?_ ⟨aT _,LoopL.nil hinc⟩ ?_
 ·exact bU
 rintro K2 e ⟨i,v⟩ w1 ⟨i2,i3⟩ hK2
 simp only at i2 i3
 by_cases hi:i < ks.length
 ·have hi':(i:Int) < ks.length:=by omega
  obtain ⟨g,f,c,hv',hc,hat⟩:=(hv.inc jt.mono i3.g.x.inc).at (by omega)
  obtain ⟨rfl,rfl⟩:=sEq hv'
  obtain ⟨x,hx⟩:=gEl hi
  obtain ⟨h1,h2,⟨sv,h3,h4⟩,vv,h5,h6⟩:=hat i x hx
  obtain ⟨sa,sc,rfl⟩:=aY h4
  obtain ⟨va,vc,rfl⟩:=aY h6
  simp (disch:=first | exact dZ | fail) only [go_sem,hi',h1,h3,h5,gL (h4.inc (bp.inc (aJ _))),gL (h6.inc (bp.inc (aJ _)))]
  obtain ⟨w3,hw3⟩:∃ w3,w3=w1.alloc (.cells #[.int .u64 x.tr,.slice sa x.suf.length sc,.slice va x.val.length vc] 117):=⟨_,rfl⟩
  rw [← hw3]
  have i4:=i3.ext KE.mono (w2:=w3) (by rw [hw3]; exact aJ _)
  obtain ⟨css,o4⟩:=i4.o
  refine iL x [.int .u64 x.tr,str x.suf,str x.val] rw35 o4 ⟨rfl,h2⟩ rfl (.inl rfl) (by rw [hw3,World.size_alloc]) rfl (by simp [Value.oneCell',str]) (by rw [dV i2]; omega) i4.g.j fun v2 w2 o2 k2 n2 j2 _ => ?_
  refine bA ?_
  refine hK2 _ _ (i+1,v2) ?_ ⟨hi,?_⟩ (by simp only; omega)
  ·exact bU
  ·rw [bz hx]
   exact i4.more o2 k2 n2 j2
 ·have hi':¬ (i:Int) < ks.length:=by omega
  refine bu @hi' ?_
  obtain rfl:i=ks.length:=by omega
  rw [ag] at i3
  obtain ⟨d2,g2,_,_,s2⟩:=i3.done KE.mono
  exact hk d2 w1 v g2 s2
theorem dB {sv ev kv tv:Value} {x:Sp} (hs:dR w sv x.s) (he:dR w ev x.e) (hv:fD jt 3 w kv x.ks) (ht:∃ n,tv = .int .i8 n) (hl:x.ks.length < 1000000) (hinc:cM d w)
    (hk:∀ d' w' v',Gr d w d' w'→Sl KE 3 d' v' x.ks→k (.agg #[str x.s,str x.e,v']) w'):ai prog 30 #[.agg #[sv,ev,kv,tv]] k w:=by
 obtain ⟨sa,sc,rfl⟩:=aY hs
 obtain ⟨ea,ec,rfl⟩:=aY he
 obtain ⟨ka,kc,rfl⟩:=hv.form
 obtain ⟨tn,rfl⟩:=ht
 have hx:∀ ob ob2,cM w ((w.alloc ob).alloc ob2).drew:=fun ob ob2=>bp.inc (Keep.drew ((aJ ob).trans (aJ ob2)))
 refine al [.cell 2 37] func30 ?_
 refine bA ?_
 refine bF (sq [0] (.read 1 (.read 2 (sq [3] (.read 4 (.read 5 (sq [6] (.read 7 (.eff 8 [1,2,4,5] (sq [9] (.eff 10 [] .done))))))))))) ?_
 simp (disch:=first | exact dZ | fail) only [go_sem,gL (hs.inc (hx _ _)),gL (he.inc (hx _ _))]
 obtain ⟨w1,hw1⟩:∃ w1,w1=((w.alloc (.cells #[.slice sa x.s.length sc,.slice ea x.e.length ec,.slice ka x.ks.length kc,.int .i8 tn] 61)).alloc (.cells #[.string .empty,.string .empty,.slice none 0 0] 37)).drew:=⟨_,rfl⟩
 rw [← hw1]
 have k1:bp w w1:=by rw [hw1]; exact Keep.drew ((aJ _).trans (aJ _))
 have z1:w1.heap.size=w.heap.size+2:=by rw [hw1,World.size_drew,World.size_alloc,World.size_alloc]
 obtain ⟨b,hb⟩:∃ b,b=w.heap.size:=⟨_,rfl⟩
 have a0:w1.cell? ⟨b,0,none⟩=some (.slice sa x.s.length sc):=by rw [hw1,hb]; exact bX @aA
 have a1:w1.cell? ⟨b,1,none⟩=some (.slice ea x.e.length ec):=by rw [hw1,hb]; exact bX @aA
 have a2:w1.cell? ⟨b,2,none⟩=some (.slice ka x.ks.length kc):=by rw [hw1,hb]; exact bX @aA
 have b0:w1.cell? ⟨b+1,0,none⟩=some (.string .empty):=by rw [hw1,hb]; exact bX @aA
 have b1:w1.cell? ⟨b+1,1,none⟩=some (.string .empty):=by rw [hw1,hb]; exact bX @aA
 have b2:w1.cell? ⟨b+1,2,none⟩=some (.slice none 0 0):=by rw [hw1,hb]; exact bX @aA
 have f1:∀ o,w1.frozen? ⟨b+1,o,none⟩=false:=fun o=>by rw [hw1,hb]; simp (disch:=first | exact dZ | fail) only [go_sem]
 rw [← hb]
 refine tV (d:=d) (hv.inc jt.mono k1.inc) hl (hinc.trans k1.inc) fun d2 w2 v2 g2 s2 => ?_
 obtain ⟨va,vc,rfl⟩:=s2.form
 have a0:=g2.x.cell a0
 have a1:=g2.x.cell a1
 have a2:=g2.x.cell a2
 have b0:=g2.x.cell b0
 have b1:=g2.x.cell b1
 have b2:=g2.x.cell b2
 have f2:∀ o,w2.frozen? ⟨b+1,o,none⟩=false:=fun o=>by rw [g2.x.frozen _ o (by omega)]; exact f1 o
 have k2:=k1.trans g2.x
 simp (disch:=first | exact dZ | fail) only [go_sem,gL (hs.inc k2.inc),gL (he.inc k2.inc),a0,a1,a2,b0,b1,b2,f2]
 refine hk d2 _ _ ⟨aj (aj (aj k2 (by omega)) (by omega)) (by omega),g2.i,?_,fun c hc ho=>g2.o c (aL hc k1.size) ho⟩ s2
 have ho:cj d2 (b+1):=g2.o _ (by omega) (hinc.out (by omega))
 exact ((g2.j.set ho).set ho).set ho
end
end Go.Proofs
end
section
namespace Go.E
open Go Go.Sort Go.Proofs Go.Proofs.Tryz
section cuts
variable {N:Nat} {P:Program} {st:List SI} {rs:List ResultVar} {k:aq} {e:de} {w:World}
theorem Gt {a b y:Code} {t:Bool} {id:Nat} {β:Type} (sl:β→List (Nat × Value)) (J:β→World→Prop) (ha:dp N (.block id a)=true) (hb:dp N (.block id b)=true)
    (hx:∀ K:de→World→Prop,(∀ (e:de) w b,gm e (sl b)→J b w→K e w)→rM N P (.bool t) a b (.block id :: .inv K :: st) rs k e w)
    (hy:∀ (e:de) b w,J b w→hZ N P y st rs k (qY e (sl b)) w):rM N P (.bool t) a b (.block id :: .code y :: st) rs k e w:=by
 cases t
 ·rw [jZ,← iH,← lh]
  exact tJ sl J hb (fun K hK=>by have:=hx K hK; rwa [jZ,← iH] at this) hy
 ·rw [kT,← iH,← lh]
  exact tJ sl J ha (fun K hK=>by have:=hx K hK; rwa [kT,← iH] at this) hy
end cuts
def uY (op:Nat) (got:Bool) (last:Nat):Bool :=
 if op=0∨op=1∨op=4∨op=5 then true else if op=2 then got || decide (last=5) || decide (last=3) else if op=3 then got || decide (last=4) || decide (last=2) else false
def mv (V:List Sp) (p:Int) (op:Nat) (key:Bytes):Int :=
 if op=0 then 0 else if op=1 then V.length - 1 else if op=2 then p+1 else if op=3 then p - 1 else if op=4 then qj V key else tQ V key
def Bk (V:List Sp) (p:Int):Bool:=decide (0≤p∧p < V.length)
def pX (V:List Sp):Int→Bool→Nat→List (Nat × Bytes)→List (Option Int)
 | _,_,_,[]=>[]
 | p,got,last,(op,key) :: r=>if uY op got last then some (mv V p op key) :: pX V (mv V p op key) (Bk V (mv V p op key)) op r else none :: pX V p got last r
def Cp:gR (Nat × Bytes):=fun _ cs x=>cs=[.int .u8 x.1,str x.2]∧x.1 < 256
theorem Cp.mono:gH Cp:=fun _ _ _ _ _ h=>h
structure An where
 dn:Bool
 ok:Bool
 sp:Sp
 deriving Inhabited
def zY:gR An:=fun w cs x=>∃ v,cs=[.bool x.dn,.bool x.ok,str x.sp.s,str x.sp.e,v]∧Sl KE 3 w v x.sp.ks
theorem zY.mono:gH zY:=fun _ _ _ _ hi ⟨v,h1,h2⟩=>⟨v,h1,h2.inc KE.mono hi⟩
def mm (V:List Sp) (KS:List K→List K→Prop) (o:Option Int) (a:An):Prop:=match o with
 | none=>a=⟨false,false,⟨[],[],[]⟩⟩
 | some p=>a.dn=true∧a.ok=Bk V p∧(∀ i:Nat,p=i→i < V.length→a.sp.s=V[i]!.s∧a.sp.e=V[i]!.e∧KS a.sp.ks V[i]!.ks)∧(Bk V p=false→a.sp=⟨[],[],[]⟩)
abbrev FB (KS:List K→Prop):List K→List K→Prop:=fun a b=>a.map K.sv=b.map K.sv∧KS a
def Kt (V:List Sp) (KS:List K→List K→Prop) (w:World) (v:Value) (p:Int):Prop :=
 (∀ i:Nat,p=i→i < V.length→∃ ord b o x,v = .pointer (some ⟨b,o,none⟩)∧fE ord w b o x∧x.s=V[i]!.s∧x.e=V[i]!.e∧KS x.ks V[i]!.ks)∧(¬ (0≤p∧p < V.length)→v = .pointer none)
def WK (V:List Sp) (KS:List K→List K→Prop) (R:World→(Nat→Prop)→Int→Prop) (w:World) (N:Nat→Prop) (p:Int) (k:aq):Prop :=
 ∀ w2 N2 v,R w2 N2 p→(∀ b,N2 b→N b∨w.heap.size≤b)→Keep (fun b _=>N b) w w2→Kt V KS w2 v p→k v w2
structure WI (recv:Value) (d:World) (V:List Sp) (pF pL:Prop) (pK:Bytes→Prop) (KS:List K→List K→Prop) (R:World→(Nat→Prop)→Int→Prop):Prop where
 small:∀ i ks,i < V.length→KS ks V[i]!.ks→ks.length < 1000000
 lt:∀ {w N p},R w N p→∀ b,N b→b < w.heap.size∧cj d b
 inc:∀ {w N p},R w N p→cM d w
 keep:∀ {w w2 N p M},R w N p→Keep M w w2→(∀ b x,b < w.heap.size→M b x→¬ N b∧cj d b)→R w2 N p
 first : ∀ {w N p k}, R w N p → pF → WK V KS R w N 0 k → cQ prog recv "First" #[] k w
 last : ∀ {w N p k}, R w N p → pL → WK V KS R w N (V.length - 1) k → cQ prog recv "Last" #[] k w
 next : ∀ {w N p k}, R w N p → -1 ≤ p → p < V.length → WK V KS R w N (p + 1) k → cQ prog recv "Next" #[] k w
 prev : ∀ {w N p k}, R w N p → pL → -1 < p → p ≤ V.length → WK V KS R w N (p - 1) k → cQ prog recv "Prev" #[] k w
 seekGE : ∀ {w N p k kv key}, R w N p → pK key → dR w kv key → JW kv (fun b => ¬ N b) → WK V KS R w N (qj V key) k → cQ prog recv "SeekGE" #[kv] k w
 seekLT : ∀ {w N p k kv key}, R w N p → pK key → dR w kv key → JW kv (fun b => ¬ N b) → WK V KS R w N (tQ V key) k → cQ prog recv "SeekLT" #[kv] k w
def Pw {α β:Type} (R:α→β→Prop) (l:List α) (m:List β):Prop:=l.length=m.length∧∀ (i:Nat) (x:α) (y:β),l[i]? = some x→m[i]? = some y→R x y
theorem Pw.snoc {α β:Type} {R:α→β→Prop} {l:List α} {m:List β} {x:α} {y:β} (h:Pw R l m) (hx:R x y):Pw R (l++[x]) (m++[y]):=by
 refine ⟨by simp [h.1],fun i a b ha hb => ?_⟩
 have hl:=(aQ.1 ha).1
 rw [aE,ar] at hl
 rcases aH i l.length with hi | hi
 ·rw [bR hi] at ha
  rw [bR (by rw [← h.1]; exact hi)] at hb
  exact h.2 i a b ha hb
 ·obtain rfl:i=l.length:=by omega
  rw [bC (aF _),Nat.sub_self] at ha
  rw [h.1,bC (aF _),Nat.sub_self] at hb
  simp only [List.getElem?_cons_zero,aP] at ha hb
  subst ha hb
  exact hx
theorem zZ {d a:World} (h:cM d a) {b:Nat} (ho:cj a b):cj d b:=fun o=>by
 cases hc:d.cell? ⟨b,o,none⟩ with
 | none=>rfl
 | some v=>have:=h b o v hc; rw [ho o] at this; simp at this
open Classical in
theorem _root_.Go.E.OwnL.fin {α:Type} {R:gR α} {sz:Nat} {el:TypeId} {a w:World} {v:Value} {l:List α} {css:List (List Value)} (h:OwnL R sz el a w v l css) (hm:gH R) (hi:cM a w) :
    ∃ a2,cM a a2∧cM a2 w∧(∀ b,cj a b→v.ownBlock≠some b→cj a2 b)∧Sl R sz a2 v l:=by
 let D:Nat→Bool:=fun b=>decide (¬ cj a b∨v.ownBlock=some b)
 have hD:∀ b o u,a.cell? ⟨b,o,none⟩=some u→D b=true:=fun b o u hu=>aV (.inl fun ho=>by rw [ho o] at hu; simp at hu)
 have i2:cM a (only w D):=ny hi D hD
 refine ⟨only w D,i2,nt w D,fun b h1 h2=>nx w D (aG fun h=>h.elim (fun h=>h h1) h2),h.sl hm i2 fun b hb o u hu => ?_⟩
 rw [iI,show D b=true from aV (.inr hb),if_pos rfl]
 exact hu
structure Wsw (d w:World) (R:World→(Nat→Prop)→Int→Prop) (N0:Nat→Prop) (v:Value) (w1 a:World) (N:Nat→Prop) (p:Int) (l:List An) (css:List (List Value)):Prop where
 R:R w1 N p
 da:cM d a
 aw:cM a w1
 No:∀ b,N b→cj a b
 o:OwnL zY 5 95 a w1 v l css
 on:∀ g,v.ownBlock=some g→¬ N g∧w.heap.size≤g
 k:Keep (fun b _=>N0 b) w w1
 n0:∀ b,N b→N0 b∨w.heap.size≤b
 oa:∀ b,b < w.heap.size→cj d b→cj a b
structure Wsp (V:List Sp) (KS:List K→List K→Prop) (steps:List (Nat × Bytes)) (i:Nat) (got:Bool) (last:Nat) (p:Int) (l:List An) (outs:List (Option Int)):Prop where
 wl:pX V (-2) false 0 steps=outs++pX V p got last (steps.drop i)
 pw:Pw (mm V KS) outs l
 len:l.length=i
 g1:got=true→0≤p∧p < V.length
 g2:got=false→last=5∨last=3→p = -1
 g3:got=false→last=4∨last=2→p=V.length
section
variable {recv:Value} {d w w1 w2 a a2:World} {V:List Sp} {pF pL:Prop} {pK:Bytes→Prop} {KS:List K→List K→Prop} {R:World→(Nat→Prop)→Int→Prop} {N0 N N2:Nat→Prop} {v v2:Value} {p p2:Int} {l:List An} {css:List (List Value)}
theorem Wsw.ext (W:WI recv d V pF pL pK KS R) (s:Wsw d w R N0 v w1 a N p l css) (x:bp w1 w2):Wsw d w R N0 v w2 a N p l css :=
 ⟨W.keep s.R x fun _ _ _ h=>h.elim,s.da,s.aw.trans x.inc,s.No,s.o.ext x,s.on,s.k.tr x fun _ _ _ h=>h.elim,s.n0,s.oa⟩
theorem Wsw.op (W:WI recv d V pF pL pK KS R) (s:Wsw d w R N0 v w1 a N p l css) (h:R w2 N2 p2) (hN:∀ b,N2 b→N b∨w1.heap.size≤b) (hk:Keep (fun b _=>N b) w1 w2):Wsw d w R N0 v w2 a N2 p2 l css where
 R:=h
 da:=s.da
 aw:=s.aw.keep hk fun b o hb=>s.No b hb o
 No b hb:=(hN b hb).elim (s.No b) fun h=>s.aw.out h
 o:=s.o.keep hk fun g hg o h=>(s.on g hg).1 h
 on g hg:=⟨fun h=>(hN g h).elim (s.on g hg).1 fun h=>by have:=(s.o.own.lt g hg).2; omega,(s.on g hg).2⟩
 k:=s.k.tr hk fun b o hb hm=>(s.n0 b hm).elim id fun h=>by omega
 n0 b hb:=(hN b hb).elim (s.n0 b) fun h => .inr (ah s.k.size h)
 oa:=s.oa
theorem Wsw.gr (W:WI recv d V pF pL pK KS R) (s:Wsw d w R N0 v w1 a N p l css) (g:Gr a w1 a2 w2):Wsw d w R N0 v w2 a2 N p l css where
 R:=W.keep s.R g.x fun _ _ _ h=>h.elim
 da:=s.da.trans g.i
 aw:=g.j
 No b hb:=g.o b (W.lt s.R b hb).1 (s.No b hb)
 o:=(s.o.ext g.x).ghost zY.mono g.i fun b hb=>g.o b (s.o.own.lt b hb).2 (s.o.out b hb)
 on:=s.on
 k:=s.k.tr g.x fun _ _ _ h=>h.elim
 n0:=s.n0
 oa b hb ho:=g.o b (aL hb s.k.size) (s.oa b hb ho)
theorem Wsw.app (W:WI recv d V pF pL pK KS R) (s:Wsw d w R N0 v w1 a N p l css) {l2:List An} {css2:List (List Value)} (o:OwnL zY 5 95 a w2 v2 l2 css2) (k:Keep (fun b _=>v.ownBlock=some b) w1 w2) (n:cZ w1 v v2) (j:cM a w2):Wsw d w R N0 v2 w2 a N p l2 css2 where
 R:=W.keep s.R k fun b x _ hb=>⟨(s.on b hb).1,zZ s.da (s.o.out b hb)⟩
 da:=s.da
 aw:=j
 No:=s.No
 o:=o
 on g hg:=by
  rcases n g hg with h | h
  ·exact s.on g h
  ·exact ⟨fun hn=>by have:=(W.lt s.R g hn).1; omega,ah s.k.size h⟩
 k:=s.k.tr k fun b o hb hm=>by have:=(s.on b hm).2; omega
 n0:=s.n0
 oa:=s.oa
end
end Go.E
namespace Go.Proofs
open Go Go.E Go.Sort Go.Proofs.Tryz
section
variable {k:aq} {d w:World}
theorem Bl {op last:Nat} {got:Bool} (hk:k (.bool (uY op got last)) w):ai prog 94 #[.int .u8 op,.bool got,.int .u8 last] k w:=by
 have e0:((op:Int) == 0)=decide (op=0):=by rw [bG]; simp
 have e1:((op:Int) == 1)=decide (op=1):=by rw [bG]; simp; omega
 have e2:((op:Int) == 2)=decide (op=2):=by rw [bG]; simp; omega
 have e3:((op:Int) == 3)=decide (op=3):=by rw [bG]; simp; omega
 have e4:((op:Int) == 4)=decide (op=4):=by rw [bG]; simp; omega
 have e5:((op:Int) == 5)=decide (op=5):=by rw [bG]; simp; omega
 have f2:((last:Int) == 2)=decide (last=2):=by rw [bG]; simp; omega
 have f3:((last:Int) == 3)=decide (last=3):=by rw [bG]; simp; omega
 have f4:((last:Int) == 4)=decide (last=4):=by rw [bG]; simp; omega
 have f5:((last:Int) == 5)=decide (last=5):=by rw [bG]; simp; omega
 refine al [.tmp 6] func94 ?_
 by_cases h0:op=0∨op=1∨op=4∨op=5
 ·have ht:uY op got last=true:=by unfold uY; rw [if_pos h0]
  rw [ht] at hk
  rcases h0 with h | h | h | h
  ·simp (disch:=first | exact dZ | fail) only [go_sem,e0,e1,e2,e3,e4,e5,aV (show op=0 by omega),aG (show ¬ op=1 by omega),aG (show ¬ op=2 by omega),aG (show ¬ op=3 by omega),aG (show ¬ op=4 by omega),aG (show ¬ op=5 by omega)]
   exact hk
  ·simp (disch:=first | exact dZ | fail) only [go_sem,e0,e1,e2,e3,e4,e5,aG (show ¬ op=0 by omega),aV (show op=1 by omega),aG (show ¬ op=2 by omega),aG (show ¬ op=3 by omega),aG (show ¬ op=4 by omega),aG (show ¬ op=5 by omega)]
   exact hk
  ·simp (disch:=first | exact dZ | fail) only [go_sem,e0,e1,e2,e3,e4,e5,aG (show ¬ op=0 by omega),aG (show ¬ op=1 by omega),aG (show ¬ op=2 by omega),aG (show ¬ op=3 by omega),aV (show op=4 by omega),aG (show ¬ op=5 by omega)]
   exact hk
  ·simp (disch:=first | exact dZ | fail) only [go_sem,e0,e1,e2,e3,e4,e5,aG (show ¬ op=0 by omega),aG (show ¬ op=1 by omega),aG (show ¬ op=2 by omega),aG (show ¬ op=3 by omega),aG (show ¬ op=4 by omega),aV (show op=5 by omega)]
   exact hk
 ·by_cases h2:op=2
  ·have ht:uY op got last=(got || decide (last=5) || decide (last=3)):=by unfold uY; rw [if_neg h0,if_pos h2]
   rw [ht] at hk
   cases got <;> cases h5:decide (last=5) <;> cases h3:decide (last=3) <;> simp (disch:=first | exact dZ | fail) only [go_sem,e0,e1,e2,e3,e4,e5,f3,f5,aG (show ¬ op=0 by omega),aG (show ¬ op=1 by omega),aV (show op=2 by omega),aG (show ¬ op=3 by omega),aG (show ¬ op=4 by omega),aG (show ¬ op=5 by omega),h5,h3] <;> simpa [h5,h3] using hk
  ·by_cases h3:op=3
   ·have ht:uY op got last=(got || decide (last=4) || decide (last=2)):=by unfold uY; rw [if_neg h0,if_neg h2,if_pos h3]
    rw [ht] at hk
    cases got <;> cases h5:decide (last=4) <;> cases h3':decide (last=2) <;> simp (disch:=first | exact dZ | fail) only [go_sem,e0,e1,e2,e3,e4,e5,f2,f4,aG (show ¬ op=0 by omega),aG (show ¬ op=1 by omega),aG (show ¬ op=2 by omega),aV (show op=3 by omega),aG (show ¬ op=4 by omega),aG (show ¬ op=5 by omega),h5,h3'] <;> simpa [h5,h3'] using hk
   ·have ht:uY op got last=false:=by unfold uY; rw [if_neg h0,if_neg h2,if_neg h3]
    rw [ht] at hk
    simp (disch:=first | exact dZ | fail) only [go_sem,e0,e1,e2,e3,e4,e5,aG (show ¬ op=0 by omega),aG (show ¬ op=1 by omega),aG (show ¬ op=2 by omega),aG (show ¬ op=3 by omega),aG (show ¬ op=4 by omega),aG (show ¬ op=5 by omega)]
    exact hk
set_option maxHeartbeats 1000000 in
theorem tW {rt:TypeId} {rv sv:Value} {V:List Sp} {pF pL:Prop} {pK:Bytes→Prop} {KS:List K→List K→Prop} {R:World→(Nat→Prop)→Int→Prop} {N0:Nat→Prop} {steps:List (Nat × Bytes)}
    (W:WI (.iface rt rv) d V pF pL pK KS R) (h0:R w N0 (-2)) (hs:Sl Cp 2 d sv steps) (hok:∀ x ∈ steps,(x.1=0→pF)∧(x.1=1∨x.1=3→pL)∧(x.1=4∨x.1=5→pK x.2)∧x.2.length≤4294967296) (hlen:steps.length < 1000000)
    (hk:∀ a w' v l,cM d a→cM a w'→(∀ b,b < w.heap.size→cj d b→cj a b)→Keep (fun b _=>N0 b) w w'→Sl zY 5 a v l→Pw (mm V KS) (pX V (-2) false 0 steps) l→k v w'):ai prog 65 #[.iface rt rv,sv] k w:=by
 have hinc:=W.inc h0
 obtain ⟨ka,kc,rfl⟩:=hs.form
 refine al [.tmp 4] func65 ?_
 refine bA ?_
 refine bZ (fun b:Nat × Value × Bool × Nat=>[(0,.iface rt rv),(5,b.2.1),(6,.bool b.2.2.1),(7,.int .u8 b.2.2.2),(12,.slice ka steps.length kc),(13,.int .i64 steps.length),(14,.int .i64 b.1)])
  (fun b w'=>b.1≤steps.length∧∃ a N p l css outs,Wsw d w R N0 b.2.1 w' a N p l css∧Wsp V KS steps b.1 b.2.2.1 b.2.2.2 p l outs) (fun b _=>steps.length - b.1) (0,.slice none 0 0,false,0) (by kernel_rfl) ?_ ⟨aT _,d,N0,-2,[],[],[],?_⟩ ?_
 ·exact bU
 ·exact ⟨⟨h0,cM.refl d,hinc,fun b hb=>(W.lt h0 b hb).2,OwnL.nil cw,by simp [Value.ownBlock],Keep.refl _ w,fun _ h => .inl h,fun _ _ h=>h⟩,by simp,⟨rfl,by simp⟩,rfl,by simp,by simp,by simp⟩
 rintro K2 e ⟨i,v,got,last⟩ w1 ⟨i2,a,N,p,l,css,outs,s,t⟩ hK2
 simp only at i2 s t
 by_cases hi:i < steps.length
 ·have hi':(i:Int) < steps.length:=by omega
  obtain ⟨g,f,c,hv',hc,hat⟩:=(hs.inc Cp.mono (W.inc s.R)).at (by omega)
  obtain ⟨rfl,rfl⟩:=sEq hv'
  obtain ⟨⟨op,key⟩,hx⟩:∃ x,steps[i]? = some x:=⟨_,aD hi⟩
  obtain ⟨cs,_,hcs,rfl,hop⟩:=hat i _ hx
  have h1:w1.cell? ⟨g,f+i * 2,none⟩=some (.int .u8 op):=hcs 0 _ rfl
  have h2:w1.cell? ⟨g,f+i * 2+1,none⟩=some (.string ⟨key.toArray⟩):=hcs 1 _ rfl
  refine dQ @hi' @h1 @h2 ?_
  refine Bl ?_
  obtain ⟨sb,hsb⟩:∃ sb,sb=w1.heap.size:=⟨_,rfl⟩
  obtain ⟨w3,hw3⟩:∃ w3,w3=w1.alloc (.cells #[.int .u8 op,.string ⟨key.toArray⟩] 205):=⟨_,rfl⟩
  have x3:bp w1 w3:=by rw [hw3]; exact aJ _
  have z3:w3.heap.size=w1.heap.size+1:=by rw [hw3,World.size_alloc]
  have p0:w3.cell? ⟨sb,0,none⟩=some (.int .u8 op):=by rw [hw3,hsb]; exact bX @aA
  have p1:w3.cell? ⟨sb,1,none⟩=some (.string ⟨key.toArray⟩):=by rw [hw3,hsb]; exact bX @aA
  rw [← hw3,← hsb]
  have hdrop:steps.drop i=(op,key) :: steps.drop (i+1):=by
   rw [cV hi]
   congr 1
   rw [aD hi] at hx
   simpa using hx
  have s3:=s.ext W x3
  have hwl:=t.wl
  rw [hdrop] at hwl
  obtain ⟨va,vcap,rfl,_⟩:=s.o.form
  cases ht:uY op got last with
  | false =>
   refine bA ?_
   refine iL ⟨false,false,⟨[],[],[]⟩⟩ [.bool false,.bool false,str [],str [],.slice none 0 0] rw83 s3.o ⟨_,rfl,Sl.nil⟩ rfl (.inl rfl) rfl rfl (by simp [Value.oneCell',str]) (by rw [t.len]; omega) s3.aw fun v2 w2 o2 k2 n2 j2 _ => ?_
   refine bA ?_
   refine hK2 _ _ (i+1,v2,got,last) ?_ ⟨hi,a,N,p,_,_,outs++[none],s3.app W o2 k2 n2 j2,?_,t.pw.snoc rfl,by simp [t.len],t.g1,t.g2,t.g3⟩ (by simp only; omega)
   ·exact bU
   ·rw [hwl,ax]
    congr 1
    show pX V p got last ((op,key) :: List.drop (i+1) steps)=none :: pX V p got last (List.drop (i+1) steps)
    rw [pX,ht]
    rfl
  | true =>
   have hp2:op=2 → -1≤p∧p < V.length:=fun h=>by
    cases got
    ·have:=t.g2 rfl (by simpa [uY,h] using ht)
     omega
    ·have:=t.g1 rfl
     omega
   have hp3:op=3 → -1 < p∧p≤V.length:=fun h=>by
    cases got
    ·have:=t.g3 rfl (by simpa [uY,h] using ht)
     omega
    ·have:=t.g1 rfl
     omega
   refine bu @p0 ?_
   refine Gt (fun x:Value=>[(0,.iface rt rv),(5,.slice va l.length vcap),(9,.pointer (some ⟨sb,0,none⟩)),(12,.slice (some ⟨g,f,none⟩) steps.length kc),(13,.int .i64 steps.length),(14,.int .i64 i),(10,x)])
    (fun x w'=>∃ N2,Wsw d w R N0 (.slice va l.length vcap) w' a N2 (mv V p op key) l css∧Kt V KS w' x (mv V p op key)∧w'.cell? ⟨sb,0,none⟩=some (.int .u8 op)) (by kernel_rfl) (by kernel_rfl) (fun K3 hK3 => ?_) ?_
   ·have dummy:=0
    have e0:((op:Int) == 0)=decide (op=0):=by rw [bG]; simp
    have e1:((op:Int) == 1)=decide (op=1):=by rw [bG]; simp; omega
    have e2:((op:Int) == 2)=decide (op=2):=by rw [bG]; simp; omega
    have e3:((op:Int) == 3)=decide (op=3):=by rw [bG]; simp; omega
    have e4:((op:Int) == 4)=decide (op=4):=by rw [bG]; simp; omega
    have e5:((op:Int) == 5)=decide (op=5):=by rw [bG]; simp; omega
    have hok:=hok _ (aO hx)
    simp only at hok
    have nsb:¬ N sb:=fun hn=>by have:=(W.lt s.R sb hn).1; omega
    have hop6:op=0∨op=1∨op=2∨op=3∨op=4∨op=5:=by
     unfold uY at ht
     (repeat' split at ht) <;> first | omega | simp at ht
    rcases hop6 with h | h | h | h | h | h
    ·have hm:mv V p op key=0:=by simp [mv,h]
     rw [hm] at hK3
     simp (disch:=first | exact dZ | fail) only [go_sem,e0,e1,e2,e3,e4,e5,aV (show op=0 by omega),aG (show ¬ op=1 by omega),aG (show ¬ op=2 by omega),aG (show ¬ op=3 by omega),aG (show ¬ op=4 by omega),aG (show ¬ op=5 by omega)]
     refine W.first s3.R (hok.1 h) fun w4 N4 v4 r4 hn4 k4 rs4 => ?_
     refine bA ?_
     refine hK3 _ _ v4 ?_ ⟨N4,s3.op W r4 hn4 k4,rs4,k4.some p0 nsb⟩
     exact bU
    ·have hm:mv V p op key=V.length - 1:=by simp [mv,h]
     rw [hm] at hK3
     simp (disch:=first | exact dZ | fail) only [go_sem,e0,e1,e2,e3,e4,e5,aG (show ¬ op=0 by omega),aV (show op=1 by omega),aG (show ¬ op=2 by omega),aG (show ¬ op=3 by omega),aG (show ¬ op=4 by omega),aG (show ¬ op=5 by omega)]
     refine W.last s3.R (hok.2.1 (.inl h)) fun w4 N4 v4 r4 hn4 k4 rs4 => ?_
     refine bA ?_
     refine hK3 _ _ v4 ?_ ⟨N4,s3.op W r4 hn4 k4,rs4,k4.some p0 nsb⟩
     exact bU
    ·have hm:mv V p op key=p+1:=by simp [mv,h]
     rw [hm] at hK3
     have hpn:=hp2 h
     simp (disch:=first | exact dZ | fail) only [go_sem,e0,e1,e2,e3,e4,e5,aG (show ¬ op=0 by omega),aG (show ¬ op=1 by omega),aV (show op=2 by omega),aG (show ¬ op=3 by omega),aG (show ¬ op=4 by omega),aG (show ¬ op=5 by omega)]
     refine W.next s3.R hpn.1 hpn.2 fun w4 N4 v4 r4 hn4 k4 rs4 => ?_
     refine bA ?_
     refine hK3 _ _ v4 ?_ ⟨N4,s3.op W r4 hn4 k4,rs4,k4.some p0 nsb⟩
     exact bU
    ·have hm:mv V p op key=p - 1:=by simp [mv,h]
     rw [hm] at hK3
     have hpp:=hp3 h
     simp (disch:=first | exact dZ | fail) only [go_sem,e0,e1,e2,e3,e4,e5,aG (show ¬ op=0 by omega),aG (show ¬ op=1 by omega),aG (show ¬ op=2 by omega),aV (show op=3 by omega),aG (show ¬ op=4 by omega),aG (show ¬ op=5 by omega)]
     refine W.prev s3.R (hok.2.1 (.inr h)) hpp.1 hpp.2 fun w4 N4 v4 r4 hn4 k4 rs4 => ?_
     refine bA ?_
     refine hK3 _ _ v4 ?_ ⟨N4,s3.op W r4 hn4 k4,rs4,k4.some p0 nsb⟩
     exact bU
    ·have hm:mv V p op key=qj V key:=by simp [mv,h]
     rw [hm] at hK3
     simp (disch:=first | exact dZ | fail) only [go_sem,e0,e1,e2,e3,e4,e5,aG (show ¬ op=0 by omega),aG (show ¬ op=1 by omega),aG (show ¬ op=2 by omega),aG (show ¬ op=3 by omega),aV (show op=4 by omega),aG (show ¬ op=5 by omega),p1]
     unfold FY
     refine zI Tryz.underlying9 Tryz.underlying56 Tryz.underlying5 (by simp only [ByteArray.size,List.size_toArray]; omega) fun ka kcap w5 hb5 _ x5 _ => ?_
     have s5:=s3.ext W x5
     refine bA ?_
     refine W.seekGE s5.R (hok.2.2.1 (by omega)) (by exact hb5) (fun a' n' c' e' hn => ?_) fun w4 N4 v4 r4 hn4 k4 rs4 => ?_
     ·simp only [aU,aP] at e'
      rw [← e'.1] at hn
      have:=(W.lt s.R _ hn).1
      simp only at this
      omega
     refine bA ?_
     refine hK3 _ _ v4 ?_ ⟨N4,s5.op W r4 hn4 k4,rs4,k4.some (x5.cell p0) nsb⟩
     exact bU
    ·have hm:mv V p op key=tQ V key:=by simp [mv,h]
     rw [hm] at hK3
     simp (disch:=first | exact dZ | fail) only [go_sem,e0,e1,e2,e3,e4,e5,aG (show ¬ op=0 by omega),aG (show ¬ op=1 by omega),aG (show ¬ op=2 by omega),aG (show ¬ op=3 by omega),aG (show ¬ op=4 by omega),aV (show op=5 by omega),p1]
     unfold FY
     refine zI Tryz.underlying9 Tryz.underlying56 Tryz.underlying5 (by simp only [ByteArray.size,List.size_toArray]; omega) fun ka kcap w5 hb5 _ x5 _ => ?_
     have s5:=s3.ext W x5
     refine bA ?_
     refine W.seekLT s5.R (hok.2.2.1 (by omega)) (by exact hb5) (fun a' n' c' e' hn => ?_) fun w4 N4 v4 r4 hn4 k4 rs4 => ?_
     ·simp only [aU,aP] at e'
      rw [← e'.1] at hn
      have:=(W.lt s.R _ hn).1
      simp only at this
      omega
     refine bA ?_
     refine hK3 _ _ v4 ?_ ⟨N4,s5.op W r4 hn4 k4,rs4,k4.some (x5.cell p0) nsb⟩
     exact bU
   ·rintro e x w4 ⟨N2,s4,r4,p0'⟩
    obtain ⟨P,hP⟩:∃ P,P=mv V p op key:=⟨_,rfl⟩
    rw [← hP] at s4 r4
    have hwl2:pX V (-2) false 0 steps=(outs++[some P])++pX V P (Bk V P) op (steps.drop (i+1)):=by
     rw [hwl,ax]
     congr 1
     show pX V p got last ((op,key) :: List.drop (i+1) steps)=some P :: pX V P (Bk V P) op (List.drop (i+1) steps)
     rw [pX,ht,hP]
     rfl
    by_cases hin:0≤P∧P < V.length
    ·have hiv:Bk V P=true:=aV hin
     rw [hiv] at hwl2
     obtain ⟨j,hj⟩:∃ j:Nat,P=j:=⟨P.toNat,by omega⟩
     obtain ⟨ord,b,o,x,rfl,⟨⟨sv',q0,m0⟩,⟨ev',q1,m1⟩,⟨kv',q2,m2⟩,q3⟩,xs,xe,xks⟩:=r4.1 j hj (by omega)
     obtain ⟨ssa,ssc,rfl⟩:=aY m0
     obtain ⟨eea,eec,rfl⟩:=aY m1
     obtain ⟨kka,kkc,rfl⟩:=m2.form
     obtain ⟨ab,hab⟩:∃ ab,ab=w4.heap.size:=⟨_,rfl⟩
     obtain ⟨w5,hw5⟩:∃ w5,w5=w4.alloc (.cells #[.bool true,.bool false,.string .empty,.string .empty,.slice none 0 0] 95):=⟨_,rfl⟩
     have x5:bp w4 w5:=by rw [hw5]; exact aJ _
     have z5:w5.heap.size=ab+1:=by rw [hw5,World.size_alloc,hab]
     have q0:=x5.cell q0
     have q1:=x5.cell q1
     have q2:=x5.cell q2
     have q3:=x5.cell q3
     have c0:w5.cell? ⟨ab,0,none⟩=some (.bool true):=by rw [hw5,hab]; exact bX @aA
     have c1:w5.cell? ⟨ab,1,none⟩=some (.bool false):=by rw [hw5,hab]; exact bX @aA
     have c2:w5.cell? ⟨ab,2,none⟩=some (.string .empty):=by rw [hw5,hab]; exact bX @aA
     have c3:w5.cell? ⟨ab,3,none⟩=some (.string .empty):=by rw [hw5,hab]; exact bX @aA
     have c4:w5.cell? ⟨ab,4,none⟩=some (.slice none 0 0):=by rw [hw5,hab]; exact bX @aA
     have f5:∀ y,w5.frozen? ⟨ab,y,none⟩=false:=fun y=>by rw [hw5,hab]; simp (disch:=first | exact dZ | fail) only [go_sem]
     simp (disch:=first | exact dZ | fail) only [go_sem,Option.isSome_some]
     rw [← hw5,← hab]
     refine eO @q0 @q1 @q2 @q3 ?_
     have s5:=s4.ext W x5
     refine dB (d:=a) (m0.inc x5.inc) (m1.inc x5.inc) (m2.inc jt.mono x5.inc) ⟨ord,rfl⟩ (W.small j _ (by omega) xks) s5.aw fun a6 w6 v6 g6 k6 => ?_
     have s6:=s5.gr W g6
     obtain ⟨k6a,k6c,rfl⟩:=k6.form
     have c0:=g6.x.cell c0
     have c1:=g6.x.cell c1
     have c2:=g6.x.cell c2
     have c3:=g6.x.cell c3
     have c4:=g6.x.cell c4
     have p6:=g6.x.cell (x5.cell p0')
     have f6:∀ y,w6.frozen? ⟨ab,y,none⟩=false:=fun y=>by rw [g6.x.frozen _ y (by omega)]; exact f5 y
     simp (disch:=first | exact dZ | fail) only [go_sem,str,c0,c1,c2,c3,c4,f6]
     obtain ⟨w7,hw7⟩:∃ w7,w7=((((w6.setCell ⟨ab,1,none⟩ (.bool true)).setCell ⟨ab,2,none⟩ (.string ⟨x.s.toArray⟩)).setCell ⟨ab,3,none⟩ (.string ⟨x.e.toArray⟩)).setCell ⟨ab,4,none⟩ (.slice k6a x.ks.length k6c)):=⟨_,rfl⟩
     rw [← hw7]
     have o6:cj a6 ab:=g6.o _ (by omega) (s4.aw.out (by omega))
     have x7:bp w4 w7:=by rw [hw7]; exact aj (aj (aj (aj (x5.trans g6.x) (by omega)) (by omega)) (by omega)) (by omega)
     have s7:=s4.gr W (a2:=a6) (w2:=w7) ⟨x7,g6.i,by rw [hw7]; exact (((g6.j.set o6).set o6).set o6).set o6,fun b' hb' ho=>g6.o b' (by have:=x5.size; omega) ho⟩
     have p7:=x7.cell p0'
     have d0:w7.cell? ⟨ab,0,none⟩=some (.bool true):=by rw [hw7]; exact bX @c0
     have d1:w7.cell? ⟨ab,1,none⟩=some (.bool true):=by rw [hw7]; exact bX @c1
     have d2:w7.cell? ⟨ab,2,none⟩=some (.string ⟨x.s.toArray⟩):=by rw [hw7]; exact bX @c2
     have d3:w7.cell? ⟨ab,3,none⟩=some (.string ⟨x.e.toArray⟩):=by rw [hw7]; exact bX @c3
     have d4:w7.cell? ⟨ab,4,none⟩=some (.slice k6a x.ks.length k6c):=by rw [hw7]; exact bX @c4
     have s8:=s7.ext W (w2:=w7.drew) (Keep.refl _ w7).drew
     refine bF (sq [0,1,2] (.read 3 (sq [4,5] .done))) ?_
     simp (disch:=first | exact dZ | fail) only [go_sem,Option.isSome_some,p7,d0,d1,d2,d3,d4]
     refine iL ⟨true,true,x⟩ [.bool true,.bool true,str x.s,str x.e,.slice k6a x.ks.length k6c] rw83 s8.o ⟨_,rfl,k6⟩ rfl (.inl rfl) rfl rfl (by simp [Value.oneCell',str]) (by rw [t.len]; omega) s8.aw fun v2 w2 o2 k2 n2 j2 _ => ?_
     refine bA ?_
     refine hK2 _ _ (i+1,v2,true,op) ?_ ⟨hi,a6,N2,P,_,_,outs++[some P],s8.app W o2 k2 n2 j2,hwl2,t.pw.snoc ?_,by simp [t.len],?_,?_,?_⟩ (by simp only; omega)
     ·exact bU
     ·exact ⟨rfl,hiv.symm,fun i' hi1 hi2=>by obtain rfl:i'=j:=(by omega); exact ⟨xs,xe,xks⟩,fun h=>by rw [hiv] at h; cases h⟩
     ·exact fun _=>hin
     ·intro h; cases h
     ·intro h; cases h
    ·have hiv:Bk V P=false:=aG hin
     rw [hiv] at hwl2
     obtain rfl:=r4.2 hin
     obtain ⟨ab,hab⟩:∃ ab,ab=w4.heap.size:=⟨_,rfl⟩
     obtain ⟨w7,hw7⟩:∃ w7,w7=w4.alloc (.cells #[.bool true,.bool false,.string .empty,.string .empty,.slice none 0 0] 95):=⟨_,rfl⟩
     have x7:bp w4 w7:=by rw [hw7]; exact aJ _
     have s7:=s4.ext W x7
     have d0:w7.cell? ⟨ab,0,none⟩=some (.bool true):=by rw [hw7,hab]; exact bX @aA
     have d1:w7.cell? ⟨ab,1,none⟩=some (.bool false):=by rw [hw7,hab]; exact bX @aA
     have d2:w7.cell? ⟨ab,2,none⟩=some (.string .empty):=by rw [hw7,hab]; exact bX @aA
     have d3:w7.cell? ⟨ab,3,none⟩=some (.string .empty):=by rw [hw7,hab]; exact bX @aA
     have d4:w7.cell? ⟨ab,4,none⟩=some (.slice none 0 0):=by rw [hw7,hab]; exact bX @aA
     have p7:=x7.cell p0'
     simp (disch:=first | exact dZ | fail) only [go_sem,Option.isSome_none]
     rw [← hw7,← hab]
     have s8:=s7.ext W (w2:=w7.drew) (Keep.refl _ w7).drew
     refine bF (sq [0,1,2] (.read 3 (sq [4,5] .done))) ?_
     simp (disch:=first | exact dZ | fail) only [go_sem,Option.isSome_none,p7,d0,d1,d2,d3,d4]
     refine iL ⟨true,false,⟨[],[],[]⟩⟩ [.bool true,.bool false,str [],str [],.slice none 0 0] rw83 s8.o ⟨_,rfl,Sl.nil⟩ rfl (.inl rfl) rfl rfl (by simp [Value.oneCell',str]) (by rw [t.len]; omega) s8.aw fun v2 w2 o2 k2 n2 j2 _ => ?_
     refine bA ?_
     refine hK2 _ _ (i+1,v2,false,op) ?_ ⟨hi,a,N2,P,_,_,outs++[some P],s8.app W o2 k2 n2 j2,hwl2,t.pw.snoc ?_,by simp [t.len],?_,?_,?_⟩ (by simp only; omega)
     ·exact bU
     ·exact ⟨rfl,hiv.symm,fun i' hi1 hi2=>absurd ⟨by omega,by omega⟩ hin,fun _=>rfl⟩
     ·intro h; cases h
     ·rintro _ (h | h)
      ·have h:op=5:=h
       have hm:mv V p op key=tQ V key:=by rw [h]; rfl
       rw [hP,hm] at hin
       rw [hP,hm]
       have:=Bj V key
       omega
      ·have h:op=3:=h
       have hm:mv V p op key=p - 1:=by rw [h]; rfl
       rw [hP,hm] at hin
       rw [hP,hm]
       have:=hp3 h
       omega
     ·rintro _ (h | h)
      ·have h:op=4:=h
       have hm:mv V p op key=qj V key:=by rw [h]; rfl
       rw [hP,hm] at hin
       rw [hP,hm]
       have:=Bi V key
       omega
      ·have h:op=2:=h
       have hm:mv V p op key=p+1:=by rw [h]; rfl
       rw [hP,hm] at hin
       rw [hP,hm]
       have:=hp2 h
       omega
 ·have hi':¬ (i:Int) < steps.length:=by omega
  refine bu @hi' ?_
  have hii:i=steps.length:=by omega
  have hwl:=t.wl
  rw [hii,List.drop_length] at hwl
  rw [show pX V p got last []=[] by cases got <;> rfl,ao] at hwl
  have pw:=t.pw
  rw [← hwl] at pw
  obtain ⟨a2,b1,b2,b3,b4⟩:=s.o.fin zY.mono s.aw
  exact hk a2 w1 v l (s.da.trans b1) b2 (fun b hb ho=>b3 b (s.oa b hb ho) fun hv=>by have:=(s.on b hv).2; omega) s.k b4 pw
end
end Go.Proofs
end
section
namespace Go.E
open Go Go.Sort Go.Proofs
def dN (Y:DX) (U Bf:Nat) (T:Nat→Nat→Prop) (D S:Nat→Prop):Nat→Prop:=fun b=>b=U∨b=Bf∨(∃ x,T b x)∨D b∨S b
theorem Jj {Y:DX} {U Bf:Nat} {T:Nat→Nat→Prop} {D S:Nat→Prop} {b x:Nat} (h:eM Y U Bf T D S b x):dN Y U Bf T D S b:=by
 rcases h with h | h | ⟨h,_⟩ | ⟨h,_⟩ | h
 ·exact .inr (.inr (.inl ⟨x,h⟩))
 ·exact .inr (.inr (.inr (.inr h)))
 ·exact .inl h
 ·exact .inr (.inl h)
 ·exact .inr (.inr (.inr (.inl h)))
def KM (d:World) (Y:DX) (U Bf C pb po:Nat) (rt:TypeId) (rv:Value) (G:List Sp) (T:Nat→Nat→Prop) (R:World→(Nat→Prop)→Int→Prop) (w:World) (N:Nat→Prop) (p:Int):Prop:=∃ D S,De d Y U Bf C pb po rt rv G T R w D S p∧N=dN Y U Bf T D S
section
variable {d w w2:World} {Y:DX} {U Bf C pb po:Nat} {rt:TypeId} {rv:Value} {G:List Sp} {pF pL:Prop} {pK:Bytes→Prop} {T:Nat→Nat→Prop} {R:World→(Nat→Prop)→Int→Prop} {D S N:Nat→Prop} {p:Int} {k:aq} {KS:List K→List K→Prop}
theorem De.inc (dc:DC d Y U Bf C pb po rt rv G pF pL pK T R) (h:De d Y U Bf C pb po rt rv G T R w D S p):cM d w:=by
 obtain ⟨Q,vc,vk,vb,xs,xb,cc,lk,is,ps,q,st,_⟩:=h
 exact dc.f.inc st.R
theorem De.lt (dc:DC d Y U Bf C pb po rt rv G pF pL pK T R) (hT:∀ b x,T b x→cj d b) (h:De d Y U Bf C pb po rt rv G T R w D S p):∀ b,dN Y U Bf T D S b→b < w.heap.size∧cj d b:=by
 obtain ⟨Q,vc,vk,vb,xs,xb,cc,lk,is,ps,q,st,_⟩:=h
 rintro b (rfl | rfl | ⟨x,h⟩ | h | h)
 ·exact ⟨aC st.p.d81,dc.oU⟩
 ·exact ⟨aC st.r.ch,dc.oB⟩
 ·exact ⟨dc.tl st.R h,hT b x h⟩
 ·exact ⟨(st.r.dD b h).1,(st.r.dD b h).2.2.2.2.2⟩
 ·exact (dc.f.outS st.R b h).symm
theorem De.keep (dc:DC d Y U Bf C pb po rt rv G pF pL pK T R) {M:Nat→Nat→Prop} (h:De d Y U Bf C pb po rt rv G T R w D S p) (hk:Keep M w w2) (hM:∀ b x,b < w.heap.size→M b x→¬ dN Y U Bf T D S b∧cj d b):De d Y U Bf C pb po rt rv G T R w2 D S p:=by
 obtain ⟨Q,vc,vk,vb,xs,xb,cc,lk,is,ps,q,st,hd⟩:=h
 have hU:=aC st.p.d81
 have hB:=aC st.r.ch
 refine ⟨Q,vc,vk,vb,xs,xb,cc,lk,is,ps,q,⟨dc.f.keep st.R hk fun b x hb hm => ?_,st.p.keep hB hk fun x _ _ hm=>(hM _ _ hU hm).1 (.inl rfl),st.r.keep hk (fun x _ _ hm=>(hM _ _ hB hm).1 (.inr (.inl rfl))) fun g hg x hm=>(hM _ _ (st.r.dD g hg).1 hm).1 (.inr (.inr (.inr (.inl hg))))⟩,hd⟩
 obtain ⟨a,b'⟩:=hM b x hb hm
 exact ⟨fun h=>a (.inr (.inr (.inl ⟨x,h⟩))),fun h=>a (.inr (.inr (.inr (.inr h)))),b' x⟩
theorem DLt.dN {w w2:World} {D2 S2:Nat→Prop} (h:DLt w w2 Y U Bf T D S D2 S2):(∀ b,dN Y U Bf T D2 S2 b→dN Y U Bf T D S b∨w.heap.size≤b)∧Keep (fun b _=>dN Y U Bf T D S b) w w2:=by
 refine ⟨fun b hb => ?_,h.k.mono fun b x _ hm=>Jj hm⟩
 rcases hb with h1 | h1 | h1 | h1 | h1
 ·exact .inl (.inl h1)
 ·exact .inl (.inr (.inl h1))
 ·exact .inl (.inr (.inr (.inl h1)))
 ·rcases h.d b h1 with h2 | h2
  ·exact .inl (.inr (.inr (.inr (.inl h2))))
  ·exact .inr h2
 ·rcases h.s b h1 with h2 | h2
  ·exact .inl (.inr (.inr (.inr (.inr h2))))
  ·exact .inr h2
theorem Hr (hKS:∀ j i,j < G.length→i < (dJ Y.π G).length→G[j]!.ks.map Y.π=(Vw Y.π G)[i]!.ks.map Y.π→KS G[j]!.ks (Vw Y.π G)[i]!.ks) {v:Value} (h:Rs Y G w v p):Kt (Vw Y.π G) KS w v p:=by
 refine ⟨fun i hi hl => ?_,fun hn=>h.2 fun hh=>hn (by rw [fL]; exact hh)⟩
 rw [fL] at hl
 obtain ⟨b,o,x,e1,e2,e3,e4,e5,j,hj,e6⟩:=h.1 i hi hl
 exact ⟨_,b,o,x,e1,e2,e3,e4,by rw [e6] at e5 ⊢; exact hKS j i hj hl e5⟩
theorem EI (hKS:∀ j i,j < G.length→i < (dJ Y.π G).length→G[j]!.ks.map Y.π=(Vw Y.π G)[i]!.ks.map Y.π→KS G[j]!.ks (Vw Y.π G)[i]!.ks) (hk:WK (Vw Y.π G) KS (KM d Y U Bf C pb po rt rv G T R) w (dN Y U Bf T D S) p k):Jf d Y U Bf C pb po rt rv G T R w D S p k :=
 fun w2 D2 S2 v h2 l2 r2=>hk w2 (dN Y U Bf T D2 S2) v ⟨D2,S2,h2,rfl⟩ l2.dN.1 l2.dN.2 (Hr hKS r2)
set_option maxRecDepth 8000 in
theorem L0 (hKL:∀ a b,KS a b→a.length=b.length) (dc:DC d Y U Bf C pb po rt rv G pF pL pK T R) (hT:∀ b x,T b x→cj d b) (hKS:∀ j i,j < G.length→i < (dJ Y.π G).length→G[j]!.ks.map Y.π=(Vw Y.π G)[i]!.ks.map Y.π→KS G[j]!.ks (Vw Y.π G)[i]!.ks):WI (.iface 235 (.pointer (some ⟨U,Y.a,none⟩))) d (Vw Y.π G) pF False (fun _=>False) KS (KM d Y U Bf C pb po rt rv G T R) where
 small i ks hi hks:=by
  rw [hKL _ _ hks]
  rw [fL] at hi
  rw [mj hi]
  have:=(dc.len _ (iS hi).1).2.2.1
  exact aL this (by decide)
 lt h:=by obtain ⟨D,S,h,rfl⟩:=h; exact h.lt dc hT
 inc h:=by obtain ⟨D,S,h,rfl⟩:=h; exact h.inc dc
 keep h hk hM:=by obtain ⟨D,S,h,rfl⟩:=h; exact ⟨D,S,h.keep dc hk hM,rfl⟩
 first h hF hk:=by
  obtain ⟨D,S,h,rfl⟩:=h
  rw [Tryz.iv235_First]
  exact zU dc h hF (EI hKS hk)
 last _ h _:=h.elim
 next h h1 h2 hk:=by
  obtain ⟨D,S,h,rfl⟩:=h
  rw [Tryz.iv235_Next]
  exact Bh dc h h1 (by rw [← fL]; exact h2) (EI hKS hk)
 prev _ h _ _ _:=h.elim
 seekGE _ h _ _ _:=h.elim
 seekLT _ h _ _ _:=h.elim
end
end Go.E
end
section
namespace Go.E
open Go Go.Sort Go.Proofs
structure UX (d:World) (U Bf C snap:Nat) (it:Bool) (w:World) (S:Nat→Prop):Prop where
 u0:w.cell? ⟨U,0,none⟩=some (.int .u64 snap)
 u1:w.cell? ⟨U,1,none⟩=some (.pointer (some ⟨C,0,none⟩))
 u93:w.cell? ⟨U,93,none⟩=some (.bool it)
 u94:w.cell? ⟨U,94,none⟩=some (.pointer (some ⟨Bf,0,none⟩))
 c9:∃ v,w.cell? ⟨Bf,9,none⟩=some v
 s:∃ vs ls,KOwn d w Bf 10 vs ls∧(∀ g,vs.ownBlock=some g→cj d g)∧S=fun b=>vs.ownBlock=some b
def uT (U Bf:Nat):Nat→Nat→Prop:=fun b x=>b=U∧(x≤1∨93≤x)∨b=Bf∧9≤x
def uX (d:World) (U Bf C snap:Nat) (it:Bool) (F:List K→List K) (ord:Int):TX where
 F:=F
 ord:=ord
 rt:=227
 rv := .pointer (some ⟨U,0,none⟩)
 T:=uT U Bf
 X:=UX d U Bf C snap it
 dr h:=⟨h.u0,h.u1,h.u93,h.u94,h.c9,by obtain ⟨vs,ls,a,b,c⟩:=h.s; exact ⟨vs,ls,a.drew,b,c⟩⟩
section
variable {d w w2:World} {U Bf C snap:Nat} {it:Bool} {S S':Nat→Prop}
theorem UX.keep {M:Nat→Nat→Prop} (h:UX d U Bf C snap it w S) (hk:Keep M w w2) (hm:∀ b x,b < w.heap.size→M b x→¬ uT U Bf b x∧¬ S b):UX d U Bf C snap it w2 S:=by
 have hU:=aC h.u0
 obtain ⟨v9,h9⟩:=h.c9
 have hB:=aC h9
 obtain ⟨vs,ls,a,b,rfl⟩:=h.s
 have nU:∀ x,x≤1∨93≤x→¬ M U x:=fun x hx h=>(hm _ _ hU h).1 (.inl ⟨rfl,hx⟩)
 have nB:∀ x,9≤x→¬ M Bf x:=fun x hx h=>(hm _ _ hB h).1 (.inr ⟨rfl,hx⟩)
 exact ⟨hk.some h.u0 (nU _ (by omega)),hk.some h.u1 (nU _ (by omega)),hk.some h.u93 (nU _ (by omega)),hk.some h.u94 (nU _ (by omega)),⟨v9,hk.some h9 (nB _ (by omega))⟩,vs,ls,a.keep hk (nB _ (by omega)) fun g hg x h=>(hm g x (a.own.lt g hg).2 h).2 hg,b,rfl⟩
theorem UX.tr {vk vs vs':Value} {ls':List KR} (h:UX d U Bf C snap it w S) (hk:Keep (Ik U Bf vk vs) w w2) (ne:Bf≠U) (hvk:∀ g,vk.ownBlock=some g→g≠U∧g≠Bf) (hvs:∀ g,vs.ownBlock=some g→g≠U∧g≠Bf∧cj d g) (hd:cM d w)
    (os:KOwn d w2 Bf 10 vs' ls') (b9:∃ v,w2.cell? ⟨Bf,9,none⟩=some v) (nw:cZ w vs vs'):UX d U Bf C snap it w2 (fun b=>vs'.ownBlock=some b):=by
 have nU:∀ x,x≤1∨93≤x→¬ Ik U Bf vk vs U x:=by
  rintro x hx (⟨_,h1,h2⟩ | ⟨h,_⟩ | h | h)
  ·omega
  ·exact ne h.symm
  ·exact (hvk _ h).1 rfl
  ·exact (hvs _ h).1 rfl
 refine ⟨hk.some h.u0 (nU _ (by omega)),hk.some h.u1 (nU _ (by omega)),hk.some h.u93 (nU _ (by omega)),hk.some h.u94 (nU _ (by omega)),b9,vs',ls',os,fun g hg => ?_,rfl⟩
 rcases nw g hg with h | h
 ·exact (hvs g h).2.2
 ·exact hd.out h
theorem UX.ti {F:List K→List K} {ord:Int} (ne:Bf≠U) (oU:cj d U) (oB:cj d Bf) {HK:List K→Prop}
    (hrun:∀ {w:World} {S:Nat→Prop} {l:List KR} {ks:List K} {ka sa ea:Option Addr} {cap sn sc en ec:Nat} {k:aq},UX d U Bf C snap it w S →
    w.cell? ⟨U,6,none⟩=some (.slice sa sn sc)→w.cell? ⟨U,7,none⟩=some (.slice ea en ec)→w.cell? ⟨U,8,none⟩=some (.slice ka l.length cap)→w.cell? ⟨U,9,none⟩=some (.int .i8 0) →
    KOwn d w Bf 0 (.slice ka l.length cap) l→(∀ x,w.frozen? ⟨U,x,none⟩=false)→(∀ x,w.frozen? ⟨Bf,x,none⟩=false)→cM d w →
    (∀ g,(Value.slice ka l.length cap).ownBlock=some g→g≠U∧g≠Bf∧cj d g∧¬ S g)→(∀ g,S g→g≠U∧g≠Bf) →
    DK l→l.length < 100000→(l.map KR.k).Perm ks→Cd ks→HK ks →
    (∀ w' S' c kv,w'.cell? ⟨U,6,none⟩=some (.slice sa sn sc)→w'.cell? ⟨U,7,none⟩=some (.slice ea en ec)→w'.cell? ⟨U,8,none⟩=some kv→w'.cell? ⟨U,9,none⟩=some (.int .i8 ord) →
     KOwn d w' Bf 0 (.slice ka l.length cap) c→c.length=l.length→zN d (fun b=>(Value.slice ka l.length cap).ownBlock=some b∨S' b) w' kv (F ks)→UX d U Bf C snap it w' S'→(∀ b,S' b→S b∨w.heap.size≤b)→Keep (LR (uX d U Bf C snap it F ord) U 6 (.slice ka l.length cap) S) w w'→k .nilIface w') →
    ai Tryz.prog 166 #[.pointer (some ⟨U,0,none⟩),.func (.func 85) #[] #[],.agg [.slice sa sn sc,.slice ea en ec,.slice ka l.length cap,.int .i8 0].toArray,.pointer (some ⟨U,6,none⟩)] k w) :
    TI d U (2+4) Bf HK (uX d U Bf C snap it F ord) where
 keep h hk hm:=UX.keep h hk fun b x hb hx=>⟨(hm b x hb hx).1,(hm b x hb hx).2.1⟩
 outS h b hb:=by
  obtain ⟨vs,ls,a,c,rfl⟩:=h.s
  exact ⟨c b hb,(a.own.lt b hb).2⟩
 tT h:=by
  rcases h with ⟨rfl,h⟩ | ⟨rfl,h⟩
  ·exact .inl ⟨rfl,by omega⟩
  ·exact .inr ⟨rfl,h⟩
 tl h ht:=by
  obtain ⟨v9,h9⟩:=h.c9
  rcases ht with ⟨rfl,_⟩ | ⟨rfl,_⟩
  ·exact aC h.u0
  ·exact aC h9
 run hX q6 q7 q8 q9 hk fU fB hd _ _ _ hv hS hdk hl hp hcd hHK hq:=by
  show cQ Tryz.prog (.iface 227 (.pointer (some ⟨U, 0, none⟩))) "Transform" _ _ _
  rw [Tryz.iv227_Transform]
  exact hrun hX q6 q7 q8 q9 hk fU fB hd hv hS hdk hl hp hcd hHK hq
theorem F1 (ne:Bf≠U) (oU:cj d U) (oB:cj d Bf) (hC:d.cell? ⟨C,1,none⟩=some (.func (.func 86) #[] #[])) (hs:snap < 18446744073709551616):TI d U (2+4) Bf (fun _=>True) (uX d U Bf C snap false (Tf snap) 1):=by
 refine UX.ti ne oU oB fun {w S l ks ka sa ea cap sn sc en ec k} hX q6 q7 q8 q9 hkey fU fB hd hv hS hdk hl hp hcd _ hq => ?_
 obtain ⟨vs,ls,os,oo,rfl⟩:=hX.s
 refine tS hX.u0 hX.u1 hX.u93 hX.u94 hC hX.c9 hkey os ⟨_,q6⟩ ⟨_,q7⟩ q8 ⟨_,q9⟩ fU fB hd oU oB ne (fun g hg=>⟨(hv g hg).1,(hv g hg).2.1,(hv g hg).2.2.1⟩) (fun g hg=>⟨(hS g hg).1,(hS g hg).2,oo g hg,fun h=>(hv g h).2.2.2 hg⟩) hdk hl (fun x hx=>hcd.kind _ (hp.mem_iff.1 (List.mem_map_of_mem hx))) hs (fun h=>by cases h) fun _ w' r c vs' ls' hcr p6 p7 p8 p9 ok oc ot os' b9 nw k4 => ?_
 refine hq w' (fun b=>vs'.ownBlock=some b) c _ p6 p7 p8 p9 ok oc ⟨ka,l.length,cap,c,_,rfl,by have:=ok.own; rwa [oc] at this,oc,ot,ok.good,JV hdk hcr hp hcd,fun g hg => .inl hg⟩ (hX.tr k4 ne (fun g hg=>⟨(hv g hg).1,(hv g hg).2.1⟩) (fun g hg=>⟨(hS g hg).1,(hS g hg).2,oo g hg⟩) hd os' b9 nw) nw (k4.mono fun b x _ h => ?_)
 rcases h with ⟨h1,h2,h3⟩ | ⟨h1,h2,h3⟩ | h | h
 ·exact .inl ⟨h1,h2,h3⟩
 ·exact .inr (.inl (.inr ⟨h1,by omega⟩))
 ·exact .inr (.inr (.inl h))
 ·exact .inr (.inr (.inr h))
end
end Go.E
end
