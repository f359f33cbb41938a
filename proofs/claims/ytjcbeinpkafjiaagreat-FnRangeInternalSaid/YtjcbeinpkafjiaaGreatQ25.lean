/- Parts of the proof: Xq, Xr, Xs, Xv, Vj, Xt, Vq, Vr, Wm. -/
import Derived.Test.YtjcbeinpkafjiaaGreatQ20
import Derived.Test.YtjcbeinpkafjiaaGreatQ21
import Derived.Test.YtjcbeinpkafjiaaGreatQ22
import Derived.Test.YtjcbeinpkafjiaaGreatQ23
import Derived.Test.YtjcbeinpkafjiaaGreatQ24
set_option linter.all false
set_option maxRecDepth 10000
section
namespace Go.E
open Go Go.Sort Go.Proofs Go.Proofs.Tryz
theorem Gr.mut {d w d1 w1 w2:World} {M:Nat→Nat→Prop} (g:Gr d w d1 w1) (k:Keep M w1 w2) (hM:∀ b o,M b o→w.heap.size≤b∧dA d1 b):Gr d w d1 w2:=by
 refine ⟨g.x.tr k fun b o hb hm=>by have:=(hM b o hm).1; omega,g.i,fun b o u hu=>k.some (g.j _ _ _ hu) fun hm => ?_,g.o⟩
 rw [(hM b o hm).2 o] at hu
 simp at hu
end Go.E
namespace Go.Proofs
open Go Go.E Go.Sort Go.Proofs.Tryz
section
variable {k:ae} {d w:World}
theorem xR {v:Value} {l:List K} (hv:Sl KE 3 d v l) (hl:l.length≤100000) (hinc:cH d w) (hk:∀ d' w' v',Gr d w d' w'→Sl KE 3 d' v' l→k v' w'):aU prog 123 #[v] k w:=by
 obtain ⟨ka,kc,rfl⟩:=hv.form
 refine aW [.tmp 2] func123 ?_
 refine aY ?_
 refine bI (fun b:Nat × Value=>[(3,b.2),(6,.slice ka l.length kc),(7,.int .i64 l.length),(8,.int .i64 b.1)])
  (fun b w'=>b.1≤l.length∧∃ d1,LoopL KE 3 62 d w d1 w' b.2 (l.take b.1)) (fun b _=>l.length - b.1) (0,.slice none 0 0) (by kernel_rfl) ?_ ⟨aM _,d,LoopL.nil hinc⟩ ?_
 ·exact bA
 rintro K2 e ⟨i,v⟩ w1 ⟨i2,d1,i3⟩ hK2
 simp only at i2 i3
 rcases aH i l.length with hi | hi
 rotate_left
 ·have hi':¬ (i:Int) < l.length:=by omega
  refine bP @hi' ?_
  obtain rfl:i=l.length:=by omega
  rw [ai] at i3
  obtain ⟨d2,g2,_,_,s2⟩:=i3.done KE.mono
  exact hk d2 w1 v g2 s2
 have hi':(i:Int) < l.length:=by omega
 obtain ⟨g,f,c,hv',hc,hat⟩:=(hv.inc KE.mono i3.g.i).at (by omega)
 obtain ⟨rfl,rfl⟩:=sEq hv'
 obtain ⟨x,hx⟩:=gEl hi
 obtain ⟨cs,_,hcs,hR⟩:=hat i x hx
 have hmem:=aL hx
 obtain ⟨rfl,htr⟩:=hR
 have h0:w1.cell? ⟨g,f+i * 3,none⟩=some (.int .u64 x.tr):=i3.g.j _ _ _ (hcs 0 _ rfl)
 have h1:w1.cell? ⟨g,f+i * 3+1,none⟩=some (.string ⟨x.suf.toArray⟩):=i3.g.j _ _ _ (hcs 1 _ rfl)
 have h2:w1.cell? ⟨g,f+i * 3+2,none⟩=some (.string ⟨x.val.toArray⟩):=i3.g.j _ _ _ (hcs 2 _ rfl)
 obtain ⟨va,vcap,rfl,_⟩:=i3.form
 have i4:=i3.ext KE.mono (aK (.cells #[.int .u64 x.tr,.string ⟨x.suf.toArray⟩,.string ⟨x.val.toArray⟩] 88))
 obtain ⟨css,o4⟩:=i4.o
 refine gW @hi' @h0 @h1 @h2 @aA ?_
 refine pP x [.int .u64 x.tr,.string ⟨x.suf.toArray⟩,.string ⟨x.val.toArray⟩] rw54 o4 ⟨rfl,htr⟩ rfl (.inl rfl) (World.size_alloc _ _).symm rfl (by simp [Value.oneCell']) (by rw [eD i2]; omega) i4.g.j fun v2 w2 o2 k2 n2 j2 _ => ?_
 refine aY ?_
 refine hK2 _ _ (i+1,v2) ?_ ⟨hi,d1,?_⟩ (by simp only; omega)
 ·exact bA
 ·rw [cj hx]
  exact i4.more o2 k2 n2 j2
theorem xS {kv:Value} {x:Sp} (hv:Sl KE 3 d kv x.ks) (hl:x.ks.length≤100000) (hinc:cH d w) (hk:∀ d' w' v',Gr d w d' w'→Sl KE 3 d' v' x.ks→k (.agg #[.string ⟨x.s.toArray⟩,.string ⟨x.e.toArray⟩,v']) w') :
    aU prog 89 #[.agg #[.string ⟨x.s.toArray⟩,.string ⟨x.e.toArray⟩,kv]] k w:=by
 obtain ⟨ka,kc,rfl⟩:=hv.form
 refine aW [.cell 2 56] func89 ?_
 refine aY ?_
 refine ao (sq [0] (.read 1 (sq [2] (.read 3 (sq [4] (.read 5 (.eff 6 [1,3] (sq [7] (.eff 8 [] .done))))))))) ?_
 obtain ⟨A,hA⟩:∃ A,A=w.heap.size:=⟨_,rfl⟩
 obtain ⟨W,hW⟩:∃ W,W=((w.alloc (.cells #[.string ⟨x.s.toArray⟩,.string ⟨x.e.toArray⟩,.slice ka x.ks.length kc] 46)).alloc (.cells #[.string ByteArray.empty,.string ByteArray.empty,.slice none 0 0] 56)).drew:=⟨_,rfl⟩
 have xW:bV w W:=by rw [hW]; exact bV.drew' ((aK _).trans (aK _))
 have a0:W.cell? ⟨A,0,none⟩=some (.string ⟨x.s.toArray⟩):=by rw [hW,hA]; exact bU @aA
 have a1:W.cell? ⟨A,1,none⟩=some (.string ⟨x.e.toArray⟩):=by rw [hW,hA]; exact bU @aA
 have b0:W.cell? ⟨A+1,0,none⟩=some (.string ByteArray.empty):=by rw [hW,hA]; exact bU @aA
 have b1:W.cell? ⟨A+1,1,none⟩=some (.string ByteArray.empty):=by rw [hW,hA]; exact bU @aA
 have b2:W.cell? ⟨A+1,2,none⟩=some (.slice none 0 0):=by rw [hW,hA]; exact bU @aA
 have fz:∀ y,W.frozen? ⟨A+1,y,none⟩=false:=fun y=>by rw [hW,hA]; exact bU @ed
 have zW:W.heap.size=A+2:=by rw [hW,hA]; simp only [World.size_drew,World.size_alloc]
 refine bP @aA ?_
 rw [← hA,← hW]
 refine xR hv hl (hinc.trans xW.inc) fun d1 w1 v1 g1 s1 => ?_
 obtain ⟨va,vc,rfl⟩:=s1.form
 have a0:=g1.x.cell a0
 have a1:=g1.x.cell a1
 have b0:=g1.x.cell b0
 have b1:=g1.x.cell b1
 have b2:=g1.x.cell b2
 have fz:∀ y,w1.frozen? ⟨A+1,y,none⟩=false:=fun y=>by rw [g1.x.frozen _ y (by omega)]; exact fz y
 have hoA:dA d (A+1):=hinc.out (by omega)
 refine me @a0 @a1 @b0 @b1 @b2 @fz ?_
 have kk:=(((Keep.refl (M:=fun b _=>b=A+1) w1).set (b:=A+1) (o:=0) (v := .string ⟨x.s.toArray⟩) fun _=>rfl).set (b:=A+1) (o:=1) (v := .string ⟨x.e.toArray⟩) fun _=>rfl).set (b:=A+1) (o:=2) (v := .slice va x.ks.length vc) fun _=>rfl
 exact hk _ _ _ (((Gr.ext hinc xW).trans g1).mut kk fun b o h=>by
  subst h
  exact ⟨by omega,g1.o _ (by omega) hoA⟩) s1
theorem vp {v:Value} {l:List Sp} (hv:Sl jB 3 d v l) (hl:l.length≤100000) (hks:∀ x ∈ l,x.ks.length≤100000) (hinc:cH d w) (hk:∀ d' w' v',Gr d w d' w'→Sl jB 3 d' v' l→k v' w'):aU prog 53 #[v] k w:=by
 obtain ⟨ka,kc,rfl⟩:=hv.form
 refine aW [.tmp 2] func53 ?_
 refine aY ?_
 refine bI (fun b:Nat × Value=>[(3,b.2),(6,.slice ka l.length kc),(7,.int .i64 l.length),(8,.int .i64 b.1)])
  (fun b w'=>b.1≤l.length∧∃ d1,LoopL jB 3 56 d w d1 w' b.2 (l.take b.1)) (fun b _=>l.length - b.1) (0,.slice none 0 0) (by kernel_rfl) ?_ ⟨aM _,d,LoopL.nil hinc⟩ ?_
 ·exact bA
 rintro K2 e ⟨i,v⟩ w1 ⟨i2,d1,i3⟩ hK2
 simp only at i2 i3
 rcases aH i l.length with hi | hi
 rotate_left
 ·have hi':¬ (i:Int) < l.length:=by omega
  refine bP @hi' ?_
  obtain rfl:i=l.length:=by omega
  rw [ai] at i3
  obtain ⟨d2,g2,_,_,s2⟩:=i3.done jB.mono
  exact hk d2 w1 v g2 s2
 have hi':(i:Int) < l.length:=by omega
 obtain ⟨g,f,c,hv',hc,hat⟩:=(hv.inc jB.mono i3.g.i).at (by omega)
 obtain ⟨rfl,rfl⟩:=sEq hv'
 obtain ⟨x,hx⟩:=gEl hi
 obtain ⟨cs,_,hcs,hR⟩:=hat i x hx
 have hmem:=aL hx
 obtain ⟨kv,rfl,hkv⟩:=hR
 obtain ⟨kva,kvc,rfl⟩:=hkv.form
 have h0:w1.cell? ⟨g,f+i * 3,none⟩=some (.string ⟨x.s.toArray⟩):=i3.g.j _ _ _ (hcs 0 _ rfl)
 have h1:w1.cell? ⟨g,f+i * 3+1,none⟩=some (.string ⟨x.e.toArray⟩):=i3.g.j _ _ _ (hcs 1 _ rfl)
 have h2:w1.cell? ⟨g,f+i * 3+2,none⟩=some (.slice kva x.ks.length kvc):=i3.g.j _ _ _ (hcs 2 _ rfl)
 have i4:=i3.ext jB.mono (aK (.cells #[.string ⟨x.s.toArray⟩,.string ⟨x.e.toArray⟩,.slice kva x.ks.length kvc] 46))
 refine gW @hi' @h0 @h1 @h2 @aA ?_
 refine xS (x:=x) hkv (hks x hmem) i4.g.j fun d4 w4 v4 g4 s4 => ?_
 have i5:=i4.call jB.mono g4
 obtain ⟨css,o5⟩:=i5.o
 obtain ⟨va,vcap,rfl,_⟩:=i5.form
 obtain ⟨k4,c4,rfl⟩:=s4.form
 refine aY ?_
 refine pP x [.string ⟨x.s.toArray⟩,.string ⟨x.e.toArray⟩,.slice k4 x.ks.length c4] rw74 o5 ⟨_,rfl,s4⟩ rfl (.inl rfl) rfl rfl (by simp [Value.oneCell']) (by rw [eD i2]; omega) i5.g.j fun v2 w2 o2 k2 n2 j2 _ => ?_
 refine aY ?_
 refine hK2 _ _ (i+1,v2) ?_ ⟨hi,d4,?_⟩ (by simp only; omega)
 ·exact bA
 ·rw [cj hx]
  exact i5.more o2 k2 n2 j2
theorem tY {v:Value} {l:List (List Sp)} (hv:Sl kO 1 d v l) (hl:l.length≤100000) (hs:∀ x ∈ l,x.length≤100000∧∀ y ∈ x,y.ks.length≤100000) (hinc:cH d w) (hk:∀ d' w' v',Gr d w d' w'→Sl kO 1 d' v' l→k v' w'):aU prog 19 #[v] k w:=by
 obtain ⟨ka,kc,rfl⟩:=hv.form
 refine aW [.tmp 2] func19 ?_
 refine aY ?_
 refine bI (fun b:Nat × Value=>[(3,b.2),(6,.slice ka l.length kc),(7,.int .i64 l.length),(8,.int .i64 b.1)])
  (fun b w'=>b.1≤l.length∧∃ d1,LoopL kO 1 74 d w d1 w' b.2 (l.take b.1)) (fun b _=>l.length - b.1) (0,.slice none 0 0) (by kernel_rfl) ?_ ⟨aM _,d,LoopL.nil hinc⟩ ?_
 ·exact bA
 rintro K2 e ⟨i,v⟩ w1 ⟨i2,d1,i3⟩ hK2
 simp only at i2 i3
 rcases aH i l.length with hi | hi
 rotate_left
 ·have hi':¬ (i:Int) < l.length:=by omega
  refine bP @hi' ?_
  obtain rfl:i=l.length:=by omega
  rw [ai] at i3
  obtain ⟨d2,g2,_,_,s2⟩:=i3.done kO.mono
  exact hk d2 w1 v g2 s2
 have hi':(i:Int) < l.length:=by omega
 obtain ⟨g,f,c,hv',hc,hat⟩:=(hv.inc kO.mono i3.g.i).at (by omega)
 obtain ⟨rfl,rfl⟩:=sEq hv'
 obtain ⟨x,hx⟩:=gEl hi
 obtain ⟨cs,_,hcs,hR⟩:=hat i x hx
 have hmem:=aL hx
 obtain ⟨kv,rfl,hkv⟩:=hR
 obtain ⟨kva,kvc,rfl⟩:=hkv.form
 have h0:w1.cell? ⟨g,f+i * 1,none⟩=some (.slice kva x.length kvc):=i3.g.j _ _ _ (hcs 0 _ rfl)
 refine dU @hi' @h0 ?_
 refine vp hkv (hs x hmem).1 (hs x hmem).2 i3.g.j fun d4 w4 v4 g4 s4 => ?_
 have i5:=i3.call kO.mono g4
 obtain ⟨css,o5⟩:=i5.o
 obtain ⟨va,vcap,rfl,_⟩:=i5.form
 obtain ⟨k4,c4,rfl⟩:=s4.form
 refine aY ?_
 refine pP x [.slice k4 x.length c4] rw35 o5 ⟨_,rfl,s4⟩ rfl (.inl rfl) rfl rfl (by simp [Value.oneCell']) (by rw [eD i2]; omega) i5.g.j fun v2 w2 o2 k2 n2 j2 _ => ?_
 refine aY ?_
 refine hK2 _ _ (i+1,v2) ?_ ⟨hi,d4,?_⟩ (by simp only; omega)
 ·exact bA
 ·rw [cj hx]
  exact i5.more o2 k2 n2 j2
end
end Go.Proofs
end
section
namespace Go.Proofs
open Go Go.E Go.Sort
section
variable {k:ae} {d w:World}
end
end Go.Proofs
end
section
namespace Go.E
open Go Go.Sort Go.Proofs
theorem zo (x:Sp):fT x=⟨x.s,x.e,x.ks.map fun y=>qY y.sv⟩:=by
 unfold fT
 rw [eF]
 rfl
end Go.E
namespace Go.Proofs
open Go Go.E Go.Sort
section
variable {k:ae} {d w:World}
end
end Go.Proofs
end
section
namespace Go.E
open Go Go.Sort Go.Proofs Go.Proofs.Tryz
def Bi:Sp:=⟨[97],[98],[⟨277,[115],[]⟩]⟩
def Bj:List (List Sp):=[[Bi]]
theorem Ee:dP Bj.flatten=[Bi]:=by decide +kernel
theorem GQ:BQ Bj.flatten 2 none none=[⟨[97],[98],[⟨0,[115],[]⟩]⟩]:=by decide +kernel
theorem yJ {α:Type} {R:gY α} {sz N:Nat} {d:World} {cs:List Value} {x:α} (hl:cs.length=sz) (hc:∀ (j:Nat) u,cs[j]? = some u→d.cell? ⟨N,j,none⟩=some u) (hR:R d cs x):Sl R sz d (.slice (some ⟨N,0,none⟩) 1 1) [x]:=by
 refine ⟨fun _=>rfl,rfl,aD _,fun i y hy => ?_⟩
 rcases i with _ | i
 ·obtain rfl:x=y:=by simpa using hy
  refine ⟨cs,hl,fun j u hu => ?_,hR⟩
  rw [show 0+0 * sz+j=j by omega]
  exact hc j u hu
 ·simp at hy
theorem H8:Wf [Bi]:=by
 refine ⟨fun i hi => ?_,fun i j h1 h2 => ?_⟩
 ·obtain rfl:i=0:=by simp at hi; omega
  decide
 ·simp at h2; omega
theorem vq:LvOk Bj 8:=by
 have h1:∀ L ∈ Bj,L=[Bi]:=fun L h=>by simpa [Bj] using h
 refine ⟨by decide,fun L h=>by rw [h1 L h]; decide,fun L h=>by rw [h1 L h]; exact H8,fun L h s hs => ?_,fun f hf => ?_⟩
 ·rw [h1 L h] at hs
  rw [aT.1 hs]
  exact ⟨by simp [Bi],by decide⟩
 ·rw [Ee] at hf
  rw [aT.1 hf]
  refine ⟨fun x hx => ?_,by simp [Bi]⟩
  have:x=⟨277,[115],[]⟩:=by simpa [Bi] using hx
  subst this
  exact ⟨.inr (.inr (by decide)),fun h=>by simp [ag] at h,fun h=>by simp [ag] at h⟩
theorem HM:RIn Bj 2 none none:=by
 have h1:∀ L ∈ Bj,L=[Bi]:=fun L h=>by simpa [Bj] using h
 refine ⟨by decide,by decide,vq.wf,fun L h => ?_,vq.cdF,?_⟩
 ·rw [h1 L h]
  refine ⟨by decide,fun s hs => ?_⟩
  rw [aT.1 hs]
  refine ⟨by decide,by decide,by decide,by simp [Bi],fun x hx => ?_⟩
  have:x=⟨277,[115],[]⟩:=by simpa [Bi] using hx
  subst this
  exact ⟨by decide,by decide⟩
 ·exact fun l h hl=>by cases hl
end Go.E
namespace Go.Proofs
open Go Go.E Go.Sort Go.Proofs.Tryz
section
variable {k:ae} {d w:World}
theorem rQ {v:Value} {l:List An} {a:An} (hv:Sl wz 5 w v l) (hl:l=[a]) (hok:a.ok=true) (hk:k (.bool true) w):aU prog 73 #[v] k w:=by
 subst hl
 obtain ⟨ka,kc,rfl⟩:=hv.form
 obtain ⟨g,f,c,hv',hc,hat⟩:=hv.at (by simp)
 obtain ⟨rfl,rfl⟩:=sEq hv'
 obtain ⟨h0,h1,h2,h3,xa,xc,h4,hxk⟩:=oG (hat 0 a rfl)
 rw [hok] at h1
 simp only [Nat.zero_mul,Nat.add_zero] at h1
 refine aW [.tmp 2] func73 ?_
 have e1:(((1:Nat):Int) == 1)=true:=rfl
 have e2:(0:Int) < ((1:Nat):Int):=by decide
 simp (disch:=first | exact dZ | fail) only [go_sem,h1,ak,e1,e2,Int.toNat_zero,Nat.zero_mul,Nat.add_zero]
 exact hk
theorem qj (hinc:cH d w) (hk:∀ w2,bV w w2→k (.bool true) w2):aU prog 22 #[] k w:=by
 refine aW [.tmp 0] func22 ?_
 refine aY ?_
 refine aW [.tmp 0] func72 ?_
 refine aY ?_
 obtain ⟨A,hA⟩:∃ A,A=w.heap.size:=⟨_,rfl⟩
 have eS:ByteArray.empty=⟨([]:Bytes).toArray⟩:=rfl
 obtain ⟨W,hW⟩:∃ W,W=(((w.alloc (.cells #[.int .u64 277,.string ⟨#[115]⟩,.string ByteArray.empty] 62)).alloc (.cells #[.string ⟨#[97]⟩,.string ⟨#[98]⟩,.slice (some ⟨w.heap.size,0,none⟩) 1 1] 56)).alloc (.cells #[.slice (some ⟨w.heap.size+1,0,none⟩) 1 1] 74)).alloc (.cells #[.int .u8 0,.string ByteArray.empty] 53):=⟨_,rfl⟩
 have xW:bV w W:=by rw [hW]; exact (((aK _).trans (aK _)).trans (aK _)).trans (aK _)
 have k0:W.cell? ⟨A,0,none⟩=some (.int .u64 277):=by rw [hW,hA]; exact bU @aA
 have k1:W.cell? ⟨A,1,none⟩=some (.string ⟨#[115]⟩):=by rw [hW,hA]; exact bU @aA
 have k2:W.cell? ⟨A,2,none⟩=some (.string ByteArray.empty):=by rw [hW,hA]; exact bU @aA
 have s0:W.cell? ⟨A+1,0,none⟩=some (.string ⟨#[97]⟩):=by rw [hW,hA]; exact bU @aA
 have s1:W.cell? ⟨A+1,1,none⟩=some (.string ⟨#[98]⟩):=by rw [hW,hA]; exact bU @aA
 have s2:W.cell? ⟨A+1,2,none⟩=some (.slice (some ⟨A,0,none⟩) 1 1):=by rw [hW,hA]; exact bU @aA
 have l0:W.cell? ⟨A+1+1,0,none⟩=some (.slice (some ⟨A+1,0,none⟩) 1 1):=by rw [hW,hA]; exact bU @aA
 have t0:W.cell? ⟨A+1+1+1,0,none⟩=some (.int .u8 0):=by rw [hW,hA]; exact bU @aA
 have t1:W.cell? ⟨A+1+1+1,1,none⟩=some (.string ByteArray.empty):=by rw [hW,hA]; exact bU @aA
 rw [← hW,← hA]
 obtain ⟨d4,g4,e4⟩:=vL hinc xW
 have sk:Sl KE 3 d4 (.slice (some ⟨A,0,none⟩) 1 1) [⟨277,[115],[]⟩]:=yJ (cs:=[.int .u64 277,dV [115],dV []]) rfl (fun j u hu=>by
  match j,hu with
  | 0,hu=>obtain rfl:=bq hu; exact e4 _ _ _ (by omega) k0
  | 1,hu=>obtain rfl:=bq hu; exact e4 _ _ _ (by omega) k1
  | 2,hu=>obtain rfl:=bq hu; exact e4 _ _ _ (by omega) k2) ⟨rfl,by decide⟩
 have ss:Sl jB 3 d4 (.slice (some ⟨A+1,0,none⟩) 1 1) [Bi]:=H7 (e4 _ _ _ (by omega) s0) (e4 _ _ _ (by omega) s1) (e4 _ _ _ (by omega) s2) sk
 have sl:Sl kO 1 d4 (.slice (some ⟨A+1+1,0,none⟩) 1 1) Bj:=yJ (cs:=[.slice (some ⟨A+1,0,none⟩) 1 1]) rfl (fun j u hu=>by
  match j,hu with
  | 0,hu=>obtain rfl:=bq hu; exact e4 _ _ _ (by omega) l0) ⟨_,rfl,ss⟩
 have st:Sl B5 2 d4 (.slice (some ⟨A+1+1+1,0,none⟩) 1 1) [(0,[])]:=yJ (cs:=[.int .u8 0,dV []]) rfl (fun j u hu=>by
  match j,hu with
  | 0,hu=>obtain rfl:=bq hu; exact e4 _ _ _ (by omega) t0
  | 1,hu=>obtain rfl:=bq hu; exact e4 _ _ _ (by omega) t1) ⟨rfl,by decide⟩
 rw [eS]
 have stok:Bh (kB [] false) (kB [] false) [(0,[])]:=fun x hx=>by
  rw [aT.1 hx]
  exact ⟨fun _=>rfl,fun _=>rfl,fun h=>by simp at h,by decide⟩
 refine rP (kl:=[]) (kh:=[]) (bl:=false) (bh:=false) sl st g4.j HM (by decide) (by decide) stok (by decide) fun d5 w5 v l g5 s5 hp => ?_
 have hv0:(rV Bj 2 none none).map fT=[⟨[97],[98],[⟨0,[115],[]⟩]⟩]:=by
  rw [← Cp vq.wf (fun L h s hs=>(vq.ks L h s hs).1) vq.cdF]
  exact GQ
 obtain ⟨V,hV⟩:∃ V,V=rV Bj 2 none none:=⟨_,rfl⟩
 have hp:Pw (qS V (GF qT)) (tF V (-2) false 0 [(0,[])]) l:=by rw [hV]; exact hp
 rw [← hV] at hv0
 have hVl:V.length=1:=by have:=congrArg List.length hv0; simpa using this
 have hw0:tF V (-2) false 0 [(0,[])]=[some 0]:=rfl
 rw [hw0] at hp
 obtain ⟨a,rfl⟩:∃ a,l=[a]:=by
  have:=hp.1
  match l,this with
  | [a],_=>exact ⟨a,rfl⟩
 obtain ⟨h1,h2,h3,h4⟩:=hp.2 0 _ _ rfl rfl
 have hok:a.ok=true:=by rw [h2]; exact aQ ⟨Int.le_refl _,by omega⟩
 obtain ⟨_,_,h5,_⟩:=h3 0 rfl (by omega)
 have hkl:a.sp.ks.length=1:=by
  have e1:=congrArg List.length h5
  rw [bK,bK] at e1
  have e2:((V.map fT)[0]!).ks.length=1:=by rw [hv0]; rfl
  rw [aI (V.map fT) 0 (by simp; omega),List.getElem_map,zo,bK] at e2
  rw [aI V 0 (by omega)] at e1
  rw [e1,e2]
 have s6:=s5.inc wz.mono g5.j
 obtain ⟨va,vc,rfl⟩:=s6.form
 obtain ⟨g,f,c,hv',hc,hat⟩:=s6.at (by simp)
 obtain ⟨rfl,rfl⟩:=sEq hv'
 obtain ⟨_,_,_,_,xa,xc,p4,_⟩:=oG (hat 0 a rfl)
 simp only [Nat.zero_mul,Nat.add_zero,hkl] at p4
 refine aY ?_
 refine rQ s6 rfl hok ?_
 have e1:(((1:Nat):Int) == 1)=true:=rfl
 have e2:(0:Int) < ((1:Nat):Int):=by decide
 simp (disch:=first | exact dZ | fail) only [go_sem,p4,ak,e1,e2,Int.toNat_zero,Nat.zero_mul,Nat.add_zero]
 exact hk _ (xW.trans g5.x)
end
end Go.Proofs
end
section
namespace Go.E
open Go Go.Sort Go.Proofs
theorem tZ (G:List Sp):GB G none none=G:=by
 show (G.take G.length).drop 0=G
 rw [ai,List.drop_zero]
section
variable {Lv:List (List Sp)} {n snap:Nat} {x:Bytes}
theorem xT {β:Type} [DecidableEq β] {π:K→β} {V:List Sp} (hw:Wf V) {p:Nat} (hp:cV V x=p):(p < V.length→¬ x < V[p]!.s→jN π V x=V[p]!.ks.map π∧x < V[p]!.e)∧((p < V.length→x < V[p]!.s)→jN π V x=[]):=by
 obtain ⟨h1,h2,h3⟩:=ig V x
 rw [hp] at h1 h2 h3
 refine ⟨fun h hs=>⟨nV hw h hs (h3 h),h3 h⟩,fun h=>kC fun j hj => ?_⟩
 rintro ⟨a,b⟩
 rcases cg j p with hjp | rfl | hjp
 ·exact h2 j hjp b
 ·exact a (h hj)
 ·have h4:=hw.2 p j hjp hj
  have h5:=h (by omega)
  have h6:=h3 (by omega)
  exact a (bw h6 h4)
end
section
variable {Lv:List (List Sp)} {n snap:Nat}
theorem Ef (lo:LvOk Lv n) (hn:n≤900) (hsn:snap < 18446744073709551616) (f2:∀ x ∈ Lv,x.length≤2147483647∧∀ y ∈ x,zT y) {l h:Option Bytes} (hb:uv l h):RIn Lv snap l h :=
 ⟨by have:=lo.n6; omega,hsn,lo.wf,fun L h=>⟨by have:=lo.sz L h; omega,fun s hs=>by
  obtain ⟨q1,q2,q3,q4⟩:=(f2 L h).2 s hs
  refine ⟨by omega,by omega,by have:=(lo.ks L h s hs).2; omega,(lo.ks L h s hs).1,fun x hx => ?_⟩
  obtain ⟨q5,q6⟩:=q4 x hx
  exact ⟨by omega,by omega⟩⟩,lo.cdF,hb⟩
theorem zp:uv none none:=fun l h hl=>by cases hl
end
end Go.E
end
section
namespace Go.E
open Go Go.Sort Go.Proofs Go.Proofs.Tryz
theorem Bk {l:List Sp} {key:Bytes} {i:Nat} {x:Sp} (h:l[i]? = some x):lZ (l.take (i+1)) key=lZ (l.take i) key++if iy key x then x.ks else []:=by
 rw [cj h,qZ]
 unfold lZ
 simp
theorem yK {l:List Sp} {key:Bytes} {m:Nat} (h:∀ x ∈ l,x.ks.length≤m):(lZ l key).length≤l.length * m:=by
 induction l with
 | nil=>simp [lZ]
 | cons x l ih =>
  have h1:=h x aR
  have h2:=ih fun y hy=>h y (aZ _ hy)
  have e:lZ (x :: l) key=(if iy key x then x.ks else [])++lZ l key:=by unfold lZ; rw [bW]
  rw [e,aO,aX,Nat.add_mul]
  split
  ·omega
  ·rw [List.length_nil]; omega
end Go.E
namespace Go.Proofs
open Go Go.E Go.Sort Go.Proofs.Tryz
section
variable {k:ae} {d w:World}
theorem xU {v:Value} {l:List Sp} {key:Bytes} (hv:Sl jB 3 w v l) (hl:l.length≤1000) (hks:∀ x ∈ l,x.ks.length≤40) (hk:∀ v2 w2,bV w w2→OwnC td 3 88 w2 v2 (dC (lZ l key))→(∀ g,v2.ownBlock=some g→w.heap.size≤g)→k v2 w2):aU prog 24 #[v,.string ⟨key.toArray⟩] k w:=by
 have htr:=tS hv
 obtain ⟨ka,kc,rfl⟩:=hv.form
 refine aW [.tmp 4] func24 ?_
 refine aY ?_
 refine bI (fun c:Nat × Value=>[(1,.string ⟨key.toArray⟩),(5,c.2),(8,.slice ka l.length kc),(9,.int .i64 l.length),(10,.int .i64 c.1)])
  (fun c w'=>c.1≤l.length∧bV w w'∧OwnC td 3 88 w' c.2 (lZ (l.take c.1) key)∧∀ g,c.2.ownBlock=some g→w.heap.size≤g) (fun c _=>l.length - c.1) (0,.slice none 0 0) (by kernel_rfl) ?_ ⟨aM _,bV.refl _,OwnC.nil pV,by simp [Value.ownBlock]⟩ ?_
 ·exact bA
 rintro K2 e ⟨i,vo⟩ w1 ⟨i2,i3,i4,i5⟩ hK2
 simp only at i2 i4 i5
 have hlen:=yK (key:=key) (m:=40) fun y hy=>hks y (List.mem_of_mem_take (i:=i) hy)
 rw [eD i2] at hlen
 have h40:i * 40≤1000 * 40:=bE _ (by omega)
 rcases aH i l.length with hi | hi
 rotate_left
 ·have hi':¬ (i:Int) < l.length:=by omega
  obtain rfl:i=l.length:=by omega
  rw [ai] at i4 hlen
  have ht:DZ (lZ l key):=fun y hy=>by
   unfold lZ at hy
   obtain ⟨x,hx,hy⟩:=dF.1 hy
   split at hy
   ·exact htr x hx y hy
   ·simp at hy
  obtain ⟨va,vc,rfl,_⟩:=i4.form
  refine bP @hi' ?_
  refine sJ (i4.ke ht) (by omega) fun v2 w2 x2 o2 n2 => ?_
  refine aY ?_
  exact hk _ _ (i3.trans x2) o2 fun g hg=>aP i3.size (n2 g hg)
 have hi':(i:Int) < l.length:=by omega
 obtain ⟨g,f,c,hv',hc,hat⟩:=(hv.inc jB.mono i3.inc).at (by omega)
 obtain ⟨rfl,rfl⟩:=sEq hv'
 obtain ⟨x,hx⟩:=gEl hi
 have hxm:=aL hx
 obtain ⟨h0,h1,a,cc,h2,hkx⟩:=gv (hat i x hx)
 obtain ⟨T,hT⟩:∃ T,T=w1.heap.size:=⟨_,rfl⟩
 obtain ⟨w2,hw2⟩:∃ w2,w2=w1.alloc (.cells #[.string ⟨x.s.toArray⟩,.string ⟨x.e.toArray⟩,.slice a x.ks.length cc] 46):=⟨_,rfl⟩
 have x2:bV w1 w2:=by rw [hw2]; exact aK _
 have a0:w2.cell? ⟨T,0,none⟩=some (.string ⟨x.s.toArray⟩):=by rw [hw2,hT]; exact bU @aA
 have a1:w2.cell? ⟨T,1,none⟩=some (.string ⟨x.e.toArray⟩):=by rw [hw2,hT]; exact bU @aA
 have a2:w2.cell? ⟨T,2,none⟩=some (.slice a x.ks.length cc):=by rw [hw2,hT]; exact bU @aA
 have more:=Bk (key:=key) hx
 refine gW @hi' @h0 @h1 @h2 @aA ?_
 rw [← hw2,← hT]
 refine nY ⟨_,_,_,rfl⟩ fun w3 x3 => ?_
 have x13:=x2.trans x3
 have a2:=x3.cell a2
 cases hc:iy key x with
 | false =>
  rw [hc,if_neg (by decide),bB] at more
  refine aY ?_
  refine hK2 _ _ (i+1,vo) ?_ ⟨hi,i3.trans x13,by simp only; rw [more]; exact i4.ext x13,i5⟩ (by simp only; omega)
  exact bA
 | true =>
  rw [hc,if_pos rfl] at more
  obtain ⟨va,vc,rfl,_⟩:=i4.form
  refine bP @a2 ?_
  have hxl:=hks x hxm
  refine Cq (m:=x.ks) rw44 (i4.ext x13) (yI hkx x13.inc) (fun y _=>pW y) (by omega) fun v5 w5 o5 k5 n5 => ?_
  obtain ⟨va5,vc5,rfl,_⟩:=o5.form
  refine aY ?_
  have hx5:bV w w5:=(i3.trans x13).tr k5 fun b o hb h=>by have:=i5 b h; omega
  refine hK2 _ _ (i+1,_) ?_ ⟨hi,hx5,by simp only; rw [more]; exact o5,fun g hg => ?_⟩ (by simp only; omega)
  ·exact bA
  ·rcases n5 g hg with h | h
   ·exact i5 g h
   ·have:=(i3.trans x13).size; omega
theorem ql {v:Value} {l:List K} (hv:Sl KE 3 d v l) (hl:l.length≤100000) (hinc:cH d w) (hk:∀ d' w' v',Gr d w d' w'→Sl KE 3 d' v' l→k v' w'):aU prog 44 #[v] k w:=by
 obtain ⟨ka,kc,rfl⟩:=hv.form
 refine aW [.tmp 2] func44 ?_
 refine aY ?_
 refine bI (fun b:Nat × Value=>[(3,b.2),(6,.slice ka l.length kc),(7,.int .i64 l.length),(8,.int .i64 b.1)])
  (fun b w'=>b.1≤l.length∧∃ d1,LoopL KE 3 88 d w d1 w' b.2 (l.take b.1)) (fun b _=>l.length - b.1) (0,.slice none 0 0) (by kernel_rfl) ?_ ⟨aM _,d,LoopL.nil hinc⟩ ?_
 ·exact bA
 rintro K2 e ⟨i,v⟩ w1 ⟨i2,d1,i3⟩ hK2
 simp only at i2 i3
 rcases aH i l.length with hi | hi
 rotate_left
 ·have hi':¬ (i:Int) < l.length:=by omega
  refine bP @hi' ?_
  obtain rfl:i=l.length:=by omega
  rw [ai] at i3
  obtain ⟨d2,g2,_,_,s2⟩:=i3.done KE.mono
  exact hk d2 w1 v g2 s2
 have hi':(i:Int) < l.length:=by omega
 obtain ⟨g,f,c,hv',hc,hat⟩:=(hv.inc KE.mono i3.g.i).at (by omega)
 obtain ⟨rfl,rfl⟩:=sEq hv'
 obtain ⟨x,hx⟩:=gEl hi
 obtain ⟨cs,_,hcs,hR⟩:=hat i x hx
 have hmem:=aL hx
 obtain ⟨rfl,htr⟩:=hR
 have h0:w1.cell? ⟨g,f+i * 3,none⟩=some (.int .u64 x.tr):=i3.g.j _ _ _ (hcs 0 _ rfl)
 have h1:w1.cell? ⟨g,f+i * 3+1,none⟩=some (.string ⟨x.suf.toArray⟩):=i3.g.j _ _ _ (hcs 1 _ rfl)
 have h2:w1.cell? ⟨g,f+i * 3+2,none⟩=some (.string ⟨x.val.toArray⟩):=i3.g.j _ _ _ (hcs 2 _ rfl)
 obtain ⟨va,vcap,rfl,_⟩:=i3.form
 have i4:=i3.ext KE.mono (aK (.cells #[.int .u64 x.tr,.string ⟨x.suf.toArray⟩,.string ⟨x.val.toArray⟩] 62))
 obtain ⟨css,o4⟩:=i4.o
 refine gW @hi' @h0 @h1 @h2 @aA ?_
 refine pP x [.int .u64 x.tr,.string ⟨x.suf.toArray⟩,.string ⟨x.val.toArray⟩] rw44 o4 ⟨rfl,htr⟩ rfl (.inl rfl) (World.size_alloc _ _).symm rfl (by simp [Value.oneCell']) (by rw [eD i2]; omega) i4.g.j fun v2 w2 o2 k2 n2 j2 _ => ?_
 refine aY ?_
 refine hK2 _ _ (i+1,v2) ?_ ⟨hi,d1,?_⟩ (by simp only; omega)
 ·exact bA
 ·rw [cj hx]
  exact i4.more o2 k2 n2 j2
theorem xV {kv:Value} {x:Sp} (hv:Sl KE 3 d kv x.ks) (hl:x.ks.length≤100000) (hinc:cH d w) (hk:∀ d' w' v',Gr d w d' w'→Sl KE 3 d' v' x.ks→k (.agg #[.string ⟨x.s.toArray⟩,.string ⟨x.e.toArray⟩,v']) w') :
    aU prog 28 #[.agg #[.string ⟨x.s.toArray⟩,.string ⟨x.e.toArray⟩,kv]] k w:=by
 obtain ⟨ka,kc,rfl⟩:=hv.form
 refine aW [.cell 2 46] func28 ?_
 refine aY ?_
 refine ao (sq [0] (.read 1 (sq [2] (.read 3 (sq [4] (.read 5 (.eff 6 [1,3] (sq [7] (.eff 8 [] .done))))))))) ?_
 obtain ⟨A,hA⟩:∃ A,A=w.heap.size:=⟨_,rfl⟩
 obtain ⟨W,hW⟩:∃ W,W=((w.alloc (.cells #[.string ⟨x.s.toArray⟩,.string ⟨x.e.toArray⟩,.slice ka x.ks.length kc] 56)).alloc (.cells #[.string ByteArray.empty,.string ByteArray.empty,.slice none 0 0] 46)).drew:=⟨_,rfl⟩
 have xW:bV w W:=by rw [hW]; exact bV.drew' ((aK _).trans (aK _))
 have a0:W.cell? ⟨A,0,none⟩=some (.string ⟨x.s.toArray⟩):=by rw [hW,hA]; exact bU @aA
 have a1:W.cell? ⟨A,1,none⟩=some (.string ⟨x.e.toArray⟩):=by rw [hW,hA]; exact bU @aA
 have b0:W.cell? ⟨A+1,0,none⟩=some (.string ByteArray.empty):=by rw [hW,hA]; exact bU @aA
 have b1:W.cell? ⟨A+1,1,none⟩=some (.string ByteArray.empty):=by rw [hW,hA]; exact bU @aA
 have b2:W.cell? ⟨A+1,2,none⟩=some (.slice none 0 0):=by rw [hW,hA]; exact bU @aA
 have fz:∀ y,W.frozen? ⟨A+1,y,none⟩=false:=fun y=>by rw [hW,hA]; exact bU @ed
 have zW:W.heap.size=A+2:=by rw [hW,hA]; simp only [World.size_drew,World.size_alloc]
 refine bP @aA ?_
 rw [← hA,← hW]
 refine ql hv hl (hinc.trans xW.inc) fun d1 w1 v1 g1 s1 => ?_
 obtain ⟨va,vc,rfl⟩:=s1.form
 have a0:=g1.x.cell a0
 have a1:=g1.x.cell a1
 have b0:=g1.x.cell b0
 have b1:=g1.x.cell b1
 have b2:=g1.x.cell b2
 have fz:∀ y,w1.frozen? ⟨A+1,y,none⟩=false:=fun y=>by rw [g1.x.frozen _ y (by omega)]; exact fz y
 have hoA:dA d (A+1):=hinc.out (by omega)
 refine me @a0 @a1 @b0 @b1 @b2 @fz ?_
 have kk:=(((Keep.refl (M:=fun b _=>b=A+1) w1).set (b:=A+1) (o:=0) (v := .string ⟨x.s.toArray⟩) fun _=>rfl).set (b:=A+1) (o:=1) (v := .string ⟨x.e.toArray⟩) fun _=>rfl).set (b:=A+1) (o:=2) (v := .slice va x.ks.length vc) fun _=>rfl
 exact hk _ _ _ (((Gr.ext hinc xW).trans g1).mut kk fun b o h=>by
  subst h
  exact ⟨by omega,g1.o _ (by omega) hoA⟩) s1
end
end Go.Proofs
end
section
namespace Go.E
open Go Go.Sort Go.Proofs
def Wn (l:List K) (x:K):Prop:=ag x.tr=21∧∀ y ∈ l,(ag y.tr=19→y.tr < x.tr)∧(ag y.tr≠19→y.suf=x.suf→y.tr≤x.tr)
theorem sN (s0:List SV) (hs0:s0.Pairwise fun a b=>a.1≠b.1) (l:List K) (hd:l.Pairwise fun x y=>x.tr≤y.tr) (hc:l.Pairwise fun x y=>x.suf=y.suf→x.tr≠y.tr) (hk:∀ x ∈ l,ag x.tr=19∨ag x.tr=20∨ag x.tr=21) :
    (l.foldl ez s0).Pairwise (fun a b=>a.1≠b.1)∧∀ p,p ∈ l.foldl ez s0↔(∃ x ∈ l,Wn l x∧p=x.sv)∨p ∈ s0∧∀ y ∈ l,ag y.tr≠19∧y.suf≠p.1:=by
 have aux:∀ (l m:List K),(m++l).Pairwise (fun x y=>x.tr≤y.tr)→(m++l).Pairwise (fun x y=>x.suf=y.suf→x.tr≠y.tr)→(∀ x ∈ m++l,ag x.tr=19∨ag x.tr=20∨ag x.tr=21)→∀ st:List SV,
     st.Pairwise (fun a b=>a.1≠b.1)→(∀ p,p ∈ st↔(∃ x ∈ m,Wn m x∧p=x.sv)∨p ∈ s0∧∀ y ∈ m,ag y.tr≠19∧y.suf≠p.1) →
     (l.foldl ez st).Pairwise (fun a b=>a.1≠b.1)∧∀ p,p ∈ l.foldl ez st↔(∃ x ∈ m++l,Wn (m++l) x∧p=x.sv)∨p ∈ s0∧∀ y ∈ m++l,ag y.tr≠19∧y.suf≠p.1:=by
  intro l
  induction l with
  | nil=>intro m _ _ _ st h1 h2; rw [bB]; exact ⟨h1,h2⟩
  | cons k l ih =>
   intro m hd hc hk st h1 h2
   rw [List.foldl_cons]
   have ih:=ih (m++[k]) (by simpa using hd) (by simpa using hc) (by simpa using hk) (ez st k)
   rw [eE,List.singleton_append] at ih
   have hkm:∀ y ∈ m,y.tr≤k.tr∧(y.suf=k.suf→y.tr≠k.tr):=fun y hy=>⟨(List.pairwise_append.1 hd).2.2 y hy k aR,(List.pairwise_append.1 hc).2.2 y hy k aR⟩
   have hkk:=hk k (by simp)
   refine ih ?_ fun p => ?_
   ·unfold ez
    split
    ·exact .nil
    ·refine List.pairwise_append.2 ⟨h1.filter _,by split <;> simp,fun a ha b hb => ?_⟩
     have:=(bC.1 ha).2
     simp only [decide_eq_true_eq] at this
     split at hb
     ·rw [aT.1 hb]; exact this
     ·simp at hb
   ·unfold ez
    split
    ·rename_i h19
     simp only [List.not_mem_nil,false_iff]
     rintro (⟨x,hx,⟨hx1,hx3⟩,_⟩ | ⟨_,h⟩)
     ·have h4:=(hx3 k (by simp)).1 h19
      rcases aq.1 hx with hx | hx
      ·have:=(hkm x hx).1; omega
      ·rw [aT.1 hx] at h4; omega
     ·exact (h k (by simp)).1 h19
    ·rename_i h19
     rw [aq,bC,h2]
     constructor
     ·rintro (⟨⟨x,hx,⟨hx1,hx3⟩,rfl⟩ | ⟨h3,h4⟩,hne⟩ | h)
      ·simp only [decide_eq_true_eq] at hne
       refine .inl ⟨x,List.mem_append_left _ hx,⟨hx1,fun y hy => ?_⟩,rfl⟩
       rcases aq.1 hy with hy | hy
       ·exact hx3 y hy
       ·rw [aT.1 hy]
        exact ⟨fun h=>absurd h h19,fun _ h=>absurd h.symm hne⟩
      ·simp only [decide_eq_true_eq] at hne
       refine .inr ⟨h3,fun y hy => ?_⟩
       rcases aq.1 hy with hy | hy
       ·exact h4 y hy
       ·rw [aT.1 hy]
        exact ⟨h19,fun h=>hne h.symm⟩
      ·split at h
       ·rename_i h21
        rw [aT.1 h]
        refine .inl ⟨k,by simp,⟨h21,fun y hy => ?_⟩,rfl⟩
        rcases aq.1 hy with hy | hy
        ·have:=hkm y hy
         refine ⟨fun h9 => ?_,fun _ _=>this.1⟩
         rcases aH y.tr k.tr with h5 | h5
         ·exact h5
         ·have:y.tr=k.tr:=by omega
          rw [this] at h9; omega
        ·rw [aT.1 hy]
         exact ⟨fun h=>absurd h h19,fun _ _=>aD _⟩
       ·simp at h
     ·rintro (⟨x,hx,⟨hx1,hx3⟩,rfl⟩ | ⟨h3,h4⟩)
      ·rcases aq.1 hx with hx | hx
       ·refine .inl ⟨.inl ⟨x,hx,⟨hx1,fun y hy=>hx3 y (List.mem_append_left _ hy)⟩,rfl⟩,?_⟩
        simp only [decide_eq_true_eq]
        intro he
        have h5:=(hx3 k (by simp)).2 h19 he.symm
        have h6:=hkm x hx
        exact h6.2 he (by omega)
       ·rw [aT.1 hx] at hx1 ⊢
        rw [if_pos hx1]
        exact .inr (aT.2 rfl)
      ·refine .inl ⟨.inr ⟨h3,fun y hy=>h4 y (List.mem_append_left _ hy)⟩,?_⟩
       simp only [decide_eq_true_eq]
       exact fun h=>(h4 k (by simp)).2 h.symm
 have:=aux l [] (by simpa using hd) (by simpa using hc) (by simpa using hk) s0 hs0 (by simp)
 simpa using this
theorem Eg:∀ {l:List K},l≠[]→∃ z ∈ l,∀ y ∈ l,y.tr≤z.tr:=by
 intro l
 induction l with
 | nil=>intro h; exact absurd rfl h
 | cons x l ih =>
  intro _
  by_cases hl:l=[]
  ·subst hl; exact ⟨x,aR,fun y hy=>by rw [aT.1 hy]; exact aD _⟩
  ·obtain ⟨z,hz,h⟩:=ih hl
   rcases Nat.le_total x.tr z.tr with h1 | h1
   ·exact ⟨z,aZ _ hz,fun y hy=>by rcases aa.1 hy with rfl | hy; exact h1; exact h y hy⟩
   ·exact ⟨x,aR,fun y hy=>by rcases aa.1 hy with rfl | hy; exact aD _; exact aP (h y hy) h1⟩
theorem ng {snap:Nat} {ks:List K} {x:K} (h:x ∈ pQ snap ks):x ∈ ks∧qq snap x=true:=by
 unfold pQ at h
 have:=List.mem_of_mem_take h
 rw [List.mem_mergeSort] at this
 exact bC.1 this
theorem Cx {snap:Nat} {ks:List K} {x:K} (h:x ∈ ks) (hd:qq snap x=true):∃ z,z ∈ pQ snap ks:=by
 have hm:x ∈ (ks.filter (qq snap)).mergeSort z4:=List.mem_mergeSort.2 (bC.2 ⟨h,hd⟩)
 unfold pQ
 cases hl:(ks.filter (qq snap)).mergeSort z4 with
 | nil=>rw [hl] at hm; simp at hm
 | cons z l=>exact ⟨z,by simp⟩
theorem nh {snap:Nat} {x:K}:qq snap x=true↔eT snap x.tr=true∧ag x.tr=19:=by
 unfold qq
 rw [az,decide_eq_true_eq]
theorem Cy {snap:Nat} {ks:List K} {x:K} (h:x ∈ qs snap ks):eT snap x.tr=true:=by
 unfold qs at h
 rcases aq.1 h with h | h
 ·exact (gQ.1 (kA.1 h).2).1
 ·exact (nh.1 (ng h).2).1
theorem Cz {snap:Nat} {ks:List K}:(pQ snap ks).length≤1:=by unfold pQ; rw [bH]; omega
theorem Bl {snap:Nat} {ks:List K} (h:Cd ks):(qs snap ks).Pairwise fun x y=>x.suf=y.suf→x.tr≠y.tr:=by
 unfold qs
 refine List.pairwise_append.2 ⟨(sD h).imp fun {x y} h e=>by rw [e] at h; exact absurd h (bj _),?_,fun x hx y hy _ e => ?_⟩
 ·have:=Cz (snap:=snap) (ks:=ks)
  match pQ snap ks,this with
  | [],_=>exact .nil
  | [a],_=>simp
 ·have h1:=(gQ.1 (kA.1 hx).2).2.1
  have h2:=(nh.1 (ng hy).2).2
  rw [e] at h1
  exact h1 h2
theorem C0 (snap:Nat) (ks:List K):(If snap ks).Pairwise fun x y=>y.tr≤x.tr:=by
 unfold If qN xi
 split
 ·rename_i h
  have:(qs snap ks).length≤1:=by simpa using h
  match qs snap ks,this with
  | [],_=>exact .nil
  | [a],_=>simp
 ·have hs:=(pdq_sorts zy pT (qs snap ks).toArray 0 (qs snap ks).toArray.size (bitsLen (qs snap ks).toArray.size) true true (by omega) (aD _) (.inl rfl))
  obtain ⟨d',hd'⟩:∃ d',d'=pdq zy (qs snap ks).toArray 0 (qs snap ks).toArray.size (bitsLen (qs snap ks).toArray.size) true true:=⟨_,rfl⟩
  rw [← hd'] at hs ⊢
  have hz:d'.size=(qs snap ks).toArray.size:=hs.1.1
  rw [bL]
  intro i j hi hj hij
  simp only [Array.length_toList] at hi hj
  have s:=hs.2 i j (aM _) hij (by omega)
  rw [aI d' i hi,aI d' j hj] at s
  simp only [zy,decide_eq_false_iff_not] at s
  simp only [Array.getElem_toList]
  omega
theorem Eh (snap:Nat):If snap []=[]:=ah.1 (by have:=lY snap []; simpa using this)
theorem Bm {snap:Nat} {ks:List K} {st:List SV} (h:Cd ks) (hst:st.Pairwise fun a b=>a.1≠b.1):iw st (If snap ks)=iw st (iK snap (dC ks)):=by
 have hm:∀ x,x ∈ (iK snap (dC ks)).reverse↔x ∈ ks∧eT snap x.tr=true:=fun x=>by rw [List.mem_reverse]; unfold iK; rw [bC,(dO ks).mem_iff]
 have hi:∀ x,x ∈ (If snap ks).reverse↔x ∈ qs snap ks:=fun x=>by rw [List.mem_reverse,BJ]
 have hp:(dC ks).Pairwise fun x y=>x.suf=y.suf→x.tr≠y.tr:=(List.Perm.pairwise_iff (fun {x y} h e e2=>h e.symm e2.symm) (dO ks)).2 h.dist
 have f1:=sN st hst (iK snap (dC ks)).reverse (by rw [List.pairwise_reverse]; exact (pA ks).filter _) (by rw [List.pairwise_reverse]; exact (hp.filter _).imp fun {x y} h e e2=>h e.symm e2.symm) fun x hx=>h.kind x ((hm x).1 hx).1
 have hq:(If snap ks).Pairwise fun x y=>x.suf=y.suf→x.tr≠y.tr:=(List.Perm.pairwise_iff (fun {x y} h e e2=>h e.symm e2.symm) (mM _)).2 (Bl h)
 have f2:=sN st hst (If snap ks).reverse (by rw [List.pairwise_reverse]; exact C0 snap ks) (by rw [List.pairwise_reverse]; exact hq.imp fun {x y} h e e2=>h e.symm e2.symm) fun x hx=>h.kind x (tH ((hi x).1 hx))
 refine vR (qX f2.1) (qX f1.1) fun p => ?_
 unfold iw
 rw [(gq _).mem_iff,(gq _).mem_iff,f1.2,f2.2]
 have sub:∀ y,y ∈ (If snap ks).reverse→y ∈ (iK snap (dC ks)).reverse:=fun y hy=>(hm y).2 ⟨tH ((hi y).1 hy),Cy ((hi y).1 hy)⟩
 refine or_congr ⟨?_,?_⟩ (and_congr_right fun _=>⟨fun hy y hm' => ?_,fun hy y hy'=>hy y (sub y hy')⟩)
 ·rintro ⟨x,hx,⟨h1,_⟩,rfl⟩
  have hx':=(hi x).1 hx
  unfold qs at hx'
  rcases aq.1 hx' with hx' | hx'
  ·obtain ⟨q1,q2⟩:=kA.1 hx'
   obtain ⟨q2,q3,q4⟩:=gQ.1 q2
   exact ⟨x,sub x hx,⟨h1,fun y hy=>q4 y ((hm y).1 hy).1 ((hm y).1 hy).2⟩,rfl⟩
  ·have:=(nh.1 (ng hx').2).2
   omega
 ·rintro ⟨x,hx,⟨h1,h2⟩,rfl⟩
  obtain ⟨q1,q2⟩:=(hm x).1 hx
  refine ⟨x,(hi x).2 (List.mem_append_left _ (kA.2 ⟨q1,gQ.2 ⟨q2,by omega,fun y hy hv=>h2 y ((hm y).2 ⟨hy,hv⟩)⟩⟩)),⟨h1,fun y hy=>h2 y (sub y hy)⟩,rfl⟩
 ·obtain ⟨q1,q2⟩:=(hm y).1 hm'
  have nod:∀ z ∈ ks,eT snap z.tr=true→ag z.tr≠19:=fun z hz hv h9=>by
   obtain ⟨z',hz'⟩:=Cx hz (nh.2 ⟨hv,h9⟩)
   have:=(hy z' ((hi z').2 (List.mem_append_right _ hz'))).1
   exact this (nh.1 (ng hz').2).2
  refine ⟨nod y q1 q2,fun hs => ?_⟩
  have hne:(ks.filter fun z=>eT snap z.tr && decide (z.suf=p.1))≠[]:=fun h0=>by
   have:=List.filter_eq_nil_iff.1 h0 y q1
   simp [q2,hs] at this
  obtain ⟨z,hz,hmax⟩:=Eg hne
  obtain ⟨z1,z2⟩:=bC.1 hz
  simp only [az,decide_eq_true_eq] at z2
  have hzU:z ∈ Uf snap ks:=kA.2 ⟨z1,gQ.2 ⟨z2.1,nod z z1 z2.1,fun u hu hv=>⟨fun h9=>absurd h9 (nod u hu hv),fun _ hsu=>hmax u (bC.2 ⟨hu,by simp [hv,hsu,z2.2]⟩)⟩⟩⟩
  exact (hy z ((hi z).2 (List.mem_append_left _ hzU))).2 z2.2
end Go.E
end
section
namespace Go.E
open Go Go.Sort Go.Proofs
section
variable {Lv:List (List Sp)} {n snap:Nat}
theorem C1 {l:List Sp} {sp:Sp} {x:K} (hs:sp ∈ l) (hne:sp.s < sp.e) (hx:x ∈ sp.ks):x ∈ lZ l sp.s:=by
 unfold lZ
 refine dF.2 ⟨sp,hs,?_⟩
 rw [if_pos (show iy sp.s sp=true from aQ ⟨bj _,hne⟩)]
 exact hx
theorem LvOk.all (h:LvOk Lv n) {L:List Sp} (hL:L ∈ Lv) {sp:Sp} (hs:sp ∈ L) {x:K} (hx:x ∈ sp.ks):∃ ks,lH ks∧x ∈ ks:=by
 have hw:=h.wf L hL
 obtain ⟨j,hj,e⟩:=aj hs
 have hlt:sp.s < sp.e:=by
  have:=hw.1 j hj
  rwa [aI L j hj,e] at this
 have hm:=C1 (dG.2 ⟨L,hL,hs⟩) hlt hx
 have hB:=jU h.wf
 have hf:=nW h.wf sp.s (uE (bN Lv.flatten) sp.s) fun i hi=>uk hB hi sp.s
 rw [← hf] at hm
 have hcv:lC Lv.length (eN Lv) (bN Lv.flatten) (uE (bN Lv.flatten) sp.s)=true:=by
  unfold cW at hm
  obtain ⟨i,hi,hx⟩:=dF.1 hm
  split at hx
  ·rename_i hc; exact lT.2 ⟨i,List.mem_range.1 hi,hc⟩
  ·simp at hx
 have hF:(⟨(bN Lv.flatten)[uE (bN Lv.flatten) sp.s - 1]!,(bN Lv.flatten)[uE (bN Lv.flatten) sp.s]!,dC (cW Lv.length (eN Lv) (bN Lv.flatten) (uE (bN Lv.flatten) sp.s))⟩:Sp) ∈ dP Lv.flatten:=by
  rw [nQ h.wf fun L hL s hs=>(h.ks L hL s hs).1,cM]
  exact ⟨_,cX.2 ⟨lE _ _,hcv⟩,rfl⟩
 exact ⟨_,h.rk _ hF,(dO _).mem_iff.2 hm⟩
theorem LvOk.d9 (h:LvOk Lv n) (u:Nat):∀ x ∈ cW Lv.length (eN Lv) (bN Lv.flatten) u,ag x.tr=19→x.suf=[]:=fun x hx=>by
 obtain ⟨i,hi,sp,hsp,hk⟩:=vI hx
 unfold eN at hsp
 rw [aI Lv i hi] at hsp
 obtain ⟨ks,h1,h2⟩:=h.all (aS hi) hsp hk
 exact (h1.1 x h2).2.1
theorem C2 (h:LvOk Lv n) (x:Bytes):jN (id:K→K) (qV (Cv snap) Lv none none) x=If snap (lZ Lv.flatten x):=by
 show jN (id:K→K) (Vw id (GB (GL (If snap) Lv.length (eN Lv) (bN Lv.flatten)) none none)) x=_
 rw [tZ,BT (uj (jU h.wf)),zi (Eh snap) h.wf,List.map_id]
theorem GR (h:LvOk Lv n):Wf (qV (Cv snap) Lv none none):=DW (DO (uj (jU h.wf)))
theorem Ei (h:LvOk Lv n):∀ x ∈ qV (Cv snap) Lv none none,x.ks.length≤240:=fun x hx=>by
 obtain ⟨i,hi,rfl⟩:=aj hx
 have e:(qV (Cv snap) Lv none none)[i]=(Vw (id:K→K) (GL (If snap) Lv.length (eN Lv) (bN Lv.flatten)))[i]! := by
  rw [← aI _ i hi]
  show (Vw (id:K→K) (GB (GL (If snap) Lv.length (eN Lv) (bN Lv.flatten)) none none))[i]! = _
  rw [tZ]
 rw [e]
 have hi':i < (cI (id:K→K) (GL (If snap) Lv.length (eN Lv) (bN Lv.flatten))).length:=by
  have h2:i < (Vw (id:K→K) (GB (GL (If snap) Lv.length (eN Lv) (bN Lv.flatten)) none none)).length:=hi
  rw [tZ,ct] at h2
  exact h2
 rw [gN hi']
 obtain ⟨u,hu,e2⟩:=tG (fD hi').1
 rw [e2]
 refine aP (lY _ _) (aP (vZ (m:=40) (fun L hL s hs=>(h.ks L hL s hs).2) _ u) ?_)
 have:=h.n6
 omega
end
end Go.E
end
section
namespace Go.Proofs
open Go Go.E Go.Sort
section
variable {k:ae} {d w:World}
set_option maxHeartbeats 4000000 in
theorem ni {lv sv:Value} {Lv:List (List Sp)} {snap:Nat} {kl kh:Bytes} {bl bh:Bool} {steps:List (Nat × Bytes)} (hv:Sl kO 1 d lv Lv) (hs:Sl B5 2 d sv steps) (hinc:cH d w) (r:RIn Lv snap (kB kl bl) (kB kh bh)) (hkl:kl.length≤4294967296) (hkh:kh.length≤4294967296)
    (h9:∀ u,∀ x ∈ cW Lv.length (eN Lv) (bN Lv.flatten) u,ag x.tr=19→x.suf=[]) (hst:Bh (kB kl bl) (kB kh bh) steps) (hsl:steps.length < 1000000)
    (hk:∀ d2 w2 v l,Gr d w d2 w2→Sl wz 5 d2 v l→Pw (qS (qV (Cv snap) Lv (kB kl bl) (kB kh bh)) Eq) (tF (qV (Cv snap) Lv (kB kl bl) (kB kh bh)) (-2) false 0 steps) l→k v w2) :
    aU Tryz.prog 43 #[lv,.int .u64 snap,.agg #[.string ⟨kl.toArray⟩,.bool bl],.agg #[.string ⟨kh.toArray⟩,.bool bh],sv] k w:=by
 have fin:=fun {d5 w5:World} {C U Bf:Nat} {lov hiv fv:Value} {Ls:List Lvl} {n:Nat} {K:ae}=>vm (w:=w) (q:=Cv snap) (KS:=Eq) (fun a b h=>by rw [h]) (fun ks b h=>by simpa using h) r (vl r.snap h9) hs hst hsl (d5:=d5) (w5:=w5) (C:=C) (U:=U) (Bf:=Bf) (lov:=lov) (hiv:=hiv) (fv:=fv) (Ls:=Ls) (n:=n) (K:=K)
 obtain ⟨la,lc,rfl⟩:=hv.form
 obtain ⟨sa,sc,rfl⟩:=hs.form
 refine aW [.tmp 10] Tryz.func43 ?_
 refine aY ?_
 refine ao (sq [1] (.read 2 (.read 4 (sq [7,10] (.alt (.eff 0 [2,4] (.alt (.eff 3 [4] (.alt (.eff 5 [] (.alt (.eff 6 [2,4] (.eff 8 [] (.eff 9 [] (.eff 11 [] (sq [12] .done))))) (.eff 8 [] (.eff 6 [2,4] (.eff 9 [] (.eff 11 [] (sq [12] .done))))))) (.eff 6 [2,4] (.eff 5 [] (.eff 8 [] (.eff 9 [] (.eff 11 [] (sq [12] .done)))))))) (.eff 6 [2,4] (.eff 3 [4] (.eff 5 [] (.eff 8 [] (.eff 9 [] (.eff 11 [] (sq [12] .done))))))))) (.eff 6 [2,4] (.eff 0 [2,4] (.eff 3 [4] (.eff 5 [] (.eff 8 [] (.eff 9 [] (.eff 11 [] (sq [12] .done))))))))))))) ?_
 generalize hO:Obj.cells _ 154=O
 obtain ⟨wc,hw1⟩:∃ wc,wc=(((w.alloc (.cells #[.string ⟨kl.toArray⟩,.bool bl] 37)).alloc (.cells #[.string ⟨kh.toArray⟩,.bool bh] 37)).alloc O).drew:=⟨_,rfl⟩
 rw [← hw1]
 have x1:bV w wc:=by rw [hw1]; exact Keep.drew (((aK _).trans (aK _)).trans (aK _))
 have hz:w.heap.size+3≤wc.heap.size:=by rw [hw1,World.size_drew,World.size_alloc,World.size_alloc,World.size_alloc]; omega
 obtain ⟨dc,hdc⟩:∃ dc,dc=d:=⟨_,rfl⟩
 have t:Gr d w dc wc:=by rw [hdc]; exact Gr.ext hinc x1
 have p0:wc.cell? ⟨w.heap.size,0,none⟩=some (.string ⟨kl.toArray⟩):=by rw [hw1]; exact bU @aA
 have p1:wc.cell? ⟨w.heap.size,1,none⟩=some (.bool bl):=by rw [hw1]; exact bU @aA
 have q0:wc.cell? ⟨w.heap.size+1,0,none⟩=some (.string ⟨kh.toArray⟩):=by rw [hw1]; exact bU @aA
 have q1:wc.cell? ⟨w.heap.size+1,1,none⟩=some (.bool bh):=by rw [hw1]; exact bU @aA
 have hU:UOk dc wc (w.heap.size+2):=by
  refine ⟨fun x hx => ?_,fun x => ?_,by rw [hdc]; exact hinc.out (by omega)⟩
  rotate_left
  ·have key:∀ (v:World) (c:Array Value) (t:TypeId),v.heap.size=w.heap.size+2→(v.alloc (.cells c t)).drew.frozen? ⟨w.heap.size+2,x,none⟩=false:=fun v c t hv=>by rw [← hv]; exact World.frozen?_alloc_new v c t x
   rw [hw1,← hO]
   exact key _ _ _ (by rw [World.size_alloc,World.size_alloc])
  rw [hw1,← hO]
  refine bP @aA ?_
  exact ⟨_,aC (show x < 95 from hx)⟩
 have hlen:∀ x ∈ Lv,x.length < 1000000∧∀ s ∈ x,BK s:=fun x hx=>by
  obtain ⟨a,b⟩:=r.len x hx
  refine ⟨by omega,fun s hs => ?_⟩
  obtain ⟨b1,b2,b3,_,b5⟩:=b s hs
  exact ⟨by omega,by omega,by omega,b5⟩
 clear hw1 x1 hdc
 refine eI @p0 @p1 @q0 @q1 ?_
 refine ⟨?_,?_⟩
 ·
  refine ia t.j fun dc wc C g _ hC0 hC1 hC5 => ?_
  have t:=t.trans g
  have hz:=aP hz g.x.size
  have p0:=g.x.cell p0
  have p1:=g.x.cell p1
  have q0:=g.x.cell q0
  have q1:=g.x.cell q1
  have hU:=hU.gr g
  (try have hC:=hC.gr g)
  (try have hL:=OB.inc hL g.i)
  (try have hH:=OB.inc hH g.i)
  (try have hB:=hB.gr g)
  (try have hBl:=aG hBl g.x.size)
  (try have hF:=hF.gr g)
  have hC:nZ dc C:=⟨hC0,hC1,hC5⟩
  refine eI @p0 @p1 @q0 @q1 ?_
  refine ⟨?_,?_⟩
  ·
   refine bt t.j hkl fun dc wc lov g hLn => ?_
   have t:=t.trans g
   have hz:=aP hz g.x.size
   have p0:=g.x.cell p0
   have p1:=g.x.cell p1
   have q0:=g.x.cell q0
   have q1:=g.x.cell q1
   have hU:=hU.gr g
   (try have hC:=hC.gr g)
   (try have hL:=OB.inc hL g.i)
   (try have hH:=OB.inc hH g.i)
   (try have hB:=hB.gr g)
   (try have hBl:=aG hBl g.x.size)
   (try have hF:=hF.gr g)
   have hL:=hLn
   refine eI @p0 @p1 @q0 @q1 ?_
   refine ⟨?_,?_⟩
   ·
    refine bt t.j hkh fun dc wc hiv g hHn => ?_
    have t:=t.trans g
    have hz:=aP hz g.x.size
    have p0:=g.x.cell p0
    have p1:=g.x.cell p1
    have q0:=g.x.cell q0
    have q1:=g.x.cell q1
    have hU:=hU.gr g
    (try have hC:=hC.gr g)
    (try have hL:=OB.inc hL g.i)
    (try have hH:=OB.inc hH g.i)
    (try have hB:=hB.gr g)
    (try have hBl:=aG hBl g.x.size)
    (try have hF:=hF.gr g)
    have hH:=hHn
    refine eI @p0 @p1 @q0 @q1 ?_
    refine ⟨?_,?_⟩
    ·
     generalize hO2:Obj.cells _ 172=O2
     obtain ⟨Bf,hBe⟩:∃ b,b=wc.heap.size:=⟨_,rfl⟩
     (try rw [← hBe])
     have hBU:w.heap.size+3≤Bf:=by omega
     have hBn:BfOk dc (wc.alloc O2) Bf:=by
      rw [hBe,← hO2]
      exact ⟨fun x hx=>by (rcases hx with rfl | rfl | hx | rfl); exact aA (aD _) (by omega); exact aA (aD _) (by omega); (have h:x=4∨x=5∨x=6∨x=7∨x=8:=by omega); (rcases h with rfl | rfl | rfl | rfl | rfl <;> exact aA (aD _) (by omega)); exact aA (aD _) (by omega),aA (aD _) (by omega),aA (aD _) (by omega),aA (aD _) (by omega),fun x=>by simp (disch:=first | exact dZ | fail) only [go_sem],t.j.out (aD _)⟩
     have g:Gr dc wc dc (wc.alloc O2):=Gr.ext t.j (aK _)
     (try have hBI:∀ x ∈ Ls,x.I≠Bf:=fun x hx=>by have:=(hF.2.at_ x hx).2.2.2.2; omega)
     have hBl:Bf < (wc.alloc O2).heap.size:=by rw [World.size_alloc]; omega
     have t:=t.trans g
     have hz:=aP hz g.x.size
     have p0:=g.x.cell p0
     have p1:=g.x.cell p1
     have q0:=g.x.cell q0
     have q1:=g.x.cell q1
     have hU:=hU.gr g
     (try have hC:=hC.gr g)
     (try have hL:=OB.inc hL g.i)
     (try have hH:=OB.inc hH g.i)
     (try have hB:=hB.gr g)
     (try have hBl:=aG hBl g.x.size)
     (try have hF:=hF.gr g)
     have hB:=hBn
     obtain ⟨wd,hwd⟩:∃ wd,wd=wc.alloc O2:=⟨_,rfl⟩
     rw [← hwd] at t hz p0 p1 q0 q1 hU hB hBl ⊢
     (try rw [← hwd] at hF)
     obtain ⟨nF,hnF⟩:∃ n,n=wd.heap.size:=⟨_,rfl⟩
     have hUn:w.heap.size+2 < nF:=by omega
     refine cw (hv.inc kO.mono t.i) (by have:=r.n10; omega) hlen t.j fun dc wc fv Ls g f1 f2 hm => ?_
     rw [← hnF] at f2
     (try have hBl:Bf < nF:=by omega)
     (try have hBI:∀ x ∈ Ls,x.I≠Bf:=fun x hx=>by have:=(f2.at_ x hx).2.2.2.1; omega)
     have t:=t.trans g
     have hz:=aP hz g.x.size
     have p0:=g.x.cell p0
     have p1:=g.x.cell p1
     have q0:=g.x.cell q0
     have q1:=g.x.cell q1
     have hU:=hU.gr g
     (try have hC:=hC.gr g)
     (try have hL:=OB.inc hL g.i)
     (try have hH:=OB.inc hH g.i)
     (try have hB:=hB.gr g)
     (try have hBl:=aG hBl g.x.size)
     (try have hF:=hF.gr g)
     have hF:lJ nF dc wc fv Ls:=⟨f1,f2⟩
     refine eI @p0 @p1 @q0 @q1 ?_
     refine fin t hU hC hL hH hB hF (by omega) hUn (by omega) (by omega) hBI hm fun w6 hw6 => ?_
     refine aY ?_
     refine hw6 _ fun d8 w8 v l g8 s8 p8 => ?_
     refine aY ?_
     exact hk d8 w8 v l g8 s8 p8
    ·
     obtain ⟨nF,hnF⟩:∃ n,n=wc.heap.size:=⟨_,rfl⟩
     have hUn:w.heap.size+2 < nF:=by omega
     refine cw (hv.inc kO.mono t.i) (by have:=r.n10; omega) hlen t.j fun dc wc fv Ls g f1 f2 hm => ?_
     rw [← hnF] at f2
     (try have hBl:Bf < nF:=by omega)
     (try have hBI:∀ x ∈ Ls,x.I≠Bf:=fun x hx=>by have:=(f2.at_ x hx).2.2.2.1; omega)
     have t:=t.trans g
     have hz:=aP hz g.x.size
     have p0:=g.x.cell p0
     have p1:=g.x.cell p1
     have q0:=g.x.cell q0
     have q1:=g.x.cell q1
     have hU:=hU.gr g
     (try have hC:=hC.gr g)
     (try have hL:=OB.inc hL g.i)
     (try have hH:=OB.inc hH g.i)
     (try have hB:=hB.gr g)
     (try have hBl:=aG hBl g.x.size)
     (try have hF:=hF.gr g)
     have hF:lJ nF dc wc fv Ls:=⟨f1,f2⟩
     refine eI @p0 @p1 @q0 @q1 ?_
     generalize hO2:Obj.cells _ 172=O2
     obtain ⟨Bf,hBe⟩:∃ b,b=wc.heap.size:=⟨_,rfl⟩
     (try rw [← hBe])
     have hBU:w.heap.size+3≤Bf:=by omega
     have hBn:BfOk dc (wc.alloc O2) Bf:=by
      rw [hBe,← hO2]
      exact ⟨fun x hx=>by (rcases hx with rfl | rfl | hx | rfl); exact aA (aD _) (by omega); exact aA (aD _) (by omega); (have h:x=4∨x=5∨x=6∨x=7∨x=8:=by omega); (rcases h with rfl | rfl | rfl | rfl | rfl <;> exact aA (aD _) (by omega)); exact aA (aD _) (by omega),aA (aD _) (by omega),aA (aD _) (by omega),aA (aD _) (by omega),fun x=>by simp (disch:=first | exact dZ | fail) only [go_sem],t.j.out (aD _)⟩
     have g:Gr dc wc dc (wc.alloc O2):=Gr.ext t.j (aK _)
     (try have hBI:∀ x ∈ Ls,x.I≠Bf:=fun x hx=>by have:=(hF.2.at_ x hx).2.2.2.2; omega)
     have hBl:Bf < (wc.alloc O2).heap.size:=by rw [World.size_alloc]; omega
     have t:=t.trans g
     have hz:=aP hz g.x.size
     have p0:=g.x.cell p0
     have p1:=g.x.cell p1
     have q0:=g.x.cell q0
     have q1:=g.x.cell q1
     have hU:=hU.gr g
     (try have hC:=hC.gr g)
     (try have hL:=OB.inc hL g.i)
     (try have hH:=OB.inc hH g.i)
     (try have hB:=hB.gr g)
     (try have hBl:=aG hBl g.x.size)
     (try have hF:=hF.gr g)
     have hB:=hBn
     obtain ⟨wd,hwd⟩:∃ wd,wd=wc.alloc O2:=⟨_,rfl⟩
     rw [← hwd] at t hz p0 p1 q0 q1 hU hB hBl ⊢
     (try rw [← hwd] at hF)
     refine fin t hU hC hL hH hB hF (by omega) hUn (by omega) (by omega) hBI hm fun w6 hw6 => ?_
     refine aY ?_
     refine hw6 _ fun d8 w8 v l g8 s8 p8 => ?_
     refine aY ?_
     exact hk d8 w8 v l g8 s8 p8
   ·
    generalize hO2:Obj.cells _ 172=O2
    obtain ⟨Bf,hBe⟩:∃ b,b=wc.heap.size:=⟨_,rfl⟩
    (try rw [← hBe])
    have hBU:w.heap.size+3≤Bf:=by omega
    have hBn:BfOk dc (wc.alloc O2) Bf:=by
     rw [hBe,← hO2]
     exact ⟨fun x hx=>by (rcases hx with rfl | rfl | hx | rfl); exact aA (aD _) (by omega); exact aA (aD _) (by omega); (have h:x=4∨x=5∨x=6∨x=7∨x=8:=by omega); (rcases h with rfl | rfl | rfl | rfl | rfl <;> exact aA (aD _) (by omega)); exact aA (aD _) (by omega),aA (aD _) (by omega),aA (aD _) (by omega),aA (aD _) (by omega),fun x=>by simp (disch:=first | exact dZ | fail) only [go_sem],t.j.out (aD _)⟩
    have g:Gr dc wc dc (wc.alloc O2):=Gr.ext t.j (aK _)
    (try have hBI:∀ x ∈ Ls,x.I≠Bf:=fun x hx=>by have:=(hF.2.at_ x hx).2.2.2.2; omega)
    have hBl:Bf < (wc.alloc O2).heap.size:=by rw [World.size_alloc]; omega
    have t:=t.trans g
    have hz:=aP hz g.x.size
    have p0:=g.x.cell p0
    have p1:=g.x.cell p1
    have q0:=g.x.cell q0
    have q1:=g.x.cell q1
    have hU:=hU.gr g
    (try have hC:=hC.gr g)
    (try have hL:=OB.inc hL g.i)
    (try have hH:=OB.inc hH g.i)
    (try have hB:=hB.gr g)
    (try have hBl:=aG hBl g.x.size)
    (try have hF:=hF.gr g)
    have hB:=hBn
    obtain ⟨wd,hwd⟩:∃ wd,wd=wc.alloc O2:=⟨_,rfl⟩
    rw [← hwd] at t hz p0 p1 q0 q1 hU hB hBl ⊢
    (try rw [← hwd] at hF)
    refine bt t.j hkh fun dc wc hiv g hHn => ?_
    have t:=t.trans g
    have hz:=aP hz g.x.size
    have p0:=g.x.cell p0
    have p1:=g.x.cell p1
    have q0:=g.x.cell q0
    have q1:=g.x.cell q1
    have hU:=hU.gr g
    (try have hC:=hC.gr g)
    (try have hL:=OB.inc hL g.i)
    (try have hH:=OB.inc hH g.i)
    (try have hB:=hB.gr g)
    (try have hBl:=aG hBl g.x.size)
    (try have hF:=hF.gr g)
    have hH:=hHn
    refine eI @p0 @p1 @q0 @q1 ?_
    obtain ⟨nF,hnF⟩:∃ n,n=wc.heap.size:=⟨_,rfl⟩
    have hUn:w.heap.size+2 < nF:=by omega
    refine cw (hv.inc kO.mono t.i) (by have:=r.n10; omega) hlen t.j fun dc wc fv Ls g f1 f2 hm => ?_
    rw [← hnF] at f2
    (try have hBl:Bf < nF:=by omega)
    (try have hBI:∀ x ∈ Ls,x.I≠Bf:=fun x hx=>by have:=(f2.at_ x hx).2.2.2.1; omega)
    have t:=t.trans g
    have hz:=aP hz g.x.size
    have p0:=g.x.cell p0
    have p1:=g.x.cell p1
    have q0:=g.x.cell q0
    have q1:=g.x.cell q1
    have hU:=hU.gr g
    (try have hC:=hC.gr g)
    (try have hL:=OB.inc hL g.i)
    (try have hH:=OB.inc hH g.i)
    (try have hB:=hB.gr g)
    (try have hBl:=aG hBl g.x.size)
    (try have hF:=hF.gr g)
    have hF:lJ nF dc wc fv Ls:=⟨f1,f2⟩
    refine eI @p0 @p1 @q0 @q1 ?_
    refine fin t hU hC hL hH hB hF (by omega) hUn (by omega) (by omega) hBI hm fun w6 hw6 => ?_
    refine aY ?_
    refine hw6 _ fun d8 w8 v l g8 s8 p8 => ?_
    refine aY ?_
    exact hk d8 w8 v l g8 s8 p8
  ·
   generalize hO2:Obj.cells _ 172=O2
   obtain ⟨Bf,hBe⟩:∃ b,b=wc.heap.size:=⟨_,rfl⟩
   (try rw [← hBe])
   have hBU:w.heap.size+3≤Bf:=by omega
   have hBn:BfOk dc (wc.alloc O2) Bf:=by
    rw [hBe,← hO2]
    exact ⟨fun x hx=>by (rcases hx with rfl | rfl | hx | rfl); exact aA (aD _) (by omega); exact aA (aD _) (by omega); (have h:x=4∨x=5∨x=6∨x=7∨x=8:=by omega); (rcases h with rfl | rfl | rfl | rfl | rfl <;> exact aA (aD _) (by omega)); exact aA (aD _) (by omega),aA (aD _) (by omega),aA (aD _) (by omega),aA (aD _) (by omega),fun x=>by simp (disch:=first | exact dZ | fail) only [go_sem],t.j.out (aD _)⟩
   have g:Gr dc wc dc (wc.alloc O2):=Gr.ext t.j (aK _)
   (try have hBI:∀ x ∈ Ls,x.I≠Bf:=fun x hx=>by have:=(hF.2.at_ x hx).2.2.2.2; omega)
   have hBl:Bf < (wc.alloc O2).heap.size:=by rw [World.size_alloc]; omega
   have t:=t.trans g
   have hz:=aP hz g.x.size
   have p0:=g.x.cell p0
   have p1:=g.x.cell p1
   have q0:=g.x.cell q0
   have q1:=g.x.cell q1
   have hU:=hU.gr g
   (try have hC:=hC.gr g)
   (try have hL:=OB.inc hL g.i)
   (try have hH:=OB.inc hH g.i)
   (try have hB:=hB.gr g)
   (try have hBl:=aG hBl g.x.size)
   (try have hF:=hF.gr g)
   have hB:=hBn
   obtain ⟨wd,hwd⟩:∃ wd,wd=wc.alloc O2:=⟨_,rfl⟩
   rw [← hwd] at t hz p0 p1 q0 q1 hU hB hBl ⊢
   (try rw [← hwd] at hF)
   refine bt t.j hkl fun dc wc lov g hLn => ?_
   have t:=t.trans g
   have hz:=aP hz g.x.size
   have p0:=g.x.cell p0
   have p1:=g.x.cell p1
   have q0:=g.x.cell q0
   have q1:=g.x.cell q1
   have hU:=hU.gr g
   (try have hC:=hC.gr g)
   (try have hL:=OB.inc hL g.i)
   (try have hH:=OB.inc hH g.i)
   (try have hB:=hB.gr g)
   (try have hBl:=aG hBl g.x.size)
   (try have hF:=hF.gr g)
   have hL:=hLn
   refine eI @p0 @p1 @q0 @q1 ?_
   refine bt t.j hkh fun dc wc hiv g hHn => ?_
   have t:=t.trans g
   have hz:=aP hz g.x.size
   have p0:=g.x.cell p0
   have p1:=g.x.cell p1
   have q0:=g.x.cell q0
   have q1:=g.x.cell q1
   have hU:=hU.gr g
   (try have hC:=hC.gr g)
   (try have hL:=OB.inc hL g.i)
   (try have hH:=OB.inc hH g.i)
   (try have hB:=hB.gr g)
   (try have hBl:=aG hBl g.x.size)
   (try have hF:=hF.gr g)
   have hH:=hHn
   refine eI @p0 @p1 @q0 @q1 ?_
   obtain ⟨nF,hnF⟩:∃ n,n=wc.heap.size:=⟨_,rfl⟩
   have hUn:w.heap.size+2 < nF:=by omega
   refine cw (hv.inc kO.mono t.i) (by have:=r.n10; omega) hlen t.j fun dc wc fv Ls g f1 f2 hm => ?_
   rw [← hnF] at f2
   (try have hBl:Bf < nF:=by omega)
   (try have hBI:∀ x ∈ Ls,x.I≠Bf:=fun x hx=>by have:=(f2.at_ x hx).2.2.2.1; omega)
   have t:=t.trans g
   have hz:=aP hz g.x.size
   have p0:=g.x.cell p0
   have p1:=g.x.cell p1
   have q0:=g.x.cell q0
   have q1:=g.x.cell q1
   have hU:=hU.gr g
   (try have hC:=hC.gr g)
   (try have hL:=OB.inc hL g.i)
   (try have hH:=OB.inc hH g.i)
   (try have hB:=hB.gr g)
   (try have hBl:=aG hBl g.x.size)
   (try have hF:=hF.gr g)
   have hF:lJ nF dc wc fv Ls:=⟨f1,f2⟩
   refine eI @p0 @p1 @q0 @q1 ?_
   refine fin t hU hC hL hH hB hF (by omega) hUn (by omega) (by omega) hBI hm fun w6 hw6 => ?_
   refine aY ?_
   refine hw6 _ fun d8 w8 v l g8 s8 p8 => ?_
   refine aY ?_
   exact hk d8 w8 v l g8 s8 p8
 ·
  generalize hO2:Obj.cells _ 172=O2
  obtain ⟨Bf,hBe⟩:∃ b,b=wc.heap.size:=⟨_,rfl⟩
  (try rw [← hBe])
  have hBU:w.heap.size+3≤Bf:=by omega
  have hBn:BfOk dc (wc.alloc O2) Bf:=by
   rw [hBe,← hO2]
   exact ⟨fun x hx=>by (rcases hx with rfl | rfl | hx | rfl); exact aA (aD _) (by omega); exact aA (aD _) (by omega); (have h:x=4∨x=5∨x=6∨x=7∨x=8:=by omega); (rcases h with rfl | rfl | rfl | rfl | rfl <;> exact aA (aD _) (by omega)); exact aA (aD _) (by omega),aA (aD _) (by omega),aA (aD _) (by omega),aA (aD _) (by omega),fun x=>by simp (disch:=first | exact dZ | fail) only [go_sem],t.j.out (aD _)⟩
  have g:Gr dc wc dc (wc.alloc O2):=Gr.ext t.j (aK _)
  (try have hBI:∀ x ∈ Ls,x.I≠Bf:=fun x hx=>by have:=(hF.2.at_ x hx).2.2.2.2; omega)
  have hBl:Bf < (wc.alloc O2).heap.size:=by rw [World.size_alloc]; omega
  have t:=t.trans g
  have hz:=aP hz g.x.size
  have p0:=g.x.cell p0
  have p1:=g.x.cell p1
  have q0:=g.x.cell q0
  have q1:=g.x.cell q1
  have hU:=hU.gr g
  (try have hC:=hC.gr g)
  (try have hL:=OB.inc hL g.i)
  (try have hH:=OB.inc hH g.i)
  (try have hB:=hB.gr g)
  (try have hBl:=aG hBl g.x.size)
  (try have hF:=hF.gr g)
  have hB:=hBn
  obtain ⟨wd,hwd⟩:∃ wd,wd=wc.alloc O2:=⟨_,rfl⟩
  rw [← hwd] at t hz p0 p1 q0 q1 hU hB hBl ⊢
  (try rw [← hwd] at hF)
  refine ia t.j fun dc wc C g _ hC0 hC1 hC5 => ?_
  have t:=t.trans g
  have hz:=aP hz g.x.size
  have p0:=g.x.cell p0
  have p1:=g.x.cell p1
  have q0:=g.x.cell q0
  have q1:=g.x.cell q1
  have hU:=hU.gr g
  (try have hC:=hC.gr g)
  (try have hL:=OB.inc hL g.i)
  (try have hH:=OB.inc hH g.i)
  (try have hB:=hB.gr g)
  (try have hBl:=aG hBl g.x.size)
  (try have hF:=hF.gr g)
  have hC:nZ dc C:=⟨hC0,hC1,hC5⟩
  refine eI @p0 @p1 @q0 @q1 ?_
  refine bt t.j hkl fun dc wc lov g hLn => ?_
  have t:=t.trans g
  have hz:=aP hz g.x.size
  have p0:=g.x.cell p0
  have p1:=g.x.cell p1
  have q0:=g.x.cell q0
  have q1:=g.x.cell q1
  have hU:=hU.gr g
  (try have hC:=hC.gr g)
  (try have hL:=OB.inc hL g.i)
  (try have hH:=OB.inc hH g.i)
  (try have hB:=hB.gr g)
  (try have hBl:=aG hBl g.x.size)
  (try have hF:=hF.gr g)
  have hL:=hLn
  refine eI @p0 @p1 @q0 @q1 ?_
  refine bt t.j hkh fun dc wc hiv g hHn => ?_
  have t:=t.trans g
  have hz:=aP hz g.x.size
  have p0:=g.x.cell p0
  have p1:=g.x.cell p1
  have q0:=g.x.cell q0
  have q1:=g.x.cell q1
  have hU:=hU.gr g
  (try have hC:=hC.gr g)
  (try have hL:=OB.inc hL g.i)
  (try have hH:=OB.inc hH g.i)
  (try have hB:=hB.gr g)
  (try have hBl:=aG hBl g.x.size)
  (try have hF:=hF.gr g)
  have hH:=hHn
  refine eI @p0 @p1 @q0 @q1 ?_
  obtain ⟨nF,hnF⟩:∃ n,n=wc.heap.size:=⟨_,rfl⟩
  have hUn:w.heap.size+2 < nF:=by omega
  refine cw (hv.inc kO.mono t.i) (by have:=r.n10; omega) hlen t.j fun dc wc fv Ls g f1 f2 hm => ?_
  rw [← hnF] at f2
  (try have hBl:Bf < nF:=by omega)
  (try have hBI:∀ x ∈ Ls,x.I≠Bf:=fun x hx=>by have:=(f2.at_ x hx).2.2.2.1; omega)
  have t:=t.trans g
  have hz:=aP hz g.x.size
  have p0:=g.x.cell p0
  have p1:=g.x.cell p1
  have q0:=g.x.cell q0
  have q1:=g.x.cell q1
  have hU:=hU.gr g
  (try have hC:=hC.gr g)
  (try have hL:=OB.inc hL g.i)
  (try have hH:=OB.inc hH g.i)
  (try have hB:=hB.gr g)
  (try have hBl:=aG hBl g.x.size)
  (try have hF:=hF.gr g)
  have hF:lJ nF dc wc fv Ls:=⟨f1,f2⟩
  refine eI @p0 @p1 @q0 @q1 ?_
  refine fin t hU hC hL hH hB hF (by omega) hUn (by omega) (by omega) hBI hm fun w6 hw6 => ?_
  refine aY ?_
  refine hw6 _ fun d8 w8 v l g8 s8 p8 => ?_
  refine aY ?_
  exact hk d8 w8 v l g8 s8 p8
end
end Go.Proofs
end
