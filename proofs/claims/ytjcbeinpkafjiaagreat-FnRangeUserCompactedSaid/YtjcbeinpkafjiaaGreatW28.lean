/- Parts of the proof: Yd, Yc, Ye, Yf, Ta. -/
import Derived.Deep.Slices
import Derived.Test.YtjcbeinpkafjiaaGreatW20
import Derived.Test.YtjcbeinpkafjiaaGreatW21
import Derived.Test.YtjcbeinpkafjiaaGreatW24
import Derived.Test.YtjcbeinpkafjiaaGreatW27
set_option linter.all false
set_option maxRecDepth 10000
section
namespace Go.E
open Go Go.Sort Go.Proofs Go.Proofs.Tryz
def nL (s:Sp):Bool:=decide (s.ks≠[])
structure VOk (Lv:List (List Sp)) (snap:Nat):Prop where
 rin:RIn Lv snap none none
 n6:Lv.length≤6
 sz:∀ x ∈ Lv,x.length≤1000∧∀ y ∈ x,y.ks.length≤2000
 n:Lv.flatten.length≤300
theorem VOk.vl {Lv:List (List Sp)} {snap:Nat} (h:VOk Lv snap):(rV Lv snap none none).length≤601:=by
 have:=Bh Lv snap
 have:=h.n
 omega
theorem VOk.vk {Lv:List (List Sp)} {snap:Nat} (h:VOk Lv snap):∀ x ∈ rV Lv snap none none,x.ks.length≤600000:=fun x hx=>by
 have h1:=IE h.rin (m:=2000) (fun L hL s hs=>(h.sz L hL).2 s hs) x hx
 have h2:Lv.flatten.length * 2000≤300 * 2000:=bN _ h.n
 omega
end Go.E
namespace Go.Proofs
open Go Go.E Go.Sort Go.Proofs.Tryz
section
variable {k:au} {d w:World}
theorem tO {v:Value} {l:List An} (hv:Sl yx 5 d v l) (hl:l.length≤10000) (hks:∀ x ∈ mI l,x.ks.length≤1000000) (hinc:cN d w) (hk:∀ d' w' v',Gr d w d' w'→Sl eJ 3 d' v' (((mI l).map cT).filter nL)→k v' w'):aX prog 31 #[v] k w:=by
 obtain ⟨ka,kc,rfl⟩:=hv.form
 have hfl:(mI l).length≤l.length:=by
  unfold mI
  rw [aS]
  exact bz _ _
 refine ae [.tmp 2] func31 ?_
 refine an ?_
 refine vG hv (by omega) hinc fun d1 w1 v1 g1 s1 => ?_
 refine an ?_
 refine tL s1 (by omega) (fun x hx=>by have:=hks x hx; omega) g1.j fun d2 w2 v2 g2 s2 => ?_
 have g12:=g1.trans g2
 obtain ⟨M,hM⟩:∃ M,M=(mI l).map cT:=⟨_,rfl⟩
 have hMl:M.length≤10000:=by rw [hM,aS]; omega
 rw [← hM] at s2 hk
 obtain ⟨va,vc,rfl⟩:=s2.form
 refine an ?_
 refine bR (fun b:Nat × Value=>[(3,b.2),(8,.slice va M.length vc),(9,.int .i64 M.length),(10,.int .i64 b.1)])
  (fun b w'=>b.1≤M.length∧∃ d1,LoopL eJ 3 46 d2 w2 d1 w' b.2 ((M.take b.1).filter nL)) (fun b _=>M.length - b.1) (0,.slice none 0 0) (by kernel_rfl) ?_ ⟨aP _,d2,LoopL.nil g12.j⟩ ?_
 ·exact bO
 rintro K2 e ⟨i,vo⟩ w3 ⟨i2,d3,i3⟩ hK2
 simp only at i2 i3
 rcases aG i M.length with hi | hi
 rotate_left
 ·have hi':¬ (i:Int) < M.length:=by omega
  refine bf @hi' ?_
  obtain rfl:i=M.length:=by omega
  rw [ah] at i3
  obtain ⟨d4,g4,_,_,s4⟩:=i3.done eJ.mono
  exact hk d4 w3 vo (g12.trans g4) s4
 have hi':(i:Int) < M.length:=by omega
 obtain ⟨g,f,c,hv',hc,hat⟩:=(s2.inc eJ.mono i3.g.i).at (by omega)
 obtain ⟨rfl,rfl⟩:=sEq hv'
 obtain ⟨x,hx⟩:=gEl hi
 obtain ⟨h0,h1,a,cc,h2,hkx⟩:=eL (hat i x hx)
 have h0:=i3.g.j _ _ _ h0
 have h1:=i3.g.j _ _ _ h1
 have h2:=i3.g.j _ _ _ h2
 have hmore:(M.take (i+1)).filter nL=(M.take i).filter nL++if nL x then [x] else []:=by
  rw [bw hx,List.filter_append]
  cases h:nL x <;> simp [List.filter_cons,h]
 obtain ⟨T,hT⟩:∃ T,T=w3.heap.size:=⟨_,rfl⟩
 obtain ⟨w4,hw4⟩:∃ w4,w4=w3.alloc (.cells #[.string ⟨x.s.toArray⟩,.string ⟨x.e.toArray⟩,.slice a x.ks.length cc] 46):=⟨_,rfl⟩
 have x4:bj w3 w4:=by rw [hw4]; exact aM _
 have a0:w4.cell? ⟨T,0,none⟩=some (.string ⟨x.s.toArray⟩):=by rw [hw4,hT]; exact bk @aA
 have a1:w4.cell? ⟨T,1,none⟩=some (.string ⟨x.e.toArray⟩):=by rw [hw4,hT]; exact bk @aA
 have a2:w4.cell? ⟨T,2,none⟩=some (.slice a x.ks.length cc):=by rw [hw4,hT]; exact bk @aA
 have i5:=i3.ext eJ.mono x4
 refine fI @hi' @h0 @h1 @h2 ?_
 rw [← hw4,← hT]
 by_cases hz:x.ks=[]
 ·have hz1:¬ (0:Int) < x.ks.length:=by rw [hz]; simp
  have hz2:nL x=false:=aF fun h=>h hz
  rw [hz2] at hmore
  refine dU @a2 @hz1 ?_
  refine hK2 _ _ (i+1,vo) ?_ ⟨hi,d3,?_⟩ (by simp only; omega)
  ·exact bO
  ·simp only
   rw [hmore,if_neg (by decide),av]
   exact i5
 ·have hz0:x.ks.length≠0:=fun h=>hz (aZ.1 h)
  have hz1:(0:Int) < x.ks.length:=by omega
  have hz2:nL x=true:=aU hz
  rw [hz2] at hmore
  obtain ⟨css,o5⟩:=i5.o
  obtain ⟨wa,wcap,rfl,_⟩:=i5.form
  have hfl2:((M.take i).filter nL).length≤i:=by
   refine ai (bz _ _) ?_
   rw [bB]; omega
  refine fI @a0 @a1 @a2 @hz1 ?_
  refine ju x [.string ⟨x.s.toArray⟩,.string ⟨x.e.toArray⟩,.slice a x.ks.length cc] rw28 o5 ⟨_,rfl,hkx⟩ rfl (.inl rfl) rfl rfl (by simp [Value.oneCell']) (by omega) i5.g.j fun v6 w6 o6 k6 n6 j6 _ => ?_
  refine an ?_
  refine hK2 _ _ (i+1,v6) ?_ ⟨hi,d3,?_⟩ (by simp only; omega)
  ·exact bO
  ·simp only
   rw [hmore,if_pos rfl]
   exact i5.more o6 k6 n6 j6
theorem pH {lv:Value} {Lv:List (List Sp)} {snap:Nat} (hv:Sl mf 1 d lv Lv) (u:VOk Lv snap) (hinc:cN d w) (hk:∀ d' w' v',Gr d w d' w'→Sl eJ 3 d' v' ((gZ (rV Lv snap none none)).map cT)→k v' w'):aX prog 34 #[lv,.int .u64 snap] k w:=by
 obtain ⟨la,lc,rfl⟩:=hv.form
 refine ae [.tmp 4] func34 ?_
 refine an ?_
 have eS:ByteArray.empty=⟨([]:Bytes).toArray⟩:=rfl
 have hVl:=u.vl
 have hVk:=u.vk
 obtain ⟨V,hV⟩:∃ V,V=rV Lv snap none none:=⟨_,rfl⟩
 rw [← hV] at hVl hVk hk
 refine vD hv (by have:=u.n6; omega) (fun x hx=>⟨by have:=(u.sz x hx).1; omega,fun y hy=>by have:=(u.sz x hx).2 y hy; omega⟩) hinc fun d5 w5 v5 g5 s5 => ?_
 refine an ?_
 refine tN (n:=600) (by decide) g5.j fun d6 w6 v6 g6 s6 => ?_
 have i6:=g5.trans g6
 refine an ?_
 rw [eS]
 refine nJ (kl:=[]) (kh:=[]) (bl:=false) (bh:=false) (s5.inc mf.mono g6.i) s6 i6.j u.rin (by decide) (by decide) (IF 600).1 (by rw [(uD 600).1]; decide) fun d7 w7 v7 l7 g7 s7 hp => ?_
 have i7:=i6.trans g7
 have hp:Pw (nE V rz) (pX V (-2) false 0 (GS 600)) l7:=by rw [hV]; exact hp
 have hl7:l7.length=601:=by rw [← hp.1,zG,(uD 600).1]
 have hb7:=Bg (by omega) hp
 have hk7:=zL hb7 hVk
 refine an ?_
 refine tO s7 (by omega) (fun x hx=>by have:=hk7 x hx; omega) i7.j fun d8 w8 v8 g8 s8 => ?_
 rw [hb7,show nL=fun s:Sp=>decide (s.ks≠[]) from rfl,Be] at s8
 refine an ?_
 exact hk d8 w8 v8 (i7.trans g8) s8
end
end Go.Proofs
end
section
namespace Go.E
open Go Go.Sort Go.Proofs
section
variable {Lv:List (List Sp)} {n snap:Nat}
theorem LvOk.flat (lo:LvOk Lv n):Lv.flatten.length≤6 * n:=by
 have h1:=fj (Lv:=Lv) (n:=n) lo.sz
 have h2:Lv.length * n≤6 * n:=bN _ lo.n6
 omega
theorem LvOk.v (lo:LvOk Lv n) (hn:n≤8) (hsn:snap < 18446744073709551616) (f2:∀ x ∈ Lv,x.length≤2147483647∧∀ y ∈ x,sA y):VOk Lv snap :=
 ⟨GT lo (by omega) hsn f2 uC,lo.n6,fun x hx=>⟨by have:=lo.sz x hx; omega,fun y hy=>by have:=(lo.ks x hx y hy).2; omega⟩,by have:=lo.flat; omega⟩
end
end Go.E
namespace Go.Proofs
open Go Go.E Go.Sort
section
variable {k:au} {d w:World}
end
end Go.Proofs
end
section
namespace Go.E
open Go Go.Sort Go.Proofs
section
variable {Lv:List (List Sp)} {snap:Nat} {l F:List Sp}
theorem FrOut.lens (o:FrOut l F) (hn:l.length≤48) (hk:∀ x ∈ l,x.ks.length≤40):F.length≤96∧∀ f ∈ F,f.ks.length≤1920:=by
 have h1:=Dv o.ch fun f hf=>(o.str f hf).1
 refine ⟨by omega,fun f hf => ?_⟩
 have h2:=GX o.ch hf
 have h3:=(o.pt f.s).length_eq
 have h4:=AN (key:=f.s) hk
 have h5:l.length * 40≤48 * 40:=bN _ hn
 omega
theorem IG (hch:Ch F) (hne:∀ f ∈ F,f.ks≠[]) (hcd:∀ x,Cd (fZ F x)) (hst:∀ f ∈ F,(∃ y ∈ l,f.s=y.s∨f.s=y.e)∧∃ y ∈ l,f.e=y.s∨f.e=y.e) (hkey:∀ f ∈ F,∀ k ∈ f.ks,∃ y ∈ l,k ∈ y.ks) (h1:F.length≤96) (h2:∀ f ∈ F,f.ks.length≤1921) (hsn:snap < 18446744073709551616) (hl:∀ x ∈ l,sA x):VOk [F] snap:=by
 have hm:∀ L ∈ [F],L=F:=fun L h=>aQ.1 h
 have hw:∀ L ∈ [F],Wf L:=fun L h=>by rw [hm L h]; exact zx.2 hch
 have e:[F].flatten=F:=by simp
 refine ⟨⟨by simp,hsn,hw,fun L h => ?_,H7 hw fun x=>by rw [e]; exact hcd x,uC⟩,by simp,fun L h=>by rw [hm L h]; exact ⟨by omega,fun y hy=>by have:=h2 y hy; omega⟩,by rw [e]; omega⟩
 rw [hm L h]
 refine ⟨by omega,fun s hs=>⟨?_,?_,by have:=h2 s hs; omega,hne s hs,fun x hx => ?_⟩⟩
 ·obtain ⟨y,hy,e⟩:=(hst s hs).1
  have:=hl y hy
  rcases e with e | e
  ·rw [e]; have:=this.1; omega
  ·rw [e]; have:=this.2.1; omega
 ·obtain ⟨y,hy,e⟩:=(hst s hs).2
  have:=hl y hy
  rcases e with e | e
  ·rw [e]; have:=this.1; omega
  ·rw [e]; have:=this.2.1; omega
 ·obtain ⟨y,hy,e⟩:=hkey s hs x hx
  have:=(hl y hy).2.2.2 x e
  unfold wk
  unfold BK at this
  omega
theorem FrOut.v (o:FrOut l F) (hcd:∀ x,Cd (fZ l x)) (hn:l.length≤48) (hsn:snap < 18446744073709551616) (hf:∀ x ∈ l,sA x) (hk:∀ x ∈ l,x.ks.length≤40):VOk [F] snap:=by
 obtain ⟨h1,h2⟩:=o.lens hn hk
 exact IG o.ch (fun f hf=>(o.ne f hf).1) (fun x=>(hcd x).perm (o.pt x).symm) o.str o.key h1 (fun f hf=>by have:=h2 f hf; omega) hsn hf
theorem FrOut.seen (o:FrOut l F) (lo:LvOk Lv 8) (hp:l.Perm Lv.flatten):(gZ (rV Lv snap none none)).map cT=(gZ (rV [F] snap none none)).map cT :=
 xg lo.wf (zx.2 o.ch) fun x=>FM (lo.cd x) ((o.pt x).trans (mK hp x)).symm
theorem Dy (h:∀ x ∈ l,x.ks.length≤40):(bq l).length≤l.length * 40:=by
 unfold bq
 induction l with
 | nil=>simp
 | cons a l ih =>
  have:=ih fun x hx=>h x (aj _ hx)
  have:=h a aO
  rw [ax,aJ,aY,Nat.add_mul]
  omega
end
end Go.E
namespace Go.Proofs
open Go Go.E Go.Sort
section
variable {k:au} {d w:World}
end
end Go.Proofs
end
section
namespace Go.E
open Go Go.Sort Go.Proofs Go.Proofs.Tryz
theorem Cd.sub {a b:List K} (h:Cd a) (s:b.Sublist a):Cd b:=⟨h.dist.sublist s,fun x hx=>h.kind x (s.subset hx)⟩
section
variable {Lv:List (List Sp)} {l F G:List Sp}
theorem CoL.v (c:CoL F G) (o:FrOut l F) (hcd:∀ x,Cd (fZ F x)) (h1:F.length≤96) (h2:∀ f ∈ F,f.ks.length≤1920) (hf:∀ x ∈ l,sA x):VOk [G] 72057594037927935:=by
 refine IG (l:=l) (c.ch o.ch) (fun g hg => ?_) (fun x => ?_) (fun g hg => ?_) (fun g hg k hk => ?_) (by rw [c.len]; exact h1) (fun g hg => ?_) (by decide) hf
 ·obtain ⟨f,_,_,_,q⟩:=c.mem g hg
  exact q.ne
 ·rcases c.pt o.ch x with ⟨h,h'⟩ | q
  ·rw [h']; exact ⟨.nil,by simp⟩
  ·exact q.cd
 ·obtain ⟨f,hff,e1,e2,_⟩:=c.mem g hg
  rw [e1,e2]; exact o.str f hff
 ·obtain ⟨f,hff,_,_,q⟩:=c.mem g hg
  exact o.key f hff k (q.sub k hk)
 ·obtain ⟨f,hff,_,_,q⟩:=c.mem g hg
  have:=q.len
  have:=h2 f hff
  omega
theorem CoL.seen (c:CoL F G) (o:FrOut l F) (lo:LvOk Lv 8) (hp:l.Perm Lv.flatten):(gZ (rV Lv 72057594037927935 none none)).map cT=(gZ (rV [G] 72057594037927935 none none)).map cT :=
 xg lo.wf (zx.2 (c.ch o.ch)) fun x=>by
  rw [FM (lo.cd x) ((o.pt x).trans (mK hp x)).symm]
  rcases c.pt o.ch x with ⟨h,h'⟩ | q
  ·rw [h,h']
  ·exact q.tf.symm
end
end Go.E
namespace Go.Proofs
open Go Go.E Go.Sort Go.Proofs.Tryz
section
variable {k:au} {d w:World}
set_option maxHeartbeats 4000000 in
theorem qw {lv:Value} {Lv:List (List Sp)} (hv:Sl mf 1 d lv Lv) (hinc:cN d w) (hk:∀ w2,bj w w2→k (.bool true) w2) :
    aX prog 12 #[lv] k w:=by
 obtain ⟨la,lc,rfl⟩:=hv.form
 refine ae [.tmp 2] func12 ?_
 refine an ?_
 refine BP (hv.inc mf.mono hinc) fun b1 w1 x1 hb1 => ?_
 cases b1 with
 | false =>
  refine bf @Bool.not_false ?_
  exact hk _ x1
 | true =>
 obtain ⟨f1,f2⟩:=hb1 rfl
 refine bf @Bool.not_true ?_
 refine qt (n:=8) hv f1 (fun x hx=>⟨(f2 x hx).1,fun y hy=>((f2 x hx).2 y hy).2.2.1⟩) (by decide) (hinc.trans x1.inc) fun b3 w3 x3 hb3 => ?_
 have x13:=x1.trans x3
 cases b3 with
 | false =>
  refine bf @Bool.not_false ?_
  exact hk _ x13
 | true =>
 have lo:=hb3 rfl
 refine bf @Bool.not_true ?_
 have hfl:=lo.flat
 have hfk:∀ y ∈ Lv.flatten,y.ks≠[]∧y.ks.length≤40:=fun y hy=>by
  obtain ⟨L,hL,hy⟩:=cu.1 hy
  exact lo.ks L hL y hy
 have hff:∀ y ∈ Lv.flatten,sA y:=fun y hy=>by
  obtain ⟨L,hL,hy⟩:=cu.1 hy
  exact (f2 L hL).2 y hy
 have hfw:∀ y ∈ Lv.flatten,y.s < y.e:=fun y hy=>by
  obtain ⟨L,hL,hy⟩:=cu.1 hy
  exact (zx.1 (lo.wf L hL)).1 y hy
 have hfS:∀ y ∈ Lv.flatten,wm y:=fun y hy=>by
  obtain ⟨q1,q2,q3,q4⟩:=hff y hy
  refine ⟨by omega,by omega,by have:=(hfk y hy).2; omega,fun x hx => ?_⟩
  have:=q4 x hx
  unfold wk
  unfold BK at this
  omega
 have i0:=Gr.ext hinc x13
 refine qX (hv.inc mf.mono i0.i) (by have:=lo.n6; omega) (fun x hx=>by have:=lo.sz x hx; omega) i0.j fun d4 w4 v4 g4 s4 => ?_
 have i4:=i0.trans g4
 obtain ⟨A,hA⟩:∃ A,A=Lv.flatten:=⟨_,rfl⟩
 rw [← hA] at s4 hfl
 obtain ⟨a4,c4,rfl⟩:=s4.form
 refine an ?_
 refine qY s4 (by omega) (fun x hx=>by have:=(hfk x (hA ▸ hx)).2; omega) i4.j fun d5 w5 v5 g5 s5 => ?_
 have i5:=i4.trans g5
 obtain ⟨a5,c5,rfl⟩:=s5.form
 refine an ?_
 refine vI s5 (by omega) (fun x hx=>hfS x (hA ▸ hx)) i5.j fun d6 w6 v6 l6 g6 s6 hp6 hs6 => ?_
 have i6:=i5.trans g6
 obtain ⟨a6,c6,rfl⟩:=s6.form
 have hm6:∀ x ∈ l6,x ∈ Lv.flatten:=fun x hx=>by rw [← hA]; exact hp6.mem_iff.1 hx
 have hl6:=hp6.length_eq
 have hk6:∀ x ∈ l6,x.ks.length≤40:=fun x hx=>(hfk x (hm6 x hx)).2
 have hkl:=Dy hk6
 have hk48:l6.length * 40≤48 * 40:=bN _ (by omega)
 refine an ?_
 refine py s6 (by omega) (fun x hx=>hfS x (hm6 x hx)) (fun x hx=>hfw x (hm6 x hx)) (fun x hx=>(hfk x (hm6 x hx)).1) hs6 (by omega) i6.j fun d7 w7 v7 F g7 s7 o => ?_
 have i7:=i6.trans g7
 obtain ⟨a7,c7,rfl⟩:=s7.form
 rw [hA] at hp6
 have hsn:(72057594037927935:Nat) < 18446744073709551616:=by decide
 have u1:VOk Lv 72057594037927935:=lo.v (by decide) hsn f2
 have hcdF:∀ x,Cd (fZ F x):=fun x=>(lo.cd x).perm ((o.pt x).trans (mK hp6 x)).symm
 obtain ⟨hF1,hF2⟩:=o.lens (by omega) hk6
 refine an ?_
 refine bR (fun b:Nat × Value=>[(0,.slice la Lv.length lc),(3,b.2),(19,.slice a7 F.length c7),(20,.int .i64 F.length),(21,.int .i64 b.1)])
  (fun b w'=>b.1≤F.length∧∃ d1 G,CoL (F.take b.1) G∧LoopL eJ 3 46 d7 w7 d1 w' b.2 G) (fun b _=>F.length - b.1) (0,.slice none 0 0) (by kernel_rfl) ?_ ⟨aP _,d7,[],.nil,LoopL.nil i7.j⟩ ?_
 ·exact bO
 rintro K2 e ⟨i,vo⟩ w1 ⟨i2,d1,G,hG,i3⟩ hK2
 simp only at i2 hG i3
 rcases aG i F.length with hi | hi
 ·have hi':(i:Int) < F.length:=by omega
  obtain ⟨g,f,c,hv',hc,hat⟩:=(s7.inc eJ.mono i3.g.i).at (by omega)
  obtain ⟨rfl,rfl⟩:=sEq hv'
  obtain ⟨x,hx⟩:=gEl hi
  have hxm:=aK hx
  obtain ⟨h0,h1,a,cc,h2,hkx⟩:=eL (hat i x hx)
  have h0:=i3.g.j _ _ _ h0
  have h1:=i3.g.j _ _ _ h1
  have h2:=i3.g.j _ _ _ h2
  obtain ⟨T,hT⟩:∃ T,T=w1.heap.size:=⟨_,rfl⟩
  obtain ⟨w4,hw4⟩:∃ w4,w4=w1.alloc (.cells #[.string ⟨x.s.toArray⟩,.string ⟨x.e.toArray⟩,.slice a x.ks.length cc] 56):=⟨_,rfl⟩
  have x4:bj w1 w4:=by rw [hw4]; exact aM _
  have b0:w4.cell? ⟨T,0,none⟩=some (.string ⟨x.s.toArray⟩):=by rw [hw4,hT]; exact bk @aA
  have b1:w4.cell? ⟨T,1,none⟩=some (.string ⟨x.e.toArray⟩):=by rw [hw4,hT]; exact bk @aA
  have i4:=i3.ext eJ.mono x4
  refine fI @hi' @h0 @h1 @h2 ?_
  rw [← hw4,← hT]
  have hxk:=hF2 x hxm
  have hxl:∀ y ∈ x.ks,wk y:=fun y hy=>by
   obtain ⟨z,hz,hyz⟩:=o.key x hxm y hy
   exact (hfS z (hm6 z hz)).2.2.2 y hyz
  refine pG hkx (by omega) hxl (o.ne x hxm).1 ((hcdF x.s).sub (AM o.ch hxm)) (o.ne x hxm).2 i4.g.j fun d5 w5 v5 L g5 s5 ck => ?_
  have i5:=i4.call eJ.mono g5
  have hLl:=ck.len
  obtain ⟨a5,c5,rfl⟩:=s5.form
  have b0:=g5.x.cell b0
  have b1:=g5.x.cell b1
  refine an ?_
  refine ay (sq [0,1] (.read 2 (sq [3] (.read 4 (sq [5] (.eff 6 [2,4] (sq [7] (.eff 8 [] (.eff 9 [] (sq [10] .done)))))))))) ?_
  obtain ⟨w6,hw6⟩:∃ w6,w6=w5.drew:=⟨_,rfl⟩
  rw [← hw6]
  have x6:bj w5 w6:=by rw [hw6]; exact bj.drew' (bj.refl _)
  have i6':=i5.ext eJ.mono x6
  have b0:=x6.cell b0
  have b1:=x6.cell b1
  refine dU @b0 @b1 ?_
  refine sX s5 (by omega) i6'.g.j fun d8 w8 v8 g8 s8 => ?_
  have i8':=i6'.call eJ.mono g8
  have b0:=g8.x.cell b0
  have b1:=g8.x.cell b1
  obtain ⟨css,o8⟩:=i8'.o
  obtain ⟨va,vcap,rfl,_⟩:=i8'.form
  obtain ⟨k8,c8,rfl⟩:=s8.form
  have hGl:=hG.len
  rw [bB] at hGl
  refine dU @b0 @b1 ?_
  refine ju (⟨x.s,x.e,L⟩:Sp) [.string ⟨x.s.toArray⟩,.string ⟨x.e.toArray⟩,.slice k8 L.length c8] rw28 o8 ⟨_,rfl,s8⟩ rfl (.inl rfl) rfl rfl (by simp [Value.oneCell']) (by omega) i8'.g.j fun v9 w9 o9 k9 n9 j9 _ => ?_
  refine an ?_
  refine hK2 _ _ (i+1,v9) ?_ ⟨hi,d8,G++[⟨x.s,x.e,L⟩],?_,i8'.more o9 k9 n9 j9⟩ (by simp only; omega)
  ·exact bO
  ·simp only
   rw [bw hx]
   exact .snoc hG ck
 have hi':¬ (i:Int) < F.length:=by omega
 obtain rfl:i=F.length:=by omega
 rw [ah] at hG
 obtain ⟨d8,g8,_,_,s8⟩:=i3.done eJ.mono
 have i8:=i7.trans g8
 obtain ⟨a8,c8,rfl⟩:=s8.form
 have u2:VOk [G] 72057594037927935:=hG.v o hcdF hF1 hF2 fun y hy=>hff y (hm6 y hy)
 have hseen:=hG.seen o lo hp6
 have hVl2:=u2.vl
 have hVk2:=u2.vk
 obtain ⟨V2,hV2⟩:∃ V,V=rV [G] 72057594037927935 none none:=⟨_,rfl⟩
 rw [← hV2] at hVl2 hVk2 hseen
 refine bf @hi' ?_
 refine pH (hv.inc mf.mono i8.i) u1 i8.j fun d9 w9 v9 g9 s9 => ?_
 have i9:=i8.trans g9
 rw [hseen] at s9
 obtain ⟨a9,c9,rfl⟩:=s9.form
 refine an ?_
 obtain ⟨W,hW⟩:∃ W,W=w9.alloc (.cells #[.slice a8 G.length c8] 28):=⟨_,rfl⟩
 have xW:bj w9 W:=by rw [hW]; exact aM _
 have q0:W.cell? ⟨w9.heap.size,0,none⟩=some (.slice a8 G.length c8):=by rw [hW]; exact bk @aA
 obtain ⟨d10,g10,e10⟩:=tq i9.j xW
 have st:Sl mf 1 d10 (.slice (some ⟨w9.heap.size,0,none⟩) 1 1) [G]:=AD (cs:=[.slice a8 G.length c8]) rfl (fun j u hu=>by
  match j,hu with
  | 0,hu=>obtain rfl:=bn hu; exact e10 _ _ _ (aE _) q0) ⟨_,rfl,(s8.inc eJ.mono (g9.trans g10).i)⟩
 rw [← hW]
 have i10:=i9.trans g10
 refine pH st u2 i10.j fun d11 w11 v11 g11 s11 => ?_
 have i11:=i10.trans g11
 rw [← hV2] at s11
 obtain ⟨a11,c11,rfl⟩:=s11.form
 have hsl:∀ x ∈ (gZ V2).map cT,x.ks.length≤2147483647:=fun x hx=>by
  obtain ⟨y,hy,rfl⟩:=bU.1 hx
  rw [pD,aS]
  have:=hVk2 y (bp.1 hy).1
  omega
 have hsn2:((gZ V2).map cT).length≤2147483647:=by
  rw [aS]
  have:(gZ V2).length≤V2.length:=bz _ _
  omega
 refine an ?_
 refine tK ((s9.inc eJ.mono (g10.trans g11).i).inc eJ.mono i11.j) (s11.inc eJ.mono i11.j) hsn2 hsl fun w12 x12 => ?_
 rw [aU rfl]
 have i12:=i11.trans (Gr.ext i11.j x12)
 refine an ?_
 refine sP i12.j fun w13 x13 => ?_
 refine an ?_
 exact hk _ (i12.x.trans x13)
end
end Go.Proofs
end
section
namespace Go.E
open Go Go.Sort Go.Proofs Go.Proofs.Tryz
section
variable {H:Type} {enc:TypeId × Value→H} {w:World} {base:Nat} {spare:Nat→Bool} {held:Bool} {fuel:Nat} {cs:List Value} {x:DataW H × List MemPlace}
theorem ni {α:Type} [Inhabited α] {R:iK α} {t e:TypeId} {sz:Nat} (ht:prog.underlying t=some (.slice e)) (hsz:prog.cellsOf e=sz) (hp:0 < sz) (el:∀ n cs x,DataW.trod enc prog w base spare held n e cs=some x→∃ y,R w cs y) (h:DataW.trod enc prog w base spare held fuel t cs=some x):∃ v l,cs=[v]∧Sl R sz w v l:=by
 rcases Go.Deep.open_slice ht h with ⟨rfl,_⟩ | ⟨a,len,cap,m,n,D,Pl,rfl,_,hl,_,hm,_,hx⟩
 ·exact ⟨_,[],rfl,rfl,rfl⟩
 ·have hlm:len≤m:=by rw [hm]; split <;> omega
  have hx:∀ i,i < len→∃ y,∃ cs',w.cells? base (a.add (i * sz)) sz=some cs'∧R w cs' y:=fun i hi=>by
   obtain ⟨cs',h1,h2⟩:=hx i (by omega)
   obtain ⟨y,hy⟩:=el _ _ _ h2
   rw [hsz] at h1
   exact ⟨y,cs',h1,hy⟩
  obtain ⟨Y,hY⟩:=Go.Deep.choose_lt hx
  have hsp:0 < len→a.spot=none:=fun h0=>by
   obtain ⟨cs',h1,_⟩:=hY 0 h0
   obtain ⟨_,h2,h3⟩:=World.cells?_some h1
   have:=h3 0 hp
   rw [aC (by omega)] at this
   have:=World.cell?_spot this
   simpa [Addr.add] using this
  refine ⟨_,(List.range len).map Y,rfl,hsp,by simp,hl,fun i y hy => ?_⟩
  have hi:i < len:=by have:=(aR.1 hy).1; simpa using this
  obtain ⟨cs',h1,h2⟩:=hY i hi
  obtain ⟨_,h4,h5⟩:=World.cells?_some h1
  have:Y i=y:=by simpa [br,List.getElem?_range hi] using hy
  subst this
  refine ⟨cs',h4,fun j u hu => ?_,h2⟩
  have hj:=(aR.1 hu).1
  have:=h5 j (by omega)
  rw [hu,ik (hsp (by omega)),ik rfl] at this
  exact this
theorem jm (h:DataW.trod enc prog w base spare held fuel 9 cs=some x):∃ l,cs=[str l]:=by
 obtain ⟨s,rfl,_⟩:=DataW.trod_string Tryz.underlying9 h
 exact ⟨s.data.toList,rfl⟩
theorem xi (h:DataW.trod enc prog w base spare held fuel 23 cs=some x):∃ n:Nat,cs=[.int .u64 n]∧n < 18446744073709551616:=by
 obtain ⟨n,rfl,_,hw⟩:=DataW.trod_int Tryz.underlying23 h
 have hw:0≤n∧n≤18446744073709551615:=by simpa [Lit.wf,IntKind.min,IntKind.max,IntKind.bits,IntKind.signed] using hw
 have:0≤n∧n < 18446744073709551616:=by omega
 refine ⟨n.toNat,?_,by omega⟩
 rw [Int.toNat_of_nonneg this.1]
theorem zP (h:DataW.trod enc prog w base spare held fuel 88 cs=some x):∃ y,KE w cs y:=by
 obtain ⟨xs,n,_,_,hl,hlen,hf⟩:=DataW.trod_struct Tryz.underlying88 h
 rw [show prog.cellsOf 88=3 by kernel_rfl] at hl
 match cs,hl with
 | [c0,c1,c2],_ =>
  match xs,hlen with
  | [y0,y1,y2],_ =>
   have f0:DataW.trod enc prog w base spare held n 23 (([c0,c1,c2].drop 0).take (prog.cellsOf 23))=some y0:=hf 0 _ rfl
   have f1:DataW.trod enc prog w base spare held n 9 (([c0,c1,c2].drop 1).take (prog.cellsOf 9))=some y1:=hf 1 _ rfl
   have f2:DataW.trod enc prog w base spare held n 9 (([c0,c1,c2].drop 2).take (prog.cellsOf 9))=some y2:=hf 2 _ rfl
   rw [show prog.cellsOf 23=1 by kernel_rfl] at f0
   rw [show prog.cellsOf 9=1 by kernel_rfl] at f1 f2
   obtain ⟨a,ha,hw⟩:=xi f0
   obtain ⟨b,hb⟩:=jm f1
   obtain ⟨c,hc⟩:=jm f2
   simp at ha hb hc
   subst ha hb hc
   exact ⟨⟨a,b,c⟩,rfl,hw⟩
theorem xj (h:DataW.trod enc prog w base spare held fuel 46 cs=some x):∃ y,eJ w cs y:=by
 obtain ⟨xs,n,_,_,hl,hlen,hf⟩:=DataW.trod_struct Tryz.underlying46 h
 rw [show prog.cellsOf 46=3 by kernel_rfl] at hl
 match cs,hl with
 | [c0,c1,c2],_ =>
  match xs,hlen with
  | [y0,y1,y2],_ =>
   have f0:DataW.trod enc prog w base spare held n 9 (([c0,c1,c2].drop 0).take (prog.cellsOf 9))=some y0:=hf 0 _ rfl
   have f1:DataW.trod enc prog w base spare held n 9 (([c0,c1,c2].drop 1).take (prog.cellsOf 9))=some y1:=hf 1 _ rfl
   have f2:DataW.trod enc prog w base spare held n 44 (([c0,c1,c2].drop 2).take (prog.cellsOf 44))=some y2:=hf 2 _ rfl
   rw [show prog.cellsOf 44=1 by kernel_rfl] at f2
   rw [show prog.cellsOf 9=1 by kernel_rfl] at f0 f1
   obtain ⟨a,ha⟩:=jm f0
   obtain ⟨b,hb⟩:=jm f1
   obtain ⟨v,l,hv,hs⟩:=ni (R:=KE) (sz:=3) Tryz.underlying44 (by kernel_rfl) (by decide) (fun n cs x h=>zP h) f2
   simp at ha hb hv
   subst ha hb hv
   exact ⟨⟨a,b,l⟩,_,rfl,hs⟩
theorem tP (h:DataW.trod enc prog w base spare held fuel 28 cs=some x):∃ v l,cs=[v]∧Sl eJ 3 w v l:=ni (sz:=3) Tryz.underlying28 (by kernel_rfl) (by decide) (fun n cs x h=>xj h) h
theorem sY (h:DataW.trod enc prog w base spare held fuel 22 cs=some x):∃ v l,cs=[v]∧Sl mf 1 w v l :=
 ni (sz:=1) Tryz.underlying22 (by kernel_rfl) (by decide) (fun n cs x h=>by obtain ⟨v,l,rfl,hs⟩:=tP h; exact ⟨l,v,rfl,hs⟩) h
end
theorem Dz {w w2:World} (x:bj w w2):RowKit.Below w.heap.size w w2:=⟨x.st.1,x.st.2.1,x.st.2.2,x.size,fun b hb=>x.block b hb fun _ h=>h⟩
end Go.E
end
