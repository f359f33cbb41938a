/- Parts of the proof: Kq, Ta. -/
import Derived.Deep.Slices
import Derived.Test.YtjcbeinpkafjiaaGreatR20
import Derived.Test.YtjcbeinpkafjiaaGreatR24
import Derived.Test.YtjcbeinpkafjiaaGreatR28
set_option linter.all false
set_option maxRecDepth 10000
section
namespace Go.E
open Go Go.Sort Go.Proofs Go.Proofs.Tryz
theorem Eo {β:Type} (π:K→β) (V:List Sp) (x:Bytes):cu π V x=(cu id V x).map π:=by
 unfold cu
 split <;> simp
section
variable {Lv:List (List Sp)}
theorem F0 {L:List K} (h:Go.E.v55 L):tc 72057594037927935 L=L:=by
 unfold tc
 refine List.filter_eq_self.2 fun x hx => ?_
 have h1:=h x hx
 rw [mL h1]
 unfold ef
 rw [decide_eq_true_eq]
 omega
theorem vC {L:List K} (hc:Cd L) (h:Go.E.v55 L):gD [] (cH L)=(Tf 72057594037927935 L).map K.sv:=by
 rw [← pN hc,F0 (h.sub fun x hx=>(cT L).mem_iff.1 hx)]
theorem A6 {ks:List K} (hc:Cd ks) {x:K} (hx:x ∈ eH [] ks):an x.tr=21:=by
 have h1:=hc.kind x (fT hx)
 unfold eH at hx
 have h2:=(aN.1 hx).2
 unfold rS at h2
 simp only [Bool.not_eq_true',Bool.or_eq_false_iff,beq_eq_false_iff_ne] at h2
 omega
theorem JR {L:List K} (h:Go.E.v55 L) (hs:∀ x ∈ L,an x.tr=21) (hn:L≠[]):Tf 72057594037927935 L≠[]:=by
 obtain ⟨y,hy⟩:=List.exists_mem_of_ne_nil L hn
 obtain ⟨z,hz,h1,h2,h3⟩:=Eg hy (by rw [hs y hy]; decide)
 refine List.ne_nil_of_mem (a:=z) (jt.2 ⟨hz,gA.2 ⟨?_,hs z hz,fun u hu _=>⟨fun h9 => ?_,fun h9 hsuf=>h3 u hu h9 (by rw [hsuf,h2])⟩⟩⟩)
 ·have:=h z hz
  rw [mL this]
  unfold ef
  rw [decide_eq_true_eq]
  omega
 ·have:=hs u hu; omega
theorem FitOk.sets (o:FitOk Lv []) {f:Sp} (hf:f ∈ yl [] Lv):(∀ x ∈ f.ks,an x.tr=21)∧gD [] f.ks≠[]:=by
 obtain ⟨h1,_,u,h2⟩:=lH o.lv.wf hf
 have hcd:=o.lv.cdF u
 have h5:Go.E.v55 (cM Lv.length (de Lv) (bH Lv.flatten) u):=(o.key u).2
 have h5':Go.E.v55 (eH [] (cM Lv.length (de Lv) (bH Lv.flatten) u)):=h5.sub fun _ h=>fT h
 rw [List.reverse_nil] at h2
 refine ⟨fun x hx => ?_,?_⟩
 ·rw [h2,(cT _).mem_iff] at hx
  exact A6 hcd hx
 ·rw [h2,vC (pY hcd) h5']
  intro h
  have h3:=JR h5' (fun x hx=>A6 hcd hx) fun h0=>h1 (by rw [h2,h0]; rfl)
  exact h3 (by simpa using h)
theorem FitOk.settled (o:FitOk Lv []):((yl [] Lv).map iJ).foldl ee []=(eu (rV Lv 72057594037927935 none none)).map cR:=by
 have hw:=o.lv.wf
 obtain ⟨G,hG⟩:∃ G,G=(yl [] Lv).map iJ:=⟨_,rfl⟩
 have hGm:G=(yl [] Lv).map (iE fun ks=>(gD [] ks).map eF):=hG
 have hch:Ch G:=by rw [hGm]; exact AJ (tA hw) _
 have hbare:G.map cR=G:=by
  rw [hG,cl]
  refine List.map_congr_left fun x _ => ?_
  show cR (iJ x)=iJ x
  unfold cR iJ
  rw [pO]
 have hj:G.foldl ee []=(Vw K.sv G).map cR:=by
  have:=Ak G
  rwa [hbare] at this
 have hne:∀ g ∈ G,g.ks≠[]:=fun g hg=>by
  rw [hG] at hg
  obtain ⟨f,hf,rfl⟩:=bV.1 hg
  have:=(o.sets hf).2
  show (gD [] f.ks).map eF≠[]
  simpa using this
 have hseen:eu (Vw K.sv G)=Vw K.sv G:=by
  unfold eu
  refine List.filter_eq_self.2 fun s hs=>aO ?_
  obtain ⟨⟨j,hj,_,e⟩,_⟩:=wg hs
  rw [e,aG G j hj]
  exact hne _ (aS hj)
 have hH:Wf (GL (Tf 72057594037927935) Lv.length (de Lv) (bH Lv.flatten)):=uR (iS hw)
 have hu:=yO (sX.2 hch) hH fun x=>by
  have h5:=o.v55 x
  have h5':Go.E.v55 (eH [] (iD Lv.flatten x)):=h5.sub fun _ h=>fT h
  have hcd:=o.lv.cd x
  rw [ET hw,Eo,hGm,s9 rfl,← El (tA hw),wh hw,pO,List.reverse_nil,vC (pY hcd) h5',Ax .nil hcd h5]
  refine .inr fun y hy => ?_
  have:=h5 y hy
  unfold ef
  rw [decide_eq_true_eq]
  omega
 rw [← hG,hj,← hseen,hu,rV,Au]
end
end Go.E
namespace Go.Proofs
open Go Go.E Go.Sort Go.Proofs.Tryz
section
variable {k:aq} {d w:World}
set_option maxHeartbeats 1000000 in
theorem tu {lv:Value} {Lv:List (List Sp)} (hv:Sl jx 1 d lv Lv) (hinc:bz d w) (hk:∀ w2,bY w w2→k (.bool true) w2):aX prog 9 #[lv] k w:=by
 obtain ⟨la,lc,rfl⟩:=hv.form
 refine ai [.tmp 2] func9 ?_
 refine al ?_
 refine CN (hv.inc jx.mono hinc) fun b1 w1 x1 hb1 => ?_
 cases b1 with
 | false =>
  refine al ?_
  exact hk _ x1
 | true =>
 obtain ⟨f1,f2⟩:=hb1 rfl
 refine al ?_
 refine Fx hv (Sl.nil:Sl Cj 1 d (.slice none 0 0) []) f1 (fun x hx=>⟨(f2 x hx).1,fun y hy=>((f2 x hx).2 y hy).2.2.1⟩) (hinc.trans x1.inc) fun b3 w3 x3 hb3 => ?_
 have x13:=x1.trans x3
 cases b3 with
 | false =>
  refine al ?_
  refine vB (hinc.trans x13.inc) fun w4 x4 => ?_
  refine al ?_
  exact hk _ (x13.trans x4)
 | true =>
 have o:=hb3 rfl
 have i0:=Gr.ext hinc x13
 refine al ?_
 refine tC (hv.inc jx.mono i0.i) (Sl.nil:Sl Cj 1 _ (.slice none 0 0) []) o f2 i0.j fun d2 w2 v2 g2 s2 => ?_
 have gW:=i0.trans g2
 have hsets:=fun f hf=>o.sets (f:=f) hf
 have hsettled:=o.settled
 have u1:VOk Lv 72057594037927935:=o.lv.v (by decide) (by decide) f2
 have hVl:=u1.vl
 have hVk:=u1.vk
 obtain ⟨V2,hV2⟩:∃ V,V=rV Lv 72057594037927935 none none:=⟨_,rfl⟩
 rw [← hV2] at hsettled hVl hVk
 have hFk:=o.len
 have hFl:(yl [] Lv).length≤96:=by
  have:=z8 (tA (snaps:=[]) o.lv.wf) fun f hf=>(lH o.lv.wf hf).2.1.1
  have:=o.lv.flat
  omega
 obtain ⟨F,hF⟩:∃ F,F=yl [] Lv:=⟨_,rfl⟩
 rw [← hF] at s2 hsets hsettled hFk hFl
 obtain ⟨fa,fc,rfl⟩:=s2.form
 refine al ?_
 refine bO (fun b:Nat × Value=>[(0,.slice la Lv.length lc),(4,b.2),(21,.slice fa F.length fc),(22,.int .i64 F.length),(23,.int .i64 b.1)])
  (fun b w'=>b.1≤F.length∧∃ d1,LoopL dY 3 46 d2 w2 d1 w' b.2 ((F.take b.1).map iJ)) (fun b _=>F.length - b.1) (0,.slice none 0 0) (by kernel_rfl) ?_ ⟨aQ _,d2,LoopL.nil gW.j⟩ ?_
 ·exact bE
 rintro K2 e ⟨i,vo⟩ w3' ⟨i2,d3,i3⟩ hK2
 simp only at i2 i3
 rcases aH i F.length with hi | hi
 rotate_left
 ·have hi':¬ (i:Int) < F.length:=by omega
  obtain rfl:i=F.length:=by omega
  rw [aT] at i3
  obtain ⟨d4,g4,_,_,s4⟩:=i3.done dY.mono
  have i4:=gW.trans g4
  obtain ⟨ba,bc,rfl⟩:=s4.form
  refine bf @hi' ?_
  refine vB i4.j fun w5 x5 => ?_
  refine al ?_
  refine sm (i4.j.trans x5.inc) fun w6 x6 => ?_
  have j6:=Gr.ext i4.j (x5.trans x6)
  refine al ?_
  refine mN s4 (by rw [ah]; omega) (fun x hx => ?_) (fun x hx => ?_) j6.j fun d7 w7 v7 g7 s7 => ?_
  ·obtain ⟨f,hf,rfl⟩:=bV.1 hx
   have h1:=jv f.ks
   have h2:=hFk f hf
   rw [show (iJ f).ks=(gD [] f.ks).map eF from rfl,ah]
   omega
  ·obtain ⟨f,hf,rfl⟩:=bV.1 hx
   have:=(hsets f hf).2
   show (gD [] f.ks).map eF≠[]
   simpa using this
  have i7:=(i4.trans j6).trans g7
  rw [hsettled] at s7
  obtain ⟨a7,c7,rfl⟩:=s7.form
  refine al ?_
  refine we (hv.inc jx.mono i7.i) u1 i7.j fun d8 w8 v8 g8 s8 => ?_
  have i8:=i7.trans g8
  rw [← hV2] at s8
  obtain ⟨a8,c8,rfl⟩:=s8.form
  have hsl:∀ x ∈ (eu V2).map cR,x.ks.length≤2147483647:=fun x hx=>by
   obtain ⟨y,hy,rfl⟩:=bV.1 hx
   rw [pV,ah]
   have:=hVk y (aN.1 hy).1
   omega
  have hsn2:((eu V2).map cR).length≤2147483647:=by
   rw [ah]
   have:(eu V2).length≤V2.length:=az _ _
   omega
  refine al ?_
  refine tj (s7.inc dY.mono (g8.i.trans i8.j)) (s8.inc dY.mono i8.j) hsn2 hsl fun w9 x9 => ?_
  rw [aO rfl]
  refine al ?_
  exact hk _ (i8.x.trans x9)
 have hi':(i:Int) < F.length:=by omega
 obtain ⟨g,f,c,hv',hc,hat⟩:=(s2.inc dY.mono (i3.g.i.trans i3.g.j)).at (by omega)
 obtain ⟨rfl,rfl⟩:=sEq hv'
 obtain ⟨x,hx⟩:=gEl hi
 have hxm:=aJ hx
 have hxl:=hFk x hxm
 have hxs:=(hsets x hxm).1
 obtain ⟨h0,h1,a,cc,h2,hkx⟩:=dI (hat i x hx)
 have more:(F.take (i+1)).map iJ=(F.take i).map iJ++[iJ x]:=by rw [bn hx,bC]; rfl
 obtain ⟨B,hB⟩:∃ B,B=w3'.heap.size:=⟨_,rfl⟩
 obtain ⟨w4,hw4⟩:∃ w4,w4=((((w3'.alloc (.cells #[.string ⟨x.s.toArray⟩,.string ⟨x.e.toArray⟩,.slice a x.ks.length cc] 46)).alloc (.cells #[.string ByteArray.empty,.string ByteArray.empty,.slice none 0 0] 46)).setCell ⟨w3'.heap.size+1,0,none⟩ (.string ⟨x.s.toArray⟩)).setCell ⟨w3'.heap.size+1,1,none⟩ (.string ⟨x.e.toArray⟩)).setCell ⟨w3'.heap.size+1,2,none⟩ (.slice none 0 0):=⟨_,rfl⟩
 have x4:bY w3' w4:=by rw [hw4]; exact bX (bX (bX ((aL _).trans (aL _)) (by omega)) (by omega)) (by omega)
 have z4:w4.heap.size=B+2:=by rw [hw4,hB]; simp only [World.size_setCell,World.size_alloc]
 have s0:w4.cell? ⟨B,2,none⟩=some (.slice a x.ks.length cc):=by rw [hw4,hB]; exact bb @aA
 have c0:w4.cell? ⟨B+1,0,none⟩=some (.string ⟨x.s.toArray⟩):=by rw [hw4,hB]; exact bb @aA
 have c1:w4.cell? ⟨B+1,1,none⟩=some (.string ⟨x.e.toArray⟩):=by rw [hw4,hB]; exact bb @aA
 have c2:w4.cell? ⟨B+1,2,none⟩=some (.slice none 0 0):=by rw [hw4,hB]; exact bb @aA
 have f4:∀ y,w4.frozen? ⟨B+1,y,none⟩=false:=fun y=>by rw [hw4,hB]; exact bb @cy
 have hkx4:=hkx.inc KE.mono x4.inc
 refine rA @hi' @h0 @h1 @h2 @aA @cy ?_
 rw [← hw4,← hB]
 refine bO (fun j:Nat=>[(0,.slice la Lv.length lc),(4,vo),(6,.pointer (some ⟨B,0,none⟩)),(7,.pointer (some ⟨B+1,0,none⟩)),(21,.slice (some ⟨g,f,none⟩) F.length fc),(22,.int .i64 F.length),(23,.int .i64 i),(33,.slice a x.ks.length cc),(34,.int .i64 x.ks.length),(35,.int .i64 j)])
  (fun j w'=>j≤x.ks.length∧bY w4 w') (fun j _=>x.ks.length - j) 0 (by kernel_rfl) ?_ ⟨aQ _,bY.refl _⟩ ?_
 ·exact bE
 rintro K4 e4 j wj ⟨j2,j3⟩ hK4
 rcases aH j x.ks.length with hj | hj
 ·have hj':(j:Int) < x.ks.length:=by omega
  obtain ⟨g2',f2',c2',hv2,hc2,hat2⟩:=(hkx4.inc KE.mono j3.inc).at (by omega)
  obtain ⟨rfl,rfl⟩:a=some ⟨g2',f2',none⟩∧cc=c2':=by simpa using hv2
  obtain ⟨y,hy⟩:=gEl hj
  obtain ⟨p0,p1,p2,p3⟩:=eW (hat2 j y hy)
  have x5:=aL (w:=wj) (.cells #[.int .u64 y.tr,.string ⟨y.suf.toArray⟩,.string ⟨y.val.toArray⟩] 88)
  have h21:((an y.tr:Int) != 21)=false:=by have:=hxs y (aJ hy); simp; omega
  refine gH @hj' @p0 @p1 @p2 @aA ?_
  refine mK ?_
  refine bf @h21 ?_
  refine hK4 _ _ (j+1) ?_ ⟨hj,j3.trans x5⟩ (by omega)
  exact bE
 have hj':¬ (j:Int) < x.ks.length:=by omega
 have s0:=j3.cell s0
 have c0:=j3.cell c0
 have c1:=j3.cell c1
 have c2:=j3.cell c2
 have hB4:B+1 < w4.heap.size:=by omega
 have f4:∀ y,wj.frozen? ⟨B+1,y,none⟩=false:=fun y=>by rw [j3.frozen _ y hB4]; exact f4 y
 have x4:=x4.trans j3
 have z4:B+2≤wj.heap.size:=by have:=j3.size; omega
 have hkx5:=hkx4.inc KE.mono j3.inc
 clear hw4
 refine dV @hj' @s0 ?_
 refine su hkx5 (by omega) fun v5 w5 x5 o5 n5 => ?_
 have hstl:=jv x.ks
 have hvs:iJ x=⟨x.s,x.e,(gD [] x.ks).map eF⟩:=rfl
 obtain ⟨st,hst⟩:∃ st,st=gD [] x.ks:=⟨_,rfl⟩
 rw [← hst] at o5 hstl hvs
 have n5b:∀ g,v5.ownBlock=some g→g < w5.heap.size:=fun g hg=>(o5.own.lt _ hg).2
 have x35:=x4.trans x5
 obtain ⟨va5,vc5,rfl,_⟩:=o5.form
 have z5:=x5.size
 refine al ?_
 refine gm (fun _:Unit=>[(0,.slice la Lv.length lc),(4,vo),(7,.pointer (some ⟨B+1,0,none⟩)),(21,.slice (some ⟨g,f,none⟩) F.length fc),(22,.int .i64 F.length),(23,.int .i64 i)])
  (fun _ w'=>bY w3' w'∧w'.cell? ⟨B+1,0,none⟩=some (.string ⟨x.s.toArray⟩)∧w'.cell? ⟨B+1,1,none⟩=some (.string ⟨x.e.toArray⟩)∧∃ v,w'.cell? ⟨B+1,2,none⟩=some v∧OwnC wq 3 88 w' v (st.map eF)∧∀ g,v.ownBlock=some g→w3'.heap.size≤g) (by kernel_rfl) (fun K hK => ?_) ?_
 ·refine bO (fun j:Nat=>[(0,.slice la Lv.length lc),(4,vo),(7,.pointer (some ⟨B+1,0,none⟩)),(21,.slice (some ⟨g,f,none⟩) F.length fc),(22,.int .i64 F.length),(23,.int .i64 i),(46,.slice va5 st.length vc5),(47,.int .i64 st.length),(48,.int .i64 j)])
    (fun j w'=>j≤st.length∧bY w3' w'∧w5.heap.size≤w'.heap.size∧w'.cell? ⟨B+1,0,none⟩=some (.string ⟨x.s.toArray⟩)∧w'.cell? ⟨B+1,1,none⟩=some (.string ⟨x.e.toArray⟩)∧(∀ y,w'.frozen? ⟨B+1,y,none⟩=false)∧OwnC yd 2 64 w' (.slice va5 st.length vc5) st ∧
     ∃ v,w'.cell? ⟨B+1,2,none⟩=some v∧OwnC wq 3 88 w' v ((st.take j).map eF)∧∀ g,v.ownBlock=some g→w5.heap.size≤g) (fun j _=>st.length - j) 0 (by kernel_rfl) ?_
     ⟨aQ _,x35,aD _,x5.cell c0,x5.cell c1,fun y=>by rw [x5.frozen _ y (by omega)]; exact f4 y,o5,_,x5.cell c2,OwnC.nil pS,by simp [Value.ownBlock]⟩ ?_
  ·exact bE
  rintro K3 e3 j w6 ⟨j1,j2,j3,j4,j5,j6,j7,v,j8,j9,j10⟩ hK3
  rcases aH j st.length with hj | hj
  rotate_left
  ·have hj':¬ (j:Int) < st.length:=by omega
   refine bf @hj' ?_
   obtain rfl:j=st.length:=by omega
   rw [aT] at j9
   refine hK _ _ () ?_ ⟨j2,j4,j5,v,j8,j9,fun g hg=>by have:=j10 g hg; have:=x35.size; omega⟩
   exact bE
  have hj':(j:Int) < st.length:=by omega
  obtain ⟨bg,bc',hbv,hbg⟩:=j7.block hj
  obtain ⟨rfl,rfl⟩:va5=some ⟨bg,0,none⟩∧vc5=bc':=by simpa using hbv
  have hbg5:=n5b bg rfl
  have hbg4:=n5 bg rfl
  obtain ⟨y,hy⟩:=gEl hj
  have p0:=j7.cell hy (j:=0) rfl
  have p1:=j7.cell hy (j:=1) rfl
  simp only [str,Nat.add_zero] at p0 p1
  obtain ⟨w7,hw7⟩:∃ w7,w7=w6.alloc (.cells #[.string ⟨y.1.toArray⟩,.string ⟨y.2.toArray⟩] 64):=⟨_,rfl⟩
  have x7:bY w6 w7:=by rw [hw7]; exact aL _
  have j8':=x7.cell j8
  obtain ⟨T,hT⟩:∃ T,T=w6.heap.size:=⟨_,rfl⟩
  have t0:w7.cell? ⟨T,0,none⟩=some (.string ⟨y.1.toArray⟩):=by rw [hw7,hT]; exact bb @aA
  have t1:w7.cell? ⟨T,1,none⟩=some (.string ⟨y.2.toArray⟩):=by rw [hw7,hT]; exact bb @aA
  obtain ⟨va,vc,rfl,_⟩:=j9.form
  have hS6:=aE j8
  refine gH @hj' @p0 @p1 @j8 @aA ?_
  rw [← hw7,← hT]
  refine sd (eF y) rw44 (j9.ext x7) rfl (.inl rfl) (by rw [hw7,World.size_alloc,hT]) (pT _) (by rw [ah,dB j1]; omega) fun v8 w8 o8 k8 n8 => ?_
  have j10':∀ g,v8.ownBlock=some g→w5.heap.size≤g:=fun g hg=>by
   rcases n8 g hg with h | h
   ·exact j10 g h
   ·have:=x7.size; omega
  have nS:∀ b,b < w5.heap.size→(Value.slice va ((st.take j).map eF).length vc).ownBlock≠some b:=fun b hb h=>by have:=j10 b h; omega
  have q2:=k8.some j8' (nS _ (by omega))
  have f8:∀ y,w8.frozen? ⟨B+1,y,none⟩=false:=fun y=>by rw [k8.frozen _ y (by have:=x7.size; omega),x7.frozen _ y hS6]; exact j6 y
  obtain ⟨va8,vc8,rfl,_⟩:=o8.form
  refine dV @q2 @f8 ?_
  have k9:Keep (fun b y=>b=B+1∧y=2) w8 (w8.setCell ⟨B+1,2,none⟩ (.slice va8 ((st.take j).map eF++[eF y]).length vc8)):=bR ⟨rfl,rfl⟩
  refine hK3 _ _ (j+1) ?_ ⟨hj,bX ((j2.trans x7).tr k8 fun b o hb h=>by have:=j10 b h; have:=x35.size; omega) (by omega),?_,k9.some (k8.some (x7.cell j4) (nS _ (by omega))) (by omega),k9.some (k8.some (x7.cell j5) (nS _ (by omega))) (by omega),fun y=>by rw [World.frozen?_setCell]; exact f8 y,
   ((j7.ext x7).keep k8 fun g hg o h=>nS g (by simp [Value.ownBlock] at hg; omega) h).keep k9 fun g hg o h=>by simp [Value.ownBlock] at hg; omega,_,by rw [cC,q2]; rfl,?_,j10'⟩ (by omega)
  ·exact bE
  ·rw [World.size_setCell]; have:=x7.size; have:=k8.size; omega
  ·rw [bn hy,bC]
   exact o8.keep k9 fun g hg o h=>by have:=j10' g hg; omega
 rintro e5 _ w6 ⟨j2,c0,c1,v,c2,o6,n6⟩
 obtain ⟨d5,g5,e5'⟩:=nN i3.g.j j2
 have i6:=i3.call dY.mono g5
 have hsl:Sl KE 3 d5 v (st.map eF):=o6.slg (fun y hy=>by
  obtain ⟨p,_,rfl⟩:=bV.1 hy
  exact ⟨rfl,show (0:Nat) < _ by decide⟩) fun g hg o u hu=>e5' _ _ _ (n6 g hg) hu
 obtain ⟨va,vc,rfl,_⟩:=o6.form
 obtain ⟨vo1,vo2,rfl,_⟩:=i6.form
 obtain ⟨css,oo⟩:=i6.o
 refine eI @c0 @c1 @c2 ?_
 refine jI (⟨x.s,x.e,st.map eF⟩:Sp) [.string ⟨x.s.toArray⟩,.string ⟨x.e.toArray⟩,.slice va (st.map eF).length vc] rw28 oo ⟨_,rfl,hsl⟩ rfl (.inl rfl) rfl rfl (by simp [Value.oneCell']) (by rw [ah,dB i2]; omega) i6.g.j fun v8 w8 o8 k8 n8 j8 _ => ?_
 refine al ?_
 refine hK2 _ _ (i+1,v8) ?_ ⟨hi,d5,by simp only; rw [more,hvs]; exact i6.more o8 k8 n8 j8⟩ (by simp only; omega)
 exact bE
end
end Go.Proofs
end
section
namespace Go.E
open Go Go.Sort Go.Proofs Go.Proofs.Tryz
section
variable {H:Type} {enc:TypeId × Value→H} {w:World} {base:Nat} {spare:Nat→Bool} {held:Bool} {fuel:Nat} {cs:List Value} {x:DataW H × List MemPlace}
theorem ny {α:Type} [Inhabited α] {R:gN α} {t e:TypeId} {sz:Nat} (ht:prog.underlying t=some (.slice e)) (hsz:prog.cellsOf e=sz) (hp:0 < sz) (el:∀ n cs x,DataW.trod enc prog w base spare held n e cs=some x→∃ y,R w cs y) (h:DataW.trod enc prog w base spare held fuel t cs=some x):∃ v l,cs=[v]∧Sl R sz w v l:=by
 rcases Go.Deep.open_slice ht h with ⟨rfl,_⟩ | ⟨a,len,cap,m,n,D,Pl,rfl,_,hl,_,hm,_,hx⟩
 ·exact ⟨_,[],rfl,rfl,rfl⟩
 ·have hlm:len≤m:=by rw [hm]; split <;> omega
  have hx:∀ i,i < len→∃ y,∃ cs',w.cells? base (a.add (i * sz)) sz=some cs'∧R w cs' y:=fun i hi=>by
   obtain ⟨cs',h1,h2⟩:=hx i (by omega)
   obtain ⟨y,hy⟩:=el _ _ _ h2
   rw [hsz] at h1
   exact ⟨y,cs',h1,hy⟩
  obtain ⟨Y,hY⟩:=Go.Deep.choose_lt hx
  have hsp:0 < len→a.spot=none:=fun h0=>by
   obtain ⟨cs',h1,_⟩:=hY 0 h0
   obtain ⟨_,h2,h3⟩:=World.cells?_some h1
   have:=h3 0 hp
   rw [aC (by omega)] at this
   have:=World.cell?_spot this
   simpa [Addr.add] using this
  refine ⟨_,(List.range len).map Y,rfl,hsp,by simp,hl,fun i y hy => ?_⟩
  have hi:i < len:=by have:=(aP.1 hy).1; simpa using this
  obtain ⟨cs',h1,h2⟩:=hY i hi
  obtain ⟨_,h4,h5⟩:=World.cells?_some h1
  have:Y i=y:=by simpa [bq,List.getElem?_range hi] using hy
  subst this
  refine ⟨cs',h4,fun j u hu => ?_,h2⟩
  have hj:=(aP.1 hu).1
  have:=h5 j (by omega)
  rw [hu,ic (hsp (by omega)),ic rfl] at this
  exact this
theorem jm (h:DataW.trod enc prog w base spare held fuel 9 cs=some x):∃ l,cs=[str l]:=by
 obtain ⟨s,rfl,_⟩:=DataW.trod_string Tryz.underlying9 h
 exact ⟨s.data.toList,rfl⟩
theorem yg (h:DataW.trod enc prog w base spare held fuel 23 cs=some x):∃ n:Nat,cs=[.int .u64 n]∧n < 18446744073709551616:=by
 obtain ⟨n,rfl,_,hw⟩:=DataW.trod_int Tryz.underlying23 h
 have hw:0≤n∧n≤18446744073709551615:=by simpa [Lit.wf,IntKind.min,IntKind.max,IntKind.bits,IntKind.signed] using hw
 have:0≤n∧n < 18446744073709551616:=by omega
 refine ⟨n.toNat,?_,by omega⟩
 rw [Int.toNat_of_nonneg this.1]
theorem AM (h:DataW.trod enc prog w base spare held fuel 88 cs=some x):∃ y,KE w cs y:=by
 obtain ⟨xs,n,_,_,hl,hlen,hf⟩:=DataW.trod_struct Tryz.underlying88 h
 rw [show prog.cellsOf 88=3 by kernel_rfl] at hl
 match cs,hl with
 | [c0,c1,c2],_ =>
  match xs,hlen with
  | [y0,y1,y2],_ =>
   have f0:DataW.trod enc prog w base spare held n 23 (([c0,c1,c2].drop 0).take (prog.cellsOf 23))=some y0:=hf 0 _ rfl
   have f1:DataW.trod enc prog w base spare held n 9 (([c0,c1,c2].drop 1).take (prog.cellsOf 9))=some y1:=hf 1 _ rfl
   have f2:DataW.trod enc prog w base spare held n 9 (([c0,c1,c2].drop 2).take (prog.cellsOf 9))=some y2:=hf 2 _ rfl
   rw [show prog.cellsOf 23=1 by kernel_rfl] at f0
   rw [show prog.cellsOf 9=1 by kernel_rfl] at f1 f2
   obtain ⟨a,ha,hw⟩:=yg f0
   obtain ⟨b,hb⟩:=jm f1
   obtain ⟨c,hc⟩:=jm f2
   simp at ha hb hc
   subst ha hb hc
   exact ⟨⟨a,b,c⟩,rfl,hw⟩
theorem yh (h:DataW.trod enc prog w base spare held fuel 46 cs=some x):∃ y,dY w cs y:=by
 obtain ⟨xs,n,_,_,hl,hlen,hf⟩:=DataW.trod_struct Tryz.underlying46 h
 rw [show prog.cellsOf 46=3 by kernel_rfl] at hl
 match cs,hl with
 | [c0,c1,c2],_ =>
  match xs,hlen with
  | [y0,y1,y2],_ =>
   have f0:DataW.trod enc prog w base spare held n 9 (([c0,c1,c2].drop 0).take (prog.cellsOf 9))=some y0:=hf 0 _ rfl
   have f1:DataW.trod enc prog w base spare held n 9 (([c0,c1,c2].drop 1).take (prog.cellsOf 9))=some y1:=hf 1 _ rfl
   have f2:DataW.trod enc prog w base spare held n 44 (([c0,c1,c2].drop 2).take (prog.cellsOf 44))=some y2:=hf 2 _ rfl
   rw [show prog.cellsOf 44=1 by kernel_rfl] at f2
   rw [show prog.cellsOf 9=1 by kernel_rfl] at f0 f1
   obtain ⟨a,ha⟩:=jm f0
   obtain ⟨b,hb⟩:=jm f1
   obtain ⟨v,l,hv,hs⟩:=ny (R:=KE) (sz:=3) Tryz.underlying44 (by kernel_rfl) (by decide) (fun n cs x h=>AM h) f2
   simp at ha hb hv
   subst ha hb hv
   exact ⟨⟨a,b,l⟩,_,rfl,hs⟩
theorem tw (h:DataW.trod enc prog w base spare held fuel 28 cs=some x):∃ v l,cs=[v]∧Sl dY 3 w v l:=ny (sz:=3) Tryz.underlying28 (by kernel_rfl) (by decide) (fun n cs x h=>yh h) h
theorem tD (h:DataW.trod enc prog w base spare held fuel 22 cs=some x):∃ v l,cs=[v]∧Sl jx 1 w v l :=
 ny (sz:=1) Tryz.underlying22 (by kernel_rfl) (by decide) (fun n cs x h=>by obtain ⟨v,l,rfl,hs⟩:=tw h; exact ⟨l,v,rfl,hs⟩) h
end
theorem Ep {w w2:World} (x:bY w w2):RowKit.Below w.heap.size w w2:=⟨x.st.1,x.st.2.1,x.st.2.2,x.size,fun b hb=>x.block b hb fun _ h=>h⟩
end Go.E
end
