/- Parts of the proof: Fe, Ff, Fg. -/
import Derived.Test.YtlmoafgebiffaaaGreatDoorV24
set_option linter.all false
set_option maxRecDepth 10000
section
namespace Go.Proofs
open Go Go.E Go.Sort Go.Proofs.Tryz
section
variable {k:aq} {d w:World}
set_option maxHeartbeats 4000000 in
theorem uu {c:Nat→Nat} {F O A:Nat} {vo vf vb:Value} {out:List Sp} {lf:List KR} {B:List SR} (h:FrC c d w F O A vo out vf lf) (hinc:cM d w) (hb:w.ownsRow 0 61 4 vb B.length (kM B)) (hbg:∀ r ∈ B,r.good d) (hbc:∀ g,vb.ownBlock=some g→c g=5∧cj d g)
    (hbn:B.length≤1000) (hkn:∀ r ∈ B,r.x.ks≠[]) (hkt:(cG (B.map SR.x)).length < 1000000) (hol:out.length+B.length < 90000)
    (hk:∀ d2 w2 c2 vo2 vf2 lf2 L o2,FrC c2 d2 w2 F O A vo2 (out++o2) vf2 lf2→L.Perm (B.map SR.x)→qA L→FlR L o2→Gk (fM c) d w d2 w2→(∀ b,b < w.heap.size→c2 b=c b)→(∃ xs,w2.ownsRow 0 61 4 vb B.length xs)→k (.tuple #[]) w2) :
    ai prog 61 #[.pointer (some ⟨F,0,none⟩),vb,.slice none 0 0] k w:=by
 obtain ⟨ba,bc,rfl,hbl⟩:=bP hb
 obtain ⟨v5,f5⟩:=b7.1 h.f5
 obtain ⟨v6,f6⟩:=b7.1 h.f6
 have f0:=h.f0
 have fz:=h.fz
 have hF:=h.cF
 have hFl:=aC f0
 refine al [] func61 ?_
 refine eO @f0 @f5 @f6 @fz ?_
 obtain ⟨w1,hw1⟩:∃ w1,w1=(w.setCell ⟨F,5,none⟩ (.func (.func 85) #[] #[])).setCell ⟨F,6,none⟩ (.slice ba B.length bc):=⟨_,rfl⟩
 rw [← hw1]
 have k1:Keep (fun b o=>b=F∧(o=5∨o=6)) w w1:=by rw [hw1]; exact ((Keep.refl _ w).set fun _=>⟨rfl,.inl rfl⟩).set fun _=>⟨rfl,.inr rfl⟩
 have c5:w1.cell? ⟨F,5,none⟩=some (.func (.func 85) #[] #[]):=by rw [hw1]; exact LK @f5 @f6
 have c6:w1.cell? ⟨F,5+1,none⟩=some (.slice ba B.length bc):=by rw [hw1]; exact LK @f5 @f6
 have hinc1:cM d w1:=hinc.keep k1 fun b o hm=>by rw [hm.1]; exact h.oF o
 have hbF:∀ g,(Value.slice ba B.length bc).ownBlock=some g→g≠F:=fun g hg he=>by have:=(hbc g hg).1; rw [he] at this; omega
 refine yY (d:=d) ⟨c6,aX hb k1 fun g hg o hm=>hbF g hg hm.1,hbg⟩ c5 hinc1 (fun g hg=>⟨hbF g hg,(hbc g hg).2⟩) (by omega) fun w2 L o hp hs kk => ?_
 refine bA ?_
 have hLl:=hp.length_eq
 have k2:Keep (fun b o=>b=F∧(o=5∨o=6)∨(Value.slice ba B.length bc).ownBlock=some b) w w2:=(k1.mono fun _ _ _ h => .inl h).tr kk fun _ _ _ h => .inr h
 have hn5:(Value.slice ba B.length bc).ownBlock≠some F:=fun he=>hbF F he rfl
 have hC2:FrC c d w2 F O A vo out vf lf:=h.keep' k2 (fun b o hm=>by
  rcases hm with ⟨rfl,hm⟩ | hm
  ·exact .inl ⟨hF,hm⟩
  ·exact .inr (by have:=(hbc b hm).1; omega)) (by rw [kk.some c5 hn5]; rfl) (by rw [kk.some c6 hn5]; rfl)
 have hG2:Gk (fM c) d w d w2:=⟨k2.mono fun b o _ hm=>by
  unfold fM
  rcases hm with ⟨rfl,hm⟩ | hm
  ·exact .inl ⟨hF,by omega,by omega⟩
  ·exact .inr (.inr (.inr (.inr (hbc b hm).1))),cM.refl d,hinc1.keep kk fun b o hm=>(hbc b hm).2 o,fun _ _ h=>h⟩
 have hkn2:∀ r ∈ L,r.x.ks≠[]:=fun r hr=>hkn r (hp.mem_iff.1 hr)
 have hkt2:(cG (L.map SR.x)).length < 1000000:=by
  have:(cG (L.map SR.x)).Perm (cG (B.map SR.x)):=(hp.map SR.x).flatMap_right _
  rw [this.length_eq]; exact hkt
 have hblt:∀ g,(Value.slice ba B.length bc).ownBlock=some g→g < w.heap.size:=fun g hg=>(hb.lt _ hg).2
 refine bZ (fun s:Value × Nat=>[(0,.pointer (some ⟨F,0,none⟩)),(1,s.1),(2,.slice none 0 0)])
  (fun s w'=>∃ (d2:World) (c2:Nat→Nat) (vo2 vf2:Value) (lf2:List KR) (o1:List Sp) (R:List SR) (a:Option Addr) (cc off:Nat) (xs:List Value),s.1 = .slice a R.length cc∧s.2=R.length∧R.length≤cc∧cc≤9223372036854775807∧(R≠[]→∃ g,ba=some ⟨g,0,none⟩∧a=some ⟨g,off * 4,none⟩)∧off+R.length=B.length∧xs.length=off * 4 ∧
   w'.ownsRow 0 61 4 (.slice ba B.length bc) B.length (xs++kM R)∧(∀ r ∈ R,r.good d2)∧(∀ r ∈ R,r.x.ks≠[])∧(cG (R.map SR.x)).length < 1000000∧FrC c2 d2 w' F O A vo2 (out++o1) vf2 lf2∧o1.length+R.length≤B.length∧Gk (fM c) d w d2 w'∧(∀ b,b < w.heap.size→c2 b=c b)∧∀ o2,FlR (R.map SR.x) o2→FlR (L.map SR.x) (o1++o2))
  (fun s _=>s.2) (.slice ba B.length bc,B.length) (by kernel_rfl) ?_ ⟨d,c,vo,vf,lf,[],L,ba,bc,0,[],by rw [hLl],hLl.symm,by omega,hbl.2,fun hne => ?_,by omega,rfl,by have:=o.own; rw [hLl] at this; exact this,o.good,hkn2,hkt2,by rw [ao]; exact hC2,by simp; omega,hG2,fun _ _=>rfl,fun o2 h=>h⟩ ?_
 ·exact bU
 ·rcases cg o.own with ⟨_,h0,_⟩ | ⟨g,cap,e,_,_⟩
  ·exact absurd (ak.1 h0) hne
  ·have:ba=some ⟨g,0,none⟩:=by
     simp only [aU] at e
     exact e.1
   exact ⟨g,this,this⟩
 clear hC2 hG2 k2 hn5 hkn2 hkt2 o kk k1 c5 c6 hw1 hinc1
 rintro K2 e ⟨v1,m1⟩ w3 ⟨d2,c2,vo2,vf2,lf2,o1,R,a,cc,off,xs,rfl,rfl,q3,q3',q4,q5,q6,q7,q8,q9,q10,hC,q11,hG,hcc,hcont⟩ hK2
 simp only at hK2
 have f0:=hC.f0
 have fz:=hC.fz
 cases R with
 | nil =>
  have hz:¬ (0:Int) < (([]:List SR).length:Int):=by simp
  refine bu @hz ?_
  have hfin:=hcont [] FlR.nil
  rw [ao] at hfin
  refine hk d2 w3 c2 vo2 vf2 lf2 (L.map SR.x) o1 hC (hp.map _) ?_ hfin hG hcc ⟨_,q7⟩
  unfold qA
  rw [List.pairwise_map]
  exact hs.imp fun {a b} h=>of_decide_eq_false h
 | cons r0 R' =>
 obtain ⟨R,hR⟩:∃ R,R=r0 :: R':=⟨_,rfl⟩
 rw [← hR] at q3 q4 q5 q7 q8 q9 q10 q11 hcont hK2 ⊢
 have hRl:R.length=R'.length+1:=by rw [hR]; rfl
 have hz:(0:Int) < (R.length:Int):=by omega
 obtain ⟨g,rfl,rfl⟩:=q4 (by rw [hR]; simp)
 have cells:∀ (W:World),W.ownsRow 0 61 4 (.slice (some ⟨g,0,none⟩) B.length bc) B.length (xs++kM R)→∀ i r,R[i]? = some r→W.cell? ⟨g,off * 4+i * 4,none⟩=some r.sv∧W.cell? ⟨g,off * 4+i * 4+1,none⟩=some r.ev∧W.cell? ⟨g,off * 4+i * 4+2,none⟩=some r.kv:=fun W hW i r hr=>by
  obtain ⟨s0,s1,s2,_⟩:=sm hr
  have sh:∀ j u,(kM R)[j]? = some u→(xs++kM R)[off * 4+j]? = some u:=fun j u hu=>by
   rw [bC (by omega),q6,Nat.add_sub_cancel_left]; exact hu
  exact ⟨bW hW (sh _ _ s0),bW hW (sh _ _ s1),bW hW (sh _ _ s2)⟩
 have hr0:R[0]? = some r0:=by rw [hR]; rfl
 have g0:=q8 r0 (by rw [hR]; simp)
 obtain ⟨u0,u1,u2⟩:=cells w3 q7 0 r0 hr0
 simp only [Nat.zero_mul,Nat.add_zero] at u0 u1 u2
 obtain ⟨sa,sc,e1⟩:=aY g0.1
 obtain ⟨ea,ec,e2⟩:=aY g0.2.1
 obtain ⟨na,nc,e3⟩:=g0.2.2.2.2.form
 have c7:=hC.f7.hd
 obtain ⟨fa,fc,rfl,hfc⟩:=bP hC.f7.own
 rw [e2] at u1
 rw [e3] at u2
 refine hJ @hz @u1 @Int.toNat_zero @Nat.zero_mul @Nat.add_zero ?_
 refine bF (sq [0,1,2,3] (.read 4 (sq [5,6,7,8] (.read 9 (.eff 10 [] (sq [11,12] (.eff 13 [] .done))))))) ?_
 have z0:(0:Int).toNat=0:=rfl
 have zc:(0:Int)≤fc:=by omega
 obtain ⟨W,hW⟩:∃ W,W=w3.drew:=⟨_,rfl⟩
 have xW:bp w3 W:=by rw [hW]; exact bp.drew' (bp.refl _)
 have zW:W.heap.size=w3.heap.size:=by rw [hW,World.size_drew]
 have c7W:=xW.cell c7
 have u2W:=xW.cell u2
 rw [← hW]
 simp (disch:=first | exact dZ | fail) only [go_sem,c7W,u2W,pG Tryz.es143,z0,zc,Int.toNat_zero,Nat.zero_mul,Nat.add_zero]
 have hinc3:cM d2 w3:=hG.j
 have hk0:r0.x.ks.length < 1000000:=by
  have e:cG (R.map SR.x)=r0.x.ks++cG (R'.map SR.x):=by rw [hR]; unfold cG; rw [List.map_cons,ae]
  rw [e,aE] at q10; omega
 have g05:Sl KB 3 d2 (.slice na r0.x.ks.length nc) r0.x.ks:=by rw [← e3]; exact g0.2.2.2.2
 have nf:∀ v:Value,v.ownBlock=(Value.slice fa lf2.length fc).ownBlock→∀ g',v.ownBlock=some g'→c2 g'=4∧cj d2 g':=fun v hv g' hg'=>hC.c4 g' (by rw [← hv]; exact hg')
 have fb0:(Value.slice fa 0 fc).ownBlock=(Value.slice fa lf2.length fc).ownBlock:=cS fa 0 lf2.length fc
 refine wK (d:=d2) (acc:=[]) (aX (eQ hC.f7.own) xW fun _ _ _ h=>h) g05 (q9 r0 (by rw [hR]; simp)) (hinc3.trans xW.inc) (by simp; omega) fun v4 w4 ks4 o4 e4 gd4 kk4 nw4 => ?_
 rw [List.nil_append] at o4
 have cF2:=hC.cF
 have nF4:(Value.slice fa 0 fc).ownBlock≠some F:=fun h=>by have:=(nf _ fb0 F h).1; omega
 have f0W:=xW.cell f0
 have c7_4:=kk4.some c7W nF4
 have hFl3:=aC f0
 have fz4:∀ y,w4.frozen? ⟨F,y,none⟩=false:=fun y=>by rw [kk4.frozen F y (aC f0W),xW.frozen F y hFl3]; exact fz y
 obtain ⟨a4,cap4,rfl,hc4⟩:=bP o4
 refine dO @c7_4 @fz4 ?_
 obtain ⟨w5,hw5⟩:∃ w5,w5=w4.setCell ⟨F,7,none⟩ (.slice a4 ks4.length cap4):=⟨_,rfl⟩
 rw [← hw5]
 obtain ⟨M7,hM7⟩:∃ M7:Nat→Nat→Prop,M7=fun b o=>b=F∧o=7∨(Value.slice fa 0 fc).ownBlock=some b:=⟨_,rfl⟩
 have k35:Keep M7 w3 w5:=by
  rw [hw5,hM7]
  exact (xW.keep.tr kk4 fun b o _ hm => .inr hm).set fun _ => .inl ⟨rfl,rfl⟩
 have nw5:∀ g',(Value.slice a4 ks4.length cap4).ownBlock=some g'→(Value.slice fa 0 fc).ownBlock=some g'∨w3.heap.size≤g':=fun g' hg'=>by
  rcases nw4 g' hg' with h1 | h1
  ·exact .inl h1
  ·exact .inr (by omega)
 have nF5:∀ {v:Value},(∀ g',v.ownBlock=some g'→(Value.slice fa 0 fc).ownBlock=some g'∨w3.heap.size≤g')→∀ g',v.ownBlock=some g'→g'≠F:=fun hv g' hg' he=>by
  rcases hv g' hg' with h1 | h1
  ·exact nF4 (by rw [h1,he])
  ·omega
 have rk5:KOwn d2 w5 F 7 (.slice a4 ks4.length cap4) ks4:=⟨by rw [hw5,cJ,c7_4]; rfl,by
  rw [hw5]
  exact aX o4 (bY (M:=fun b o=>b=F∧o=7) ⟨rfl,rfl⟩) fun g' hg' o hm=>nF5 nw5 g' hg' hm.1,gd4⟩
 have hc2g:c2 g=5:=by
  rw [hcc g (hblt g rfl)]
  exact (hbc g rfl).1
 have mg:∀ o,¬ M7 g o:=fun o hm=>by
  rw [hM7] at hm
  rcases hm with ⟨h1,_⟩ | h1
  ·rw [h1] at hc2g; omega
  ·have:=(nf _ fb0 g h1).1; omega
 have m0:∀ o,o≠7→¬ M7 F o:=fun o ho hm=>by
  rw [hM7] at hm
  rcases hm with ⟨_,h1⟩ | h1
  ·exact ho h1
  ·exact nF4 h1
 have iM7:∀ {w'},Keep M7 w3 w'→cM d2 w':=fun k=>hinc3.keep k fun b o hm=>by
  rw [hM7] at hm
  rcases hm with ⟨rfl,_⟩ | h1
  ·exact hC.oF o
  ·exact (nf _ fb0 b h1).2 o
 have ks1:ks4.map KR.k=cG ((R.take 1).map SR.x):=by rw [e4,hR]; simp [cG]
 have ct1:1=((R.take 1).countP fun r=>decide (r.x.e=r0.x.e)):=by rw [hR]; simp
 refine bZ (fun s:Nat × Nat=>[(0,.pointer (some ⟨F,0,none⟩)),(1,.slice (some ⟨g,off * 4,none⟩) R.length cc),(2,.slice none 0 0),(6,.int .i64 s.2),(7,.slice ea r0.x.e.length ec),(8,.int .i64 s.1)])
  (fun s w'=>∃ v acc,KOwn d2 w' F 7 v acc∧acc.map KR.k=cG ((R.take s.1).map SR.x)∧(∀ g',v.ownBlock=some g'→(Value.slice fa 0 fc).ownBlock=some g'∨w3.heap.size≤g')∧Keep M7 w3 w'∧1≤s.1∧s.1≤R.length∧s.2=(R.take s.1).countP fun r=>decide (r.x.e=r0.x.e))
  (fun s _=>R.length - s.1) (1,1) (by kernel_rfl) ?_ ⟨_,ks4,rk5,ks1,nw5,k35,aF _,by simp only; omega,ct1⟩ ?_
 ·exact bU
 rintro K4 e4' ⟨i,rem⟩ w6 ⟨v6',acc,p1,p2,p3,p4,p5,p6,p7⟩ hK4
 simp only at p2 p5 p6 p7 hK4
 have f0_6:=p4.some f0 (m0 0 (by omega))
 have hrem:rem≤R.length:=by rw [p7]; exact ah List.countP_le_length (by rw [bE]; omega)
 have fz6:∀ y,w6.frozen? ⟨F,y,none⟩=false:=fun y=>by rw [p4.frozen F y hFl3]; exact fz y
 have row6:=aX q7 p4 fun g' hg' o=>by
  obtain rfl:g=g':=by simpa [Value.ownBlock] using hg'
  exact mg o
 have hinc6:=iM7 p4
 have hlk:acc.length≤(cG (R.map SR.x)).length:=by
  have h1:=congrArg List.length p2
  rw [aR] at h1
  rw [h1]
  have h2:cG (R.map SR.x)=cG ((R.take i).map SR.x)++cG ((R.drop i).map SR.x):=by
   unfold cG
   rw [← ay,← az,cT]
  rw [h2,aE]; omega
 obtain ⟨a6,cap6,rfl,hc6⟩:=bP p1.own
 have c7_6:=p1.hd
 by_cases hi:i < R.length
 ·have hi':(i:Int) < R.length:=by omega
  obtain ⟨r,hr⟩:=gEl hi
  have hrm:=aO hr
  have gr:=q8 r hrm
  obtain ⟨_,b1,b2⟩:=cells w6 row6 i r hr
  obtain ⟨eb,fb,e5⟩:=aY gr.2.1
  obtain ⟨nb,mb,e6⟩:=gr.2.2.2.2.form
  rw [e5] at b1
  rw [e6] at b2
  have t1:(R.take (i+1)).map SR.x=(R.take i).map SR.x++[r.x]:=by rw [bz hr,az]; rfl
  have tk:cG ((R.take (i+1)).map SR.x)=cG ((R.take i).map SR.x)++r.x.ks:=by rw [t1]; unfold cG; rw [ay]; simp
  have tc:((R.take (i+1)).countP fun r=>decide (r.x.e=r0.x.e))=rem+if r.x.e=r0.x.e then 1 else 0:=by
   rw [bz hr,List.countP_append,← p7]
   by_cases he:r.x.e=r0.x.e <;> simp [he]
  have hlr:acc.length+r.x.ks.length < 100000000:=by
   have h2:cG (R.map SR.x)=cG ((R.take (i+1)).map SR.x)++cG ((R.drop (i+1)).map SR.x):=by
    unfold cG
    rw [← ay,← az,cT]
   have h1:=congrArg List.length p2
   rw [aR] at h1
   rw [h2,tk,aE,aE] at q10
   omega
  refine bu @hi' ?_
  refine bF (sq [0,1,2] (.read 3 (sq [4,5,6,7,8] (.read 9 (.eff 10 [] (sq [11] .done)))))) ?_
  obtain ⟨W6,hW6⟩:∃ W6,W6=w6.drew:=⟨_,rfl⟩
  have xW6:bp w6 W6:=by rw [hW6]; exact bp.drew' (bp.refl _)
  rw [← hW6]
  have f0_7:=xW6.cell f0_6
  have b1':=xW6.cell b1
  have b2':=xW6.cell b2
  have c7_7:=xW6.cell c7_6
  have fz7:∀ y,W6.frozen? ⟨F,y,none⟩=false:=fun y=>by rw [hW6]; exact fz6 y
  have hinc7:=hinc6.trans xW6.inc
  have be0:=g0.2.1.inc hinc7
  have ber:=gr.2.1.inc hinc7
  rw [e2] at be0
  rw [e5] at ber
  refine dQ @f0_7 @b1' @hi' ?_
  refine dG be0 ber ?_
  by_cases he:r.x.e=r0.x.e
  ·have ce:(eH r0.x.e r.x.e == 0)=true:=by rw [beq_iff_eq,gB]; exact he.symm
   refine bu @ce ?_
   refine bF (sq [0,1,2,3] (.read 4 (sq [5,6,7,8] (.read 9 (.eff 10 [] (sq [11,12] (.eff 13 [] .done))))))) ?_
   obtain ⟨W8,hW8⟩:∃ W8,W8=W6.drew:=⟨_,rfl⟩
   have xW8:bp W6 W8:=by rw [hW8]; exact bp.drew' (bp.refl _)
   rw [← hW8]
   have b2'':=xW8.cell b2'
   have c7_8:=xW8.cell c7_7
   have x68:=xW6.trans xW8
   refine dQ @c7_8 @b2'' @hi' ?_
   refine wK (d:=d2) (aX p1.own x68 fun _ _ _ h=>h) (by rw [← e6]; exact gr.2.2.2.2) (q9 r hrm) (hinc6.trans x68.inc) hlr fun v9 w9 ks9 o9 e9 gd9 kk9 nw9 => ?_
   have n9:(Value.slice a6 acc.length cap6).ownBlock≠some F:=fun h=>nF5 p3 F h rfl
   have c7_9:=kk9.some c7_8 n9
   have fz9:∀ y,w9.frozen? ⟨F,y,none⟩=false:=fun y=>by rw [kk9.frozen F y (aC c7_8),x68.frozen F y (aC f0_6)]; exact fz6 y
   obtain ⟨a9,cap9,rfl,hc9⟩:=bP o9
   refine dO @c7_9 @fz9 ?_
   have nw9':∀ g',(Value.slice a9 (acc++ks9).length cap9).ownBlock=some g'→(Value.slice fa 0 fc).ownBlock=some g'∨w3.heap.size≤g':=fun g' hg'=>by
    rcases nw9 g' hg' with h1 | h1
    ·exact p3 g' h1
    ·exact .inr (ah p4.size (ah x68.size h1))
   refine hK4 _ _ (i+1,rem+1) ?_ ⟨_,acc++ks9,⟨by rw [cJ,c7_9]; rfl,aX o9 (bY (M:=fun b o=>b=F∧o=7) ⟨rfl,rfl⟩) fun g' hg' o hm=>nF5 nw9' g' hg' hm.1,fun z hz => ?_⟩,by rw [az,p2,e9,tk],nw9',?_,by simp only; omega,hi,by simp only; rw [tc,if_pos he]⟩ (by simp only; omega)
   ·exact bU
   ·rcases aS.1 hz with hz | hz
    ·exact p1.good z hz
    ·exact gd9 z hz
   ·refine ((p4.tr x68.keep fun b o _ hm=>hm).tr kk9 fun b o hb hm => ?_).set fun _=>by rw [hM7]; exact .inl ⟨rfl,rfl⟩
    rw [hM7]
    rcases p3 b hm with h1 | h1
    ·exact .inr h1
    ·omega
  ·have ce:(eH r0.x.e r.x.e == 0)=false:=by rw [beq_eq_false_iff_ne,ne_eq,gB]; exact fun h=>he h.symm
   refine bu @ce ?_
   refine bF (sq [0,1,2,3] (.read 4 (sq [5,6,7,8] (.read 9 (.eff 10 [] (sq [11,12] (.eff 13 [] .done))))))) ?_
   obtain ⟨W8,hW8⟩:∃ W8,W8=W6.drew:=⟨_,rfl⟩
   have xW8:bp W6 W8:=by rw [hW8]; exact bp.drew' (bp.refl _)
   rw [← hW8]
   have b2'':=xW8.cell b2'
   have c7_8:=xW8.cell c7_7
   have x68:=xW6.trans xW8
   refine dQ @c7_8 @b2'' @hi' ?_
   refine wK (d:=d2) (aX p1.own x68 fun _ _ _ h=>h) (by rw [← e6]; exact gr.2.2.2.2) (q9 r hrm) (hinc6.trans x68.inc) hlr fun v9 w9 ks9 o9 e9 gd9 kk9 nw9 => ?_
   have n9:(Value.slice a6 acc.length cap6).ownBlock≠some F:=fun h=>nF5 p3 F h rfl
   have c7_9:=kk9.some c7_8 n9
   have fz9:∀ y,w9.frozen? ⟨F,y,none⟩=false:=fun y=>by rw [kk9.frozen F y (aC c7_8),x68.frozen F y (aC f0_6)]; exact fz6 y
   obtain ⟨a9,cap9,rfl,hc9⟩:=bP o9
   refine dO @c7_9 @fz9 ?_
   have nw9':∀ g',(Value.slice a9 (acc++ks9).length cap9).ownBlock=some g'→(Value.slice fa 0 fc).ownBlock=some g'∨w3.heap.size≤g':=fun g' hg'=>by
    rcases nw9 g' hg' with h1 | h1
    ·exact p3 g' h1
    ·exact .inr (ah p4.size (ah x68.size h1))
   refine hK4 _ _ (i+1,rem) ?_ ⟨_,acc++ks9,⟨by rw [cJ,c7_9]; rfl,aX o9 (bY (M:=fun b o=>b=F∧o=7) ⟨rfl,rfl⟩) fun g' hg' o hm=>nF5 nw9' g' hg' hm.1,fun z hz => ?_⟩,by rw [az,p2,e9,tk],nw9',?_,by simp only; omega,hi,by simp only; rw [tc,if_neg he,Nat.add_zero]⟩ (by simp only; omega)
   ·exact bU
   ·rcases aS.1 hz with hz | hz
    ·exact p1.good z hz
    ·exact gd9 z hz
   ·refine ((p4.tr x68.keep fun b o _ hm=>hm).tr kk9 fun b o hb hm => ?_).set fun _=>by rw [hM7]; exact .inl ⟨rfl,rfl⟩
    rw [hM7]
    rcases p3 b hm with h1 | h1
    ·exact .inr h1
    ·omega
 have hi':¬ (i:Int) < R.length:=by omega
 obtain rfl:i=R.length:=by omega
 rw [ag] at p2 p7
 refine bu @hi' ?_
 refine BQ (d:=d2) (Hb:=F) (ho:=7) p1 hinc6 (fun g' hg'=>⟨nF5 p3 g' hg',?_⟩) (by have h1:=congrArg List.length p2; rw [aR] at h1; omega) fun w7 l7 rk7 hp7 hs7 kk7 => ?_
 ·rcases p3 g' hg' with h1 | h1
  ·exact (nf _ fb0 g' h1).2
  ·exact hinc3.out h1
 have k37:Keep M7 w3 w7:=p4.tr kk7 fun b o hb hm=>by
  rw [hM7]
  rcases p3 b hm with h1 | h1
  ·exact .inr h1
  ·omega
 have hinc7:=iM7 k37
 have hlen7:l7.length=acc.length:=hp7.length_eq
 have ds7:yN (l7.map KR.k):=by unfold yN; rw [List.pairwise_map]; exact hs7
 have ks7:(l7.map KR.k).Perm (cG (R.map SR.x)):=by rw [← p2]; exact hp7.map _
 have row7:=aX q7 k37 fun g' hg' o=>by
  obtain rfl:g=g':=by simpa [Value.ownBlock] using hg'
  exact mg o
 obtain ⟨u0',_,_⟩:=cells w7 row7 0 r0 hr0
 simp only [Nat.zero_mul,Nat.add_zero] at u0'
 rw [e1] at u0'
 have f2_7:=k37.some hC.f2 (m0 2 (by omega))
 have own7:=rk7.own
 have c7_w7:=rk7.hd
 have e67:(.slice a6 acc.length cap6:Value) = .slice a6 l7.length cap6:=by rw [hlen7]
 rw [e67] at own7 c7_w7 rk7
 refine bA ?_
 refine bF (sq [0,1,2] (.read 3 (sq [4,5,6] (.read 7 (sq [8,9,10,11] (.read 12 (.eff 13 [3,7] (sq [14] (.eff 15 [] .done))))))))) ?_
 obtain ⟨W7,hW7⟩:∃ W7,W7=w7.drew:=⟨_,rfl⟩
 have xW7:bp w7 W7:=by rw [hW7]; exact bp.drew' (bp.refl _)
 rw [← hW7]
 have f2_8:=xW7.cell f2_7
 have u0_8:=xW7.cell u0'
 have c7_8:=xW7.cell c7_w7
 have own8:=aX own7 xW7 fun _ _ _ h=>h
 refine vJ @f2_8 @u0_8 @c7_8 @hz @Int.toNat_zero @Nat.zero_mul @Nat.add_zero ?_
 have hsz7:=k37.size
 have i73:∀ b,b < w3.heap.size→b < w7.heap.size:=fun b hb=>aL hb hsz7
 obtain ⟨c7,hC7,hc7⟩:=hC.keys (v := .slice a6 l7.length cap6) k37 (fun b o hm=>by
  rw [hM7] at hm
  rcases hm with ⟨rfl,rfl⟩ | h1
  ·exact .inl ⟨hC.cF,rfl⟩
  ·exact .inr (.inl (nf _ fb0 b h1).1)) rk7 (fun g' hg'=>by
  rcases p3 g' (by rw [cS a6 acc.length l7.length cap6]; exact hg') with h1 | h1
  ·exact .inl (by rw [← fb0]; exact h1)
  ·exact .inr h1) hinc3
 have hinc8:=hinc7.trans xW7.inc
 refine Ey own8 rk7.good hinc8 (by have h1:=congrArg List.length p2; rw [aR] at h1; omega) fun v9 w9 sk9 x9 => ?_
 have x79:=xW7.trans x9
 have f2_9:=x9.cell f2_8
 have u0_9:=x9.cell u0_8
 have hC9:=hC7.keep x79 (fun _ _ h=>h.elim)
 have hinc9:=hinc8.trans x9.inc
 obtain ⟨n9,m9,rfl⟩:=sk9.form
 have hol9:(out++o1).length < 100000:=by rw [aE]; omega
 refine dO @f2_9 @u0_9 ?_
 have voc:=hC9.c3
 refine Ew (x:=⟨r0.x.s,r0.x.e,l7.map KR.k⟩) hC9.em hinc9 hC9.oO (by rw [← e1]; exact g0.1.inc hinc9) (by rw [← e2]; exact g0.2.1.inc hinc9) sk9 (by have h1:=congrArg List.length p2; rw [aR] at h1; show (l7.map KR.k).length < 1000000; rw [aR]; omega) hol9
  (fun h=>by have:=voc _ h; have:=hC9.cO; omega) (fun h=>by have:=voc _ h; have:=hC9.cA; omega) (fun h=>by have:=hC9.cO; have:=hC9.cA; rw [h] at this; omega) fun d10 w10 vo10 em10 G10 nw10 => ?_
 refine bA ?_
 simp (disch:=first | exact dZ | fail) only [go_sem,Option.isSome_none]
 have hrem1:1≤rem:=by rw [p7,hR]; simp
 have hrc:rem≤cc:=by omega
 obtain ⟨aN,haN⟩:∃ aN:Option Addr,aN=if bd (none:Option Value) (cc:Int)=(rem:Int) then some ⟨g,off * 4,none⟩ else (some ⟨g,off * 4,none⟩:Option Addr).map (·.add ((rem:Int).toNat * 4)):=⟨_,rfl⟩
 have hsl:∀ q,cz prog 140 (.slice (some ⟨g,off * 4,none⟩) R.length cc) (some (.int .i64 (rem:Int))) none none q=q (.slice aN (R.length - rem) (cc - rem)):=fun q=>by
  rw [eW Tryz.es140 rfl rfl (by omega) (by simp [bd]; omega) (by simp [bd]; omega) (by simp [bd]) (by simp)]
  rw [haN]
  rfl
 have hRrem:(R.length:Int) - rem=((R.length - rem:Nat):Int):=by omega
 refine bu @hsl ?_
 obtain ⟨c10,hC10,hc10⟩:=hC9.emit G10 em10 nw10
 have hinc10:=G10.j
 have hc7g:c7 g=5:=by rw [hc7 g (by have:=hblt g rfl; have:=hG.k.size; omega)]; exact hc2g
 have row10:=aX (aX row7 x79 fun _ _ _ h=>h) G10.k fun g' hg' o hm=>by
  obtain rfl:g=g':=by simpa [Value.ownBlock] using hg'
  rcases hm with ⟨h1,_⟩ | h1
  ·have:=hC9.cO; rw [← h1] at this; omega
  ·have:=voc _ h1; omega
 have hgw10:g < w10.heap.size:=by
  have:=hblt g rfl; have:=hG.k.size; have:=x79.size; have:=G10.k.size; omega
 have hc10g:c10 g=5:=by rw [hc10 g (by have:=hblt g rfl; have:=hG.k.size; have:=x79.size; omega)]; exact hc7g
 obtain ⟨D,hD⟩:∃ D,D=R.drop rem:=⟨_,rfl⟩
 obtain ⟨up,hup⟩:∃ up:SR→SR,up=fun r=>⟨⟨r0.x.e,r.x.e,r.x.ks⟩,.slice ea r0.x.e.length ec,r.ev,r.kv⟩:=⟨_,rfl⟩
 have hDl:D.length=R.length - rem:=by rw [hD,List.length_drop]
 obtain ⟨pr,hpr⟩:∃ pr,pr=xs++kM (R.take rem):=⟨_,rfl⟩
 have hprl:pr.length=(off+rem) * 4:=by rw [hpr,aE,sj,bE,q6,Nat.min_eq_left hrem]; omega
 have hrow:xs++kM R=pr++kM ((D.map up).take 0++D.drop 0):=by
  rw [hpr,hD,ax,List.take_zero,List.drop_zero,List.nil_append,← si,cT]
 rw [hrow] at row10
 have haN':0 < R.length - rem→aN=some ⟨g,(off+rem) * 4,none⟩:=fun hlt=>by
  have hne:¬ bd (none:Option Value) (cc:Int)=(rem:Int):=by
   show ¬ (cc:Int)=(rem:Int)
   omega
  rw [haN,if_neg hne]
  simp only [Option.map_some,cH,Addr.add]
  rw [show off * 4+rem * 4=(off+rem) * 4 by omega]
  rw [if_neg (by omega)]
 refine bZ (fun i:Nat=>[(0,.pointer (some ⟨F,0,none⟩)),(1,.slice aN (R.length - rem) (cc - rem)),(2,.slice none 0 0),(7,.slice ea r0.x.e.length ec),(121,.int .i64 (R.length - rem:Nat)),(122,.int .i64 i)])
  (fun i w'=>i≤R.length - rem∧w'.ownsRow 0 61 4 (.slice (some ⟨g,0,none⟩) B.length bc) B.length (pr++kM ((D.map up).take i++D.drop i))∧Keep (fun b _=>b=g) w10 w') (fun i _=>R.length - rem - i) 0 (by kernel_rfl) ?_ ⟨aT _,row10,Keep.refl _ w10⟩ ?_
 ·exact bU
 rintro K5 e5 i w11 ⟨s1,s2,s3⟩ hK5
 rcases aH i (R.length - rem) with hi2 | hi2
 ·have hi2':(i:Int) < (R.length - rem:Nat):=by omega
  have hA:=haN' (by omega)
  rw [hA]
  obtain ⟨r,hr⟩:∃ r,D[i]? = some r:=⟨_,aD (by omega)⟩
  have hQl:((D.map up).take i).length=i:=by rw [bE,aR]; omega
  have hQ:((D.map up).take i++D.drop i)[i]? = some r:=by
   rw [bC (by omega),hQl,Nat.sub_self,List.getElem?_drop,Nat.add_zero]
   exact hr
  obtain ⟨z1,_,_,_⟩:=sm hQ
  have zc1:w11.cell? ⟨g,(off+rem) * 4+i * 4,none⟩=some r.sv:=bW s2 (by rw [bC (by omega),hprl,Nat.add_sub_cancel_left]; exact z1)
  have fg:∀ o,w11.frozen? ⟨g,o,none⟩=false:=fun o=>cl s2 rfl o
  obtain ⟨ra,rn,er⟩:=aY (q8 r (by rw [hD] at hr; exact List.mem_of_mem_drop (aO hr))).1
  rw [er] at zc1
  refine dQ @hi2' @zc1 @fg ?_
  refine hK5 _ _ (i+1) ?_ ⟨hi2,?_,s3.set fun _=>rfl⟩ (by omega)
  ·rw [hA]
   exact bU
  ·have:=cR s2 ((off+rem) * 4+i * 4) (.slice ea r0.x.e.length ec)
   rw [List.set_append_right _ _ (by omega),hprl,Nat.add_sub_cancel_left,Ex hQ ⟨r0.x.e,r.x.e,r.x.ks⟩,GK (by rw [bw,hr,hup]; rfl) hr] at this
   exact this
 have hi2':¬ (i:Int) < (R.length - rem:Nat):=by omega
 obtain rfl:i=R.length - rem:=by omega
 rw [dq (by rw [aR]; omega),List.drop_eq_nil_of_le (by omega),ao] at s2
 refine bu @hi2' ?_
 obtain ⟨R2,hR2⟩:∃ R2,R2=D.map up:=⟨_,rfl⟩
 have hR2l:R2.length=R.length - rem:=by rw [hR2,aR,hDl]
 rw [← hR2] at s2
 have hC11:=hC10.keep s3 fun b o hm=>by rw [hm]; omega
 have hinc11:cM d10 w11:=hinc10.keep s3 fun b o hm=>by
  rw [hm]
  exact G10.o g (by have:=hblt g rfl; have:=hG.k.size; have:=x79.size; omega) (hG.o g (hblt g rfl) (hbc g rfl).2) o
 have hx10:R2.map SR.x=sU r0.x (R.map SR.x):=by
  unfold sU
  rw [List.countP_map,← List.map_drop,hR2,hD,cv,cv,hup,p7]
  rfl
 have hzw:=hG.k.size
 have hz79:=x79.size
 have hRm:∀ z ∈ D,z ∈ R:=fun z hz=>by rw [hD] at hz; exact List.mem_of_mem_drop hz
 have hM79:∀ b o,b < w.heap.size→M7 b o→fM c b o:=fun b o hb hm=>by
  unfold fM
  rw [hM7] at hm
  rcases hm with ⟨rfl,rfl⟩ | h1
  ·exact .inl ⟨hF,by omega,by omega⟩
  ·have:=(nf _ fb0 b h1).1
   rw [hcc b hb] at this
   exact .inr (.inr (.inr (.inl this)))
 have hMe:∀ b o,b < w.heap.size→(b=O∧o=0∨vo2.ownBlock=some b)→fM c b o:=fun b o hb hm=>by
  unfold fM
  rcases hm with ⟨rfl,rfl⟩ | h1
  ·exact .inr (.inl ⟨h.cO,rfl⟩)
  ·have:=voc b h1
   rw [hc7 b (by omega),hcc b hb] at this
   exact .inr (.inr (.inl this))
 have G1:Gk (fM c) d w d2 w9:=hG.trans (M2:=M7) ⟨k37.tr x79.keep fun _ _ _ hm=>hm,cM.refl d2,hinc9,fun _ _ h=>h⟩ (fun _ _ _ h=>h) hM79
 have G2:Gk (fM c) d w d10 w10:=G1.trans G10 (fun _ _ _ h=>h) hMe
 have G3:Gk (fM c) d w d10 w11:=G2.trans (M2:=fun b _=>b=g) ⟨s3,cM.refl d10,hinc11,fun _ _ h=>h⟩ (fun _ _ _ h=>h) fun b o hb hm=>by
  rw [hm]
  exact .inr (.inr (.inr (.inr (hbc g rfl).1)))
 refine hK2 _ _ (.slice aN (R.length - rem) (cc - rem),R.length - rem) ?_ ⟨d10,c10,vo10,.slice a6 l7.length cap6,l7,o1++[⟨r0.x.s,r0.x.e,l7.map KR.k⟩],R2,aN,cc - rem,off+rem,pr,by rw [hR2l],hR2l.symm,by omega,by omega,fun hne=>⟨g,rfl,haN' ?_⟩,by omega,hprl,s2,fun r hr => ?_,fun r hr => ?_,?_,by rw [← ax]; exact hC11,?_,G3,fun b hb => ?_,fun o2 ho => ?_⟩ (by simp only; omega)
 ·exact bU
 ·have:R2.length≠0:=fun h0=>hne (ak.1 h0)
  omega
 ·rw [hR2,hup] at hr
  obtain ⟨z,hz,rfl⟩:=bj.1 hr
  have gz:=(q8 z (hRm z hz)).inc G10.i
  exact ⟨by rw [← e2]; exact g0.2.1.inc G10.i,gz.2.1,by rw [← e2]; exact g0.2.2.2.1,gz.2.2.2.1,gz.2.2.2.2⟩
 ·rw [hR2,hup] at hr
  obtain ⟨z,hz,rfl⟩:=bj.1 hr
  exact q9 z (hRm z hz)
 ·have h1:cG (R2.map SR.x)=cG (D.map SR.x):=by
    unfold cG
    rw [hR2,hup,cv,List.flatMap_map,List.flatMap_map]
    rfl
  have h2:cG (R.map SR.x)=cG ((R.take rem).map SR.x)++cG (D.map SR.x):=by
   unfold cG
   rw [← ay,← az,hD,cT]
  rw [h2,aE] at q10
  rw [h1]; omega
 ·rw [aE,ar]; omega
 ·rw [hc10 b (by omega),hc7 b (by omega)]
  exact hcc b hb
 ·rw [ax,List.singleton_append]
  refine hcont _ ?_
  rw [hx10] at ho
  rw [hR,List.map_cons] at ho ks7 ⊢
  exact FlR.cons rfl rfl ks7 ds7 ho
end
end Go.Proofs
end
section
namespace Go.E
open Go Go.Sort Go.Proofs Go.Proofs.Tryz
theorem su {d:World} {x:SR} (h:x.good d):∀ u ∈ x.cells,u.oneCell'=true:=by
 obtain ⟨a1,n1,e1⟩:=aY h.1
 obtain ⟨a2,n2,e2⟩:=aY h.2.1
 obtain ⟨a3,n3,e3⟩:=h.2.2.2.2.form
 intro u hu
 unfold SR.cells at hu
 rw [e1,e2,e3] at hu
 simp at hu
 rcases hu with rfl | rfl | rfl | rfl <;> rfl
end Go.E
namespace Go.Proofs
open Go Go.E Go.Sort Go.Proofs.Tryz
section
variable {k:aq} {d w:World}
theorem yZ {q:aq} {v:Value} {l:List SR} {x:SR} (o:w.ownsRow 0 61 4 v l.length (kM l)) (hg:x.good d) (hb:l.length < 1000000)
    (hk:∀ v2 w2,w2.ownsRow 0 61 4 v2 (l++[x]).length (kM (l++[x]))→Keep (fun b _=>v.ownBlock=some b) w w2→cZ w v v2→q v2 w2) :
    me prog #[140,140] 140 #[v,.slice (some ⟨w.heap.size,0,none⟩) 1 1] q (w.alloc (.cells x.cells.toArray 61)):=by
 have k4:=aJ (w:=w) (.cells x.cells.toArray 61)
 have c4:∀ o,(w.alloc (.cells x.cells.toArray 61)).cell? ⟨w.heap.size,o,none⟩=x.cells.toArray[o]? := fun o=>aA (aF _) (Nat.lt_succ_self _)
 simp only [me]
 refine pO (m:=1) (news:=x.cells) rw140 (aX o k4 fun _ _ _ h=>h) rfl ⟨rfl,fun j u hj => ?_⟩ (su hg) (by omega) fun v5 w5 o5 k5 n5 _ => ?_
 ·rw [dS rfl,Nat.zero_add,c4]
  simpa using hj
 ·refine hk v5 w5 (by rw [aE,ar,si]; simpa [kM] using o5) (k4.keep.trans (k5 _ fun b o hb _=>hb)) fun g hg => ?_
  rcases n5 with h | ⟨g2,h,h',_⟩
  ·exact .inl (by rw [← h]; exact hg)
  ·rw [h] at hg
   simp only [aP] at hg
   subst hg
   have:=k4.size
   exact .inr (by omega)
theorem GM {q:aq} {g n cap j:Nat} {l:List SR} {x:SR} (o:w.ownsRow 0 61 4 (.slice (some ⟨g,0,none⟩) n cap) n (kM l)) (hl:l.length=n) (hj:j < n) (hcap:n≤cap) (hg:x.good d)
    (hk:∀ w2,w2.ownsRow 0 61 4 (.slice (some ⟨g,0,none⟩) n cap) n (kM (l.set j x))→Keep (fun b _=>b=g) w w2→q (.slice (some ⟨g,0,none⟩) (j+1) cap) w2) :
    me prog #[140,140] 140 #[.slice (some ⟨g,0,none⟩) j cap,.slice (some ⟨w.heap.size,0,none⟩) 1 1] q (w.alloc (.cells x.cells.toArray 61)):=by
 obtain ⟨w5,hw5⟩:∃ w5,w5=w.alloc (.cells x.cells.toArray 61):=⟨_,rfl⟩
 rw [← hw5]
 have k5:bp w w5:=by rw [hw5]; exact aJ _
 have o5:=aX o k5 fun _ _ _ h=>h
 obtain ⟨w6,hw6⟩:∃ w6,w6=(((w5.setCell ⟨g,j * 4,none⟩ x.sv).setCell ⟨g,j * 4+1,none⟩ x.ev).setCell ⟨g,j * 4+2,none⟩ x.kv).setCell ⟨g,j * 4+3,none⟩ (.int .i8 0):=⟨_,rfl⟩
 have hw:w5.setCells g (j * 4) x.cells=w6:=by rw [hw6]; rfl
 have hsl:=sj l
 have:=qz (k:=q) (w:=w5) (by_:=80) (ty:=140) (news:=x.cells) (m:=1) (c:=1) (cap:=cap) (b:=g) (off:=0) (n:=j) (a:=⟨w.heap.size,0,none⟩) rw140 rfl ?_ (su hg) (by omega) ?_ ?_
 ·rw [Nat.zero_add,hw] at this
  rw [this]
  refine hk w6 ?_ ?_
  ·rw [hw6]
   have:=cR (cR (cR (cR o5 (j * 4) x.sv) (j * 4+1) x.ev) (j * 4+2) x.kv) (j * 4+3) (.int .i8 0)
   rw [wJ l j x (by omega)] at this
   exact this
  ·rw [hw6]
   have kk:Keep (fun b _=>b=g) w w5:=k5.keep
   exact (((kk.set fun _=>rfl).set fun _=>rfl).set fun _=>rfl).set fun _=>rfl
 ·intro i u hu
  rw [dS rfl,Nat.zero_add,hw5]
  refine bu @aA ?_
  simpa using hu
 ·intro i hi
  have hi:i < 4:=hi
  have:(kM l)[j * 4+i]? = some (kM l)[j * 4+i]:=aD (by omega)
  rw [Nat.zero_add]
  exact ⟨_,bW o5 this⟩
 ·intro i
  exact cl o5 rfl i
theorem Ez {q:aq} {a:Option Addr} {n c:Nat} {xs:List Value} {kv:Value} {key:Bytes} (o:w.ownsRow 0 5 1 (.slice a n c) n xs) (hkv:dR w kv key) (hl:key.length < 10000000000)
    (hk:∀ v2 w2,w2.ownsRow 0 5 1 v2 key.length (eF key)→Keep (fun b _=>(Value.slice a n c).ownBlock=some b) w w2→cZ w (.slice a n c) v2→q v2 w2) :
    me prog #[56,56] 56 #[.slice a 0 c,kv] q w:=by
 have hlies:rW w kv key.length (eF key):=by
  unfold dR at hkv
  split at hkv
  ·obtain ⟨rfl,rfl⟩:=hkv
   exact ⟨rfl,rfl,rfl⟩
  ·rename_i b m cc
   obtain ⟨h1,h2,h3⟩:=hkv
   refine ⟨h2,fun j u hj => ?_⟩
   have:=h3 j u hj
   obtain ⟨bb,bo,bs⟩:=b
   simp only at h1
   subst h1
   rw [dS rfl]
   exact this
  ·exact hkv.elim
 have h1:∀ u ∈ eF key,u.oneCell'=true:=fun u hu=>by
  unfold eF at hu
  obtain ⟨y,_,rfl⟩:=bj.1 hu
  rfl
 simp only [me]
 refine pO (n:=0) (xs:=[]) (m:=key.length) (news:=eF key) rw56 (eQ o) (by rw [cP,Nat.mul_one]) hlies h1 (by omega) fun v2 w2 o2 k2 n2 _ => ?_
 rw [Nat.zero_add,List.nil_append] at o2
 have e:(Value.slice a 0 c).ownBlock=(Value.slice a n c).ownBlock:=cS a 0 n c
 refine hk v2 w2 o2 (k2 _ fun b o hb _=>by rw [← e]; exact hb) fun g hg => ?_
 rcases n2 with h | ⟨g2,h,h',_⟩
 ·exact .inl (by rw [← e,← h]; exact hg)
 ·rw [h] at hg
  simp only [aP] at hg
  subst hg
  exact .inr h'
theorem jS {v:Value} {key:Bytes} (o:w.ownsRow 0 5 1 v key.length (eF key)):dR w v key:=by
 rcases cg o with ⟨rfl,h0,_⟩ | ⟨g,cap,rfl,_,_⟩
 ·exact ⟨rfl,ak.1 h0⟩
 ·refine ⟨rfl,rfl,fun i u hu => ?_⟩
  rw [Nat.zero_add]
  exact bW o hu
end
end Go.Proofs
end
section
namespace Go.E
open Go Go.Sort Go.Proofs
section
variable {c:Nat→Nat} {d w w2:World} {F O A:Nat} {vo vf:Value} {out:List Sp} {lf:List KR}
theorem FrC.keep3 (h:FrC c d w F O A vo out vf lf) {M:Nat→Nat→Prop} (k:Keep M w w2) (h0:∀ b o,M b o→c b=0∧(o=3∨o=4∨8≤o)∨5≤c b):FrC c d w2 F O A vo out vf lf:=by
 have hF:=h.cF
 have hO:=h.cO
 have hA:=h.cA
 have n:∀ {b o},c b < 5→(c b=0→o≠3∧o≠4∧o < 8)→¬ M b o:=fun {b o} hb hn hm=>by have:=h0 b o hm; omega
 have i5:∀ {o},o=5∨o=6→(w.cell? ⟨F,o,none⟩).isSome=true→(w2.cell? ⟨F,o,none⟩).isSome=true:=fun ho hi=>by
  obtain ⟨u,hu⟩:=b7.1 hi
  rw [k.some hu (n (by omega) fun _=>by omega)]; rfl
 exact ⟨h.em.keep k (n (by omega) (by omega)) (n (by omega) (by omega)) (fun g hg o=>n (by rw [h.c3 g hg]; omega) (by rw [h.c3 g hg]; omega)),k.some h.f0 (n (by omega) (by omega)),k.some h.f2 (n (by omega) (by omega)),i5 (by omega) h.f5,i5 (by omega) h.f6,⟨k.some h.f7.hd (n (by omega) (by omega)),aX h.f7.own k (fun g hg o=>n (by rw [(h.c4 g hg).1]; omega) (by rw [(h.c4 g hg).1]; omega)),h.f7.good⟩,fun y=>by rw [k.frozen F y (aC h.f0)]; exact h.fz y,h.oF,h.oO,hF,hO,hA,h.c3,h.c4⟩
theorem FrC.color (h:FrC c d w F O A vo out vf lf) {c2:Nat→Nat} (hc:∀ b,b < w.heap.size→c2 b=c b):FrC c2 d w F O A vo out vf lf:=by
 obtain ⟨css,oo⟩:=h.em.oo
 exact ⟨h.em,h.f0,h.f2,h.f5,h.f6,h.f7,h.fz,h.oF,h.oO,by rw [hc F (aC h.f0)]; exact h.cF,by rw [hc O (aC h.em.cO)]; exact h.cO,by rw [hc A (aC h.em.cA)]; exact h.cA,
  fun g hg=>by rw [hc g (oo.own.lt _ hg).2]; exact h.c3 g hg,fun g hg=>by rw [hc g (h.f7.own.lt _ hg).2]; exact h.c4 g hg⟩
end
structure FrS (c:Nat→Nat) (d w:World) (F O A:Nat) (vo:Value) (out:List Sp) (vf:Value) (lf:List KR) (vp:Value) (P:List SR) (vd vk:Value) (q:Bytes):Prop where
 core:FrC c d w F O A vo out vf lf
 f3:w.cell? ⟨F,3,none⟩=some vp
 pown:w.ownsRow 0 61 4 vp P.length (kM P)
 pgood:∀ r ∈ P,r.good d
 pc:∀ g,vp.ownBlock=some g→c g=6∧cj d g
 f4:w.cell? ⟨F,4,none⟩=some vd
 down:w.ownsRow 0 61 4 vd 0 []
 dc:∀ g,vd.ownBlock=some g→c g=5∧cj d g
 f8:w.cell? ⟨F,8,none⟩=some vk
 kown:∃ n xs,w.ownsRow 0 5 1 vk n xs
 kc:∀ g,vk.ownBlock=some g→c g=7∧cj d g
 kb:vk = .slice none 0 0∨dR w vk q
 f9:w.cell? ⟨F,9,none⟩=some (.bool false)
def sM (c:Nat→Nat):Nat→Nat→Prop:=fun b _=>c b < 8
structure TrJ (c0:Nat→Nat) (d w0:World) (F O A:Nat) (vo:Value) (out:List Sp) (vf:Value) (lf:List KR) (P:List SR) (key:Bytes) (pa:Option Addr) (pcap:Nat) (v8:Value) (i:Nat) (v:Value) (w:World) (c:Nat→Nat) (D Q:List SR):Prop where
 hi:i≤P.length
 core:FrC c d w F O A vo out vf lf
 col:∀ b,b < w0.heap.size→c b=c0 b
 k:Keep (sM c0) w0 w
 inc:cM d w
 dx:D.map SR.x=jA key ((P.take i).map SR.x)
 down:w.ownsRow 0 61 4 v D.length (kM D)
 dg:∀ r ∈ D,r.good d∧r.x.ks≠[]
 dc:∀ g,v.ownBlock=some g→c g=5∧cj d g
 qx:Q.map SR.x=il key ((P.take i).map SR.x)
 qg:∀ r ∈ Q,r.good d
 f3:w.cell? ⟨F,3,none⟩=some (.slice pa Q.length pcap)
 pown:w.ownsRow 0 61 4 (.slice pa P.length pcap) P.length (kM (Q++P.drop Q.length))
 pc:∀ g,(Value.slice pa P.length pcap).ownBlock=some g→c g=6∧cj d g
 ql:Q.length≤i
 f8:w.cell? ⟨F,8,none⟩=some v8
 kown:w.ownsRow 0 5 1 v8 key.length (eF key)
 kc:∀ g,v8.ownBlock=some g→c g=7∧cj d g
 f4:(w.cell? ⟨F,4,none⟩).isSome=true
 f9:w.cell? ⟨F,9,none⟩=some (.bool false)
theorem CW (key:Bytes) (l:List Sp):(cG (jA key l)).length≤(cG l).length:=by
 unfold cG jA
 induction l with
 | nil=>simp
 | cons p l ih =>
  rw [ae,ay,ae,aE,aE]
  have:(((if key < p.e then (if p.s < key then [⟨p.s,key,p.ks⟩] else []) else [p]):List Sp).flatMap Sp.ks).length≤p.ks.length:=by
   split
   ·split
    ·simp
    ·simp
   ·simp
  omega
theorem E0 (key:Bytes) (l:List Sp):(jA key l).length≤l.length:=by
 unfold jA
 induction l with
 | nil=>simp
 | cons p l ih =>
  rw [ae,aE,aZ]
  split
  ·split
   ·rw [ar]; omega
   ·rw [List.length_nil]; omega
  ·rw [ar]; omega
theorem E1 (key:Bytes) (l:List Sp):(il key l).length≤l.length:=by
 unfold il
 induction l with
 | nil=>simp
 | cons p l ih =>
  rw [ae,aE,aZ]
  split
  ·rw [ar]; omega
  ·rw [List.length_nil]; omega
theorem CX {key:Bytes} {P:List SR} {i:Nat} {r:SR} (h:P[i]? = some r):jA key ((P.take (i+1)).map SR.x)=jA key ((P.take i).map SR.x)++(if key < r.x.e then (if r.x.s < key then [⟨r.x.s,key,r.x.ks⟩] else []) else [r.x]):=by
 rw [bz h,az]
 unfold jA
 rw [ay]
 simp
theorem CY {key:Bytes} {P:List SR} {i:Nat} {r:SR} (h:P[i]? = some r):il key ((P.take (i+1)).map SR.x)=il key ((P.take i).map SR.x)++if key < r.x.e then [⟨key,r.x.e,r.x.ks⟩] else []:=by
 rw [bz h,az]
 unfold il
 rw [ay]
 simp
end Go.E
namespace Go.Proofs
open Go Go.E Go.Sort
section
variable {k:aq} {d w:World}
set_option maxHeartbeats 4000000 in
theorem CZ {c:Nat→Nat} {F O A:Nat} {vo vf vp vd vk kv:Value} {out:List Sp} {lf:List KR} {P:List SR} {q key:Bytes} (s:FrS c d w F O A vo out vf lf vp P vd vk q) (hinc:cM d w) (hkv:dR d kv key) (hiskv:rY kv=true) (hkl:key.length < 10000000000) (hPn:P.length≤500) (hkn:∀ r ∈ P,r.x.ks≠[]) (hkt:(cG (P.map SR.x)).length < 1000000) (hol:out.length < 80000)
    (hq:∀ r ∈ P,r.x.s < key)
    (hk:∀ d2 w2 c2 vo2 vf2 lf2 vp2 P2 vd2 vk2 L o2,FrS c2 d2 w2 F O A vo2 (out++o2) vf2 lf2 vp2 P2 vd2 vk2 key→P2.map SR.x=il key (P.map SR.x)→L.Perm (jA key (P.map SR.x))→qA L→FlR L o2→Gk (sM c) d w d2 w2→(∀ b,b < w.heap.size→c2 b=c b)→k (.tuple #[]) w2) :
    ai Tryz.prog 60 #[.pointer (some ⟨F,0,none⟩),kv] k w:=by
 obtain ⟨ka,kc,rfl⟩:=aY hkv
 obtain ⟨nk,xk,hok⟩:=s.kown
 obtain ⟨fa,fc,rfl,_⟩:=bP hok
 obtain ⟨da,dcap,rfl,_⟩:=bP s.down
 obtain ⟨pa,pcap,rfl,hpc⟩:=bP s.pown
 have f8:=s.f8
 have f4:=s.f4
 have f3:=s.f3
 have fz:=s.core.fz
 have cF:=s.core.cF
 have hFl:=aC s.core.f0
 have z0:(0:Int).toNat=0:=rfl
 have zc1:(0:Int)≤fc:=by omega
 have zc2:(0:Int)≤dcap:=by omega
 have zc3:(0:Int)≤pcap:=by omega
 refine al [] Tryz.func60 ?_
 simp (disch:=first | exact dZ | fail) only [go_sem,f8,pG Tryz.es56,z0,zc1]
 refine Ez hok (hkv.inc hinc) hkl fun v8 w1 ow8 k8 nw8 => ?_
 have nk8:∀ g,(Value.slice fa nk fc).ownBlock=some g→g≠F:=fun g hg he=>by have:=(s.kc g hg).1; rw [he] at this; omega
 have nF8:(Value.slice fa nk fc).ownBlock≠some F:=fun h=>nk8 F h rfl
 have f8_1:=k8.some f8 nF8
 have f4_1:=k8.some f4 nF8
 have f3_1:=k8.some f3 nF8
 have fz1:∀ y,w1.frozen? ⟨F,y,none⟩=false:=fun y=>by rw [k8.frozen F y hFl]; exact fz y
 obtain ⟨a8,c8,rfl,_⟩:=bP ow8
 simp (disch:=first | exact dZ | fail) only [go_sem,f8_1,f4_1,f3_1,fz1,pG Tryz.es140,z0,zc2,zc3]
 obtain ⟨w2,hw2⟩:∃ w2,w2=(w1.setCell ⟨F,8,none⟩ (.slice a8 key.length c8)).setCell ⟨F,3,none⟩ (.slice pa 0 pcap):=⟨_,rfl⟩
 rw [← hw2]
 have hinc1:cM d w1:=hinc.keep k8 fun b o hm=>(s.kc b hm).2 o
 have ks12:Keep (fun b o=>b=F∧(o=3∨o=8)) w1 w2:=by rw [hw2]; exact ((Keep.refl _ w1).set fun _=>⟨rfl,.inr rfl⟩).set fun _=>⟨rfl,.inl rfl⟩
 have hinc2:cM d w2:=hinc1.keep ks12 fun b o hm=>by rw [hm.1]; exact s.core.oF o
 obtain ⟨c1,hc1⟩:∃ c1:Nat→Nat,c1=fun b=>if b < w.heap.size then c b else 7:=⟨_,rfl⟩
 have hc1':∀ b,b < w.heap.size→c1 b=c b:=fun b hb=>by rw [hc1]; exact if_pos hb
 have hz1:=k8.size
 have hz2:=ks12.size
 have core1:=s.core.color hc1'
 have hkw:∀ g,(Value.slice fa nk fc).ownBlock=some g→c1 g=7∧cj d g:=fun g hg=>⟨by rw [hc1' g (hok.lt _ hg).2]; exact (s.kc g hg).1,(s.kc g hg).2⟩
 have core2:FrC c1 d w2 F O A vo out vf lf:=(core1.keep3 k8 fun b o hm => .inr (by have:=(hkw b hm).1; omega)).keep3 ks12 fun b o hm => .inl ⟨by rw [hm.1]; exact core1.cF,by have:=hm.2; omega⟩
 have nk8':∀ g,(Value.slice a8 key.length c8).ownBlock=some g→c1 g=7∧cj d g:=fun g hg=>by
  rcases nw8 g hg with h1 | h1
  ·exact hkw g h1
  ·exact ⟨by rw [hc1]; exact if_neg (by omega),hinc.out h1⟩
 have k02:Keep (fun b o=>(Value.slice fa nk fc).ownBlock=some b∨b=F∧(o=3∨o=8)) w w2:=(k8.mono fun _ _ _ h => .inl h).tr ks12 fun _ _ _ h => .inr h
 have n5:∀ {g o},c g=5∨c g=6→¬ ((Value.slice fa nk fc).ownBlock=some g∨g=F∧(o=3∨o=8)):=fun {g o} h5 hm=>by
  rcases hm with h1 | ⟨rfl,_⟩
  ·have:=(s.kc g h1).1; omega
  ·omega
 have nF:∀ {o},o≠3→o≠8→¬ ((Value.slice fa nk fc).ownBlock=some F∨F=F∧(o=3∨o=8)):=fun {o} h3 h8 hm=>by
  rcases hm with h1 | ⟨_,h1⟩
  ·exact nF8 h1
  ·omega
 have kown2:w2.ownsRow 0 5 1 (.slice a8 key.length c8) key.length (eF key):=aX ow8 ks12 fun g hg o hm=>by
  have h1:=(nk8' g hg).1
  rw [hm.1] at h1
  have:=core1.cF
  omega
 have J0:TrJ c d w F O A vo out vf lf P key pa pcap (.slice a8 key.length c8) 0 (.slice da 0 dcap) w2 c1 [] []:=by
  refine ⟨aT _,core2,hc1',k02.mono fun b o _ hm => ?_,hinc2,rfl,aX s.down k02 fun g hg o=>n5 (.inl (s.dc g hg).1),by simp,fun g hg=>⟨by rw [hc1' g (s.down.lt _ hg).2]; exact (s.dc g hg).1,(s.dc g hg).2⟩,rfl,by simp,by rw [hw2,cJ,fk (by decide),f3_1]; rfl,by simpa using aX s.pown k02 fun g hg o=>n5 (.inr (s.pc g hg).1),fun g hg=>⟨by rw [hc1' g (s.pown.lt _ hg).2]; exact (s.pc g hg).1,(s.pc g hg).2⟩,aF _,by rw [hw2,fk (by decide),cJ,f8_1]; rfl,kown2,nk8',by rw [k02.some f4 (nF (by omega) (by omega))]; rfl,k02.some s.f9 (nF (by omega) (by omega))⟩
  unfold sM
  rcases hm with h1 | ⟨rfl,_⟩
  ·have:=(s.kc b h1).1; omega
  ·omega
 clear core1 core2 hkw nk8' k02 n5 nF kown2 ks12 hinc1 hinc2 k8 f8_1 f4_1 f3_1 fz1
 refine bZ (fun t:Value × Nat=>[(0,.pointer (some ⟨F,0,none⟩)),(1,.slice ka key.length kc),(4,t.1),(35,.slice pa P.length pcap),(36,.int .i64 P.length),(37,.int .i64 t.2)])
  (fun t w'=>∃ c' D Q,TrJ c d w F O A vo out vf lf P key pa pcap (.slice a8 key.length c8) t.2 t.1 w' c' D Q) (fun t _=>P.length - t.2) (.slice da 0 dcap,0) (by kernel_rfl) ?_ ⟨c1,[],[],J0⟩ ?_
 ·exact bU
 clear J0
 rintro K2 e ⟨v,i⟩ w3 ⟨c3,D,Q,J⟩ hK2
 simp only at J hK2
 have f0:=J.core.f0
 have cF3:=J.core.cF
 have hFl3:=aC f0
 have fz3:=J.core.fz
 have hDl:D.length≤i:=by
  have h1:=congrArg List.length J.dx
  rw [aR] at h1
  rw [h1]
  refine ah (E0 _ _) ?_
  rw [aR,bE]; omega
 obtain ⟨va,vcap,rfl,_⟩:=bP J.down
 rcases aH i P.length with hi | hi
 ·have hi':(i:Int) < P.length:=by omega
  obtain ⟨⟨rx,rsv,rev,rkv⟩,hr⟩:∃ r,P[i]? = some r:=⟨_,aD hi⟩
  have hrm:=aO hr
  obtain ⟨b1,b2,b3,b4,b5⟩:=s.pgood _ hrm
  have hrk:rx.ks≠[]:=hkn _ hrm
  have hrq:rx.s < key:=hq _ hrm
  simp only at b1 b2 b3 b4 b5
  obtain ⟨sa,sc,rfl⟩:=aY b1
  obtain ⟨ea,ec,rfl⟩:=aY b2
  obtain ⟨na,nc,rfl⟩:=b5.form
  obtain ⟨g,rfl⟩:∃ g,pa=some ⟨g,0,none⟩:=by
   rcases cg J.pown with ⟨_,h0,_⟩ | ⟨g,cap,e,_,_⟩
   ·omega
   ·simp only [aU] at e
    exact ⟨g,e.1⟩
  have hrow:(Q++P.drop Q.length)[i]? = some ⟨rx,.slice sa rx.s.length sc,.slice ea rx.e.length ec,.slice na rx.ks.length nc⟩:=by
   rw [bC J.ql,List.getElem?_drop,show Q.length+(i - Q.length)=i by have:=J.ql; omega]
   exact hr
  obtain ⟨z1,z2,z3,z4⟩:=sm hrow
  have y1:=bW J.pown z1
  have y2:=bW J.pown z2
  have y3:=bW J.pown z3
  have y4:=bW J.pown z4
  have dm:=CX (key:=key) hr
  have rm:=CY (key:=key) hr
  obtain ⟨T,hT⟩:∃ T,T=w3.heap.size:=⟨_,rfl⟩
  obtain ⟨w4,hw4⟩:∃ w4,w4=w3.alloc (.cells #[.slice sa rx.s.length sc,.slice ea rx.e.length ec,.slice na rx.ks.length nc,.int .i8 0] 61):=⟨_,rfl⟩
  have x4:bp w3 w4:=by rw [hw4]; exact aJ _
  have a0:w4.cell? ⟨T,0,none⟩=some (.slice sa rx.s.length sc):=by rw [hw4,hT]; exact bX @aA
  have a1:w4.cell? ⟨T,1,none⟩=some (.slice ea rx.e.length ec):=by rw [hw4,hT]; exact bX @aA
  have a2:w4.cell? ⟨T,2,none⟩=some (.slice na rx.ks.length nc):=by rw [hw4,hT]; exact bX @aA
  have a3:w4.cell? ⟨T,3,none⟩=some (.int .i8 0):=by rw [hw4,hT]; exact bX @aA
  refine hJ @hi' @y1 @y2 @y3 @y4 ?_
  rw [← hw4,← hT]
  refine bF (sq [0,1,2] (.read 3 (sq [4,5] (.read 6 (.eff 7 [] (sq [8] .done)))))) ?_
  obtain ⟨w5,hw5⟩:∃ w5,w5=w4.drew:=⟨_,rfl⟩
  have x5:bp w4 w5:=by rw [hw5]; exact bp.drew' (bp.refl _)
  have x35:=x4.trans x5
  rw [← hw5]
  have f0_5:=x35.cell f0
  have a0:=x5.cell a0
  have a1:=x5.cell a1
  have a2:=x5.cell a2
  have a3:=x5.cell a3
  have hinc5:=J.inc.trans x35.inc
  refine dO @f0_5 @a1 ?_
  refine dG (hkv.inc hinc5) (b2.inc hinc5) ?_
  by_cases hlt:key < rx.e
  ·have hl0:eH key rx.e < 0:=fS.2 hlt
   refine dO @hl0 @decide_true ?_
   refine bF (sq [0,1,2] (.read 3 (sq [4] (.read 5 (sq [6] (.eff 7 [] (sq [8] .done))))))) ?_
   obtain ⟨w6,hw6⟩:∃ w6,w6=w5.drew:=⟨_,rfl⟩
   have x6:bp w5 w6:=by rw [hw6]; exact bp.drew' (bp.refl _)
   rw [← hw6]
   have x36:=x35.trans x6
   have f0_6:=x6.cell f0_5
   have a0:=x6.cell a0
   have a1:=x6.cell a1
   have a2:=x6.cell a2
   have hinc6:=J.inc.trans x36.inc
   refine dO @f0_6 @a0 ?_
   refine dG (b1.inc hinc6) (hkv.inc hinc6) ?_
   have hl1:eH rx.s key < 0:=fS.2 hrq
   refine eO @hl1 @decide_true @a0 @a2 ?_
   refine yZ (x:=⟨⟨rx.s,key,rx.ks⟩,.slice sa rx.s.length sc,.slice ka key.length kc,.slice na rx.ks.length nc⟩) (aX J.down x36 fun _ _ _ h=>h) ⟨b1,hkv,b3,hiskv,b5⟩ (by omega) fun v7 w7 o7 k7 n7 => ?_
   have lv:∀ b,(Value.slice va D.length vcap).ownBlock=some b→b < w3.heap.size:=fun b hb=>(J.down.lt _ hb).2
   obtain ⟨c7,hc7⟩:∃ c7:Nat→Nat,c7=fun b=>if b < (w6).heap.size then c3 b else 5:=⟨_,rfl⟩
   have hz6:=(x36).size
   have hc7':∀ b,b < (w6).heap.size→c7 b=c3 b:=fun b hb=>by rw [hc7]; exact if_pos hb
   have hv7:∀ b,(Value.slice va D.length vcap).ownBlock=some b→c7 b=5:=fun b hb=>by rw [hc7' b (by have:=lv b hb; omega)]; exact (J.dc b hb).1
   have core7:FrC c7 d w7 F O A vo out vf lf:=((J.core.keep3 (x36) fun _ _ h=>h.elim).color hc7').keep3 k7 fun b o hm => .inr (by have:=hv7 b hm; omega)
   have nv:∀ {b},c3 b≠5→(Value.slice va D.length vcap).ownBlock≠some b:=fun h5 hb=>h5 (J.dc _ hb).1
   have nFv:(Value.slice va D.length vcap).ownBlock≠some F:=nv (by omega)
   have f3_7:=k7.some ((x36).cell J.f3) nFv
   have f8_7:=k7.some ((x36).cell J.f8) nFv
   have f9_7:=k7.some ((x36).cell J.f9) nFv
   have hf4:(w7.cell? ⟨F,4,none⟩).isSome=true:=by
    obtain ⟨u,hu⟩:=b7.1 J.f4
    rw [k7.some ((x36).cell hu) nFv]; rfl
   have pown7:=aX (aX J.pown (x36) fun _ _ _ h=>h) k7 fun b hb o=>nv (by rw [(J.pc b hb).1]; omega)
   have kown7:=aX (aX J.kown (x36) fun _ _ _ h=>h) k7 fun b hb o=>nv (by rw [(J.kc b hb).1]; omega)
   have k37:Keep (fun b _=>(Value.slice va D.length vcap).ownBlock=some b) w3 w7:=(x36).keep.tr k7 fun _ _ _ h=>h
   have hz7:=k7.size
   have inc7:cM d w7:=J.inc.keep k37 fun b o hm=>(J.dc b hm).2 o
   have dc7:∀ b,v7.ownBlock=some b→c7 b=5∧cj d b:=fun b hb=>by
    rcases n7 b hb with h1 | h1
    ·exact ⟨hv7 b h1,(J.dc b h1).2⟩
    ·exact ⟨by rw [hc7]; exact if_neg (by omega),J.inc.out (by omega)⟩
   have hw03:=J.k.size
   have col7:∀ b,b < w.heap.size→c7 b=c b:=fun b hb=>by rw [hc7' b (by omega)]; exact J.col b hb
   have lpc:∀ b,(Value.slice (some ⟨g,0,none⟩) P.length pcap).ownBlock=some b→b < w3.heap.size:=fun b hb=>(J.pown.lt _ hb).2
   have lkc:∀ b,(Value.slice a8 key.length c8).ownBlock=some b→b < w3.heap.size:=fun b hb=>(J.kown.lt _ hb).2
   have pc7:∀ b,(Value.slice (some ⟨g,0,none⟩) P.length pcap).ownBlock=some b→c7 b=6∧cj d b:=fun b hb=>⟨by rw [hc7' b (by have:=lpc b hb; omega)]; exact (J.pc b hb).1,(J.pc b hb).2⟩
   have kc7:∀ b,(Value.slice a8 key.length c8).ownBlock=some b→c7 b=7∧cj d b:=fun b hb=>⟨by rw [hc7' b (by have:=lkc b hb; omega)]; exact (J.kc b hb).1,(J.kc b hb).2⟩
   have sk7:Keep (sM c) w w7:=J.k.tr k37 fun b o hb hm=>by
    have:=(J.dc b hm).1
    rw [J.col b hb] at this
    unfold sM; omega
   have lT:∀ {o u},w6.cell? ⟨T,o,none⟩=some u→w7.cell? ⟨T,o,none⟩=some u:=fun h=>k7.some h fun hb=>by have:=lv T hb; omega
   have a1:=lT a1
   have a2:=lT a2
   have fz7:=core7.fz
   obtain ⟨ra,rc,rfl,_⟩:=bP o7
   refine bA ?_
   refine bF (sq [0,1,2,3] (.read 4 (sq [5,6] (.read 7 (sq [8] (.read 9 (sq [10] (.eff 11 [4] (.eff 12 [] (sq [13,14] (.eff 15 [] .done))))))))))) ?_
   obtain ⟨w8,hw8⟩:∃ w8,w8=w7.drew:=⟨_,rfl⟩
   have x8:bp w7 w8:=by rw [hw8]; exact bp.drew' (bp.refl _)
   rw [← hw8]
   have f3_8:=x8.cell f3_7
   have a1:=x8.cell a1
   have a2:=x8.cell a2
   have f3_9:∀ c t,(w8.alloc (.cells c t)).cell? ⟨F,3,none⟩=some (.slice (some ⟨g,0,none⟩) Q.length pcap):=fun c t=>(aJ _).cell f3_8
   have hQl:Q.length < P.length:=by have:=J.ql; omega
   refine eO @f3_8 @a1 @a2 @f3_9 ?_
   refine GM (j:=Q.length) (x:=⟨⟨key,rx.e,rx.ks⟩,.slice ka key.length kc,.slice ea rx.e.length ec,.slice na rx.ks.length nc⟩) (aX pown7 x8 fun _ _ _ h=>h) (by rw [aE,List.length_drop]; omega) hQl hpc.1 ⟨hkv,b2,hiskv,b4,b5⟩ fun w9 o9 k9 => ?_
   have hgc:c7 g=6:=(pc7 g rfl).1
   have hF7:=core7.cF
   have gF:g≠F:=fun h=>by rw [h] at hgc; omega
   have k79:Keep (fun b _=>b=g) w7 w9:=x8.keep.tr k9 fun _ _ _ h=>h
   have f3_9':=k79.some f3_7 (fun h=>gF h.symm)
   have fz9:∀ y,w9.frozen? ⟨F,y,none⟩=false:=fun y=>by rw [k79.frozen F y (aC core7.f0)]; exact fz7 y
   refine dO @f3_9' @fz9 ?_
   have k710:Keep (fun b o=>b=g∨b=F∧o=3) w7 (w9.setCell ⟨F,3,none⟩ (.slice (some ⟨g,0,none⟩) (Q.length+1) pcap)):=(k79.mono fun _ _ _ h => .inl h).set fun _ => .inr ⟨rfl,rfl⟩
   have ks:Keep (fun b o=>b=F∧o=3) w9 (w9.setCell ⟨F,3,none⟩ (.slice (some ⟨g,0,none⟩) (Q.length+1) pcap)):=bY ⟨rfl,rfl⟩
   have n710:∀ {b o},c7 b≠6→(b=F→o≠3)→¬ (b=g∨b=F∧o=3):=fun {b o} h6 h3 hm=>by
    rcases hm with h | ⟨h,h'⟩
    ·exact h6 (by rw [h]; exact hgc)
    ·exact h3 h h'
   have nF7:∀ {b o},c7 b=5∨c7 b=7→¬ (b=g∨b=F∧o=3):=fun {b o} hc=>n710 (by omega) fun h=>by rw [h] at hc; omega
   refine hK2 _ _ (.slice ra (D++([⟨⟨rx.s,key,rx.ks⟩,.slice sa rx.s.length sc,.slice ka key.length kc,.slice na rx.ks.length nc⟩]:List SR)).length rc,i+1) ?_ ⟨c7,_,Q++[⟨⟨key,rx.e,rx.ks⟩,.slice ka key.length kc,.slice ea rx.e.length ec,.slice na rx.ks.length nc⟩],⟨hi,core7.keep3 k710 fun b o hm => ?_,col7,sk7.tr k710 fun b o hb hm => ?_,inc7.keep k710 fun b o hm => ?_,?_,aX o7 k710 fun b hb o=>nF7 (.inl (dc7 b hb).1),fun r hr => ?_,dc7,?_,fun r hr => ?_,?_,?_,pc7,?_,k710.some f8_7 (n710 (by omega) fun _=>by decide),aX kown7 k710 fun b hb o=>nF7 (.inr (kc7 b hb).1),kc7,?_,k710.some f9_7 (n710 (by omega) fun _=>by decide)⟩⟩ (by simp only; omega)
   ·exact bU
   ·rcases hm with h | ⟨h,h'⟩
    ·exact .inr (by rw [h]; omega)
    ·exact .inl ⟨by rw [h]; exact hF7,by omega⟩
   ·unfold sM
    rcases hm with h | ⟨h,h'⟩
    ·rw [h] at hb ⊢
     rw [col7 g hb] at hgc; omega
    ·rw [h]; omega
   ·rcases hm with h | ⟨h,h'⟩
    ·rw [h]; exact (pc7 g rfl).2 o
    ·rw [h]; exact core7.oF o
   ·rw [dm,if_pos hlt,if_pos hrq,az,J.dx]; rfl
   ·rcases aS.1 hr with hr | hr
    ·exact J.dg r hr
    ·rw [aM.1 hr]
     exact ⟨⟨b1,hkv,b3,hiskv,b5⟩,hrk⟩
   ·rw [rm,if_pos hlt,az,J.qx]; rfl
   ·rcases aS.1 hr with hr | hr
    ·exact J.qg r hr
    ·rw [aM.1 hr]
     exact ⟨hkv,b2,hiskv,b4,b5⟩
   ·rw [cJ,f3_9',aE]; rfl
   ·have:=aX o9 ks fun b hb o hm=>by
      obtain rfl:g=b:=by simpa [Value.ownBlock] using hb
      exact gF hm.1
    have e:(Q++P.drop Q.length).set Q.length ⟨⟨key,rx.e,rx.ks⟩,.slice ka key.length kc,.slice ea rx.e.length ec,.slice na rx.ks.length nc⟩=(Q++[⟨⟨key,rx.e,rx.ks⟩,.slice ka key.length kc,.slice ea rx.e.length ec,.slice na rx.ks.length nc⟩])++P.drop (Q++[(⟨⟨key,rx.e,rx.ks⟩,.slice ka key.length kc,.slice ea rx.e.length ec,.slice na rx.ks.length nc⟩:SR)]).length:=by
     rw [List.set_append_right _ _ (aF _),Nat.sub_self,cV hQl,ax,aE]
     rfl
    rw [e] at this
    exact this
   ·have:=J.ql; rw [aE,ar]; omega
   ·obtain ⟨u,hu⟩:=b7.1 hf4
    rw [k710.some hu (n710 (by omega) fun _=>by decide)]; rfl
  ·have hl0:¬ eH key rx.e < 0:=fun h=>hlt (fS.1 h)
   refine qh @hl0 @decide_false @a0 @a1 @a2 @a3 ?_
   refine yZ (x:=⟨rx,.slice sa rx.s.length sc,.slice ea rx.e.length ec,.slice na rx.ks.length nc⟩) (aX J.down x35 fun _ _ _ h=>h) ⟨b1,b2,b3,b4,b5⟩ (by omega) fun v7 w7 o7 k7 n7 => ?_
   have lv:∀ b,(Value.slice va D.length vcap).ownBlock=some b→b < w3.heap.size:=fun b hb=>(J.down.lt _ hb).2
   obtain ⟨c7,hc7⟩:∃ c7:Nat→Nat,c7=fun b=>if b < (w5).heap.size then c3 b else 5:=⟨_,rfl⟩
   have hz6:=(x35).size
   have hc7':∀ b,b < (w5).heap.size→c7 b=c3 b:=fun b hb=>by rw [hc7]; exact if_pos hb
   have hv7:∀ b,(Value.slice va D.length vcap).ownBlock=some b→c7 b=5:=fun b hb=>by rw [hc7' b (by have:=lv b hb; omega)]; exact (J.dc b hb).1
   have core7:FrC c7 d w7 F O A vo out vf lf:=((J.core.keep3 (x35) fun _ _ h=>h.elim).color hc7').keep3 k7 fun b o hm => .inr (by have:=hv7 b hm; omega)
   have nv:∀ {b},c3 b≠5→(Value.slice va D.length vcap).ownBlock≠some b:=fun h5 hb=>h5 (J.dc _ hb).1
   have nFv:(Value.slice va D.length vcap).ownBlock≠some F:=nv (by omega)
   have f3_7:=k7.some ((x35).cell J.f3) nFv
   have f8_7:=k7.some ((x35).cell J.f8) nFv
   have f9_7:=k7.some ((x35).cell J.f9) nFv
   have hf4:(w7.cell? ⟨F,4,none⟩).isSome=true:=by
    obtain ⟨u,hu⟩:=b7.1 J.f4
    rw [k7.some ((x35).cell hu) nFv]; rfl
   have pown7:=aX (aX J.pown (x35) fun _ _ _ h=>h) k7 fun b hb o=>nv (by rw [(J.pc b hb).1]; omega)
   have kown7:=aX (aX J.kown (x35) fun _ _ _ h=>h) k7 fun b hb o=>nv (by rw [(J.kc b hb).1]; omega)
   have k37:Keep (fun b _=>(Value.slice va D.length vcap).ownBlock=some b) w3 w7:=(x35).keep.tr k7 fun _ _ _ h=>h
   have hz7:=k7.size
   have inc7:cM d w7:=J.inc.keep k37 fun b o hm=>(J.dc b hm).2 o
   have dc7:∀ b,v7.ownBlock=some b→c7 b=5∧cj d b:=fun b hb=>by
    rcases n7 b hb with h1 | h1
    ·exact ⟨hv7 b h1,(J.dc b h1).2⟩
    ·exact ⟨by rw [hc7]; exact if_neg (by omega),J.inc.out (by omega)⟩
   have hw03:=J.k.size
   have col7:∀ b,b < w.heap.size→c7 b=c b:=fun b hb=>by rw [hc7' b (by omega)]; exact J.col b hb
   have lpc:∀ b,(Value.slice (some ⟨g,0,none⟩) P.length pcap).ownBlock=some b→b < w3.heap.size:=fun b hb=>(J.pown.lt _ hb).2
   have lkc:∀ b,(Value.slice a8 key.length c8).ownBlock=some b→b < w3.heap.size:=fun b hb=>(J.kown.lt _ hb).2
   have pc7:∀ b,(Value.slice (some ⟨g,0,none⟩) P.length pcap).ownBlock=some b→c7 b=6∧cj d b:=fun b hb=>⟨by rw [hc7' b (by have:=lpc b hb; omega)]; exact (J.pc b hb).1,(J.pc b hb).2⟩
   have kc7:∀ b,(Value.slice a8 key.length c8).ownBlock=some b→c7 b=7∧cj d b:=fun b hb=>⟨by rw [hc7' b (by have:=lkc b hb; omega)]; exact (J.kc b hb).1,(J.kc b hb).2⟩
   have sk7:Keep (sM c) w w7:=J.k.tr k37 fun b o hb hm=>by
    have:=(J.dc b hm).1
    rw [J.col b hb] at this
    unfold sM; omega
   obtain ⟨ra,rc,rfl,_⟩:=bP o7
   refine bA ?_
   refine hK2 _ _ (.slice ra (D++([⟨rx,.slice sa rx.s.length sc,.slice ea rx.e.length ec,.slice na rx.ks.length nc⟩]:List SR)).length rc,i+1) ?_ ⟨c7,_,Q,⟨hi,core7,col7,sk7,inc7,?_,o7,fun r hr => ?_,dc7,?_,J.qg,f3_7,pown7,pc7,by have:=J.ql; omega,f8_7,kown7,kc7,hf4,f9_7⟩⟩ (by simp only; omega)
   ·exact bU
   ·rw [dm,if_neg hlt,az,J.dx]; rfl
   ·rcases aS.1 hr with hr | hr
    ·exact J.dg r hr
    ·rw [aM.1 hr]
     exact ⟨⟨b1,b2,b3,b4,b5⟩,hrk⟩
   ·rw [rm,if_neg hlt,ao,J.qx]
 ·have hi':¬ (i:Int) < P.length:=by omega
  obtain rfl:i=P.length:=by have:=J.hi; omega
  have dx:=J.dx
  have qx:=J.qx
  rw [ag] at dx qx
  obtain ⟨u4,f4v⟩:=b7.1 J.f4
  have zc4:(0:Int)≤vcap:=by omega
  simp (disch:=first | exact dZ | fail) only [go_sem,hi',f4v,fz3,pG Tryz.es140,z0,zc4]
  obtain ⟨w4,hw4⟩:∃ w4,w4=w3.setCell ⟨F,4,none⟩ (.slice va 0 vcap):=⟨_,rfl⟩
  rw [← hw4]
  have ks:Keep (fun b o=>b=F∧o=4) w3 w4:=by rw [hw4]; exact bY ⟨rfl,rfl⟩
  have inc4:cM d w4:=J.inc.keep ks fun b o hm=>by rw [hm.1]; exact J.core.oF o
  have nD:∀ {b o},c3 b=5∨c3 b=6∨c3 b=7→¬ (b=F∧o=4):=fun {b o} h hm=>by rw [hm.1] at h; omega
  have hkD:(cG (D.map SR.x)).length < 1000000:=by
   rw [dx]
   exact fV (CW key _) hkt
  refine uu (J.core.keep3 ks fun b o hm => .inl ⟨by rw [hm.1]; exact cF3,by omega⟩) inc4 (aX J.down ks fun b hb o=>nD (.inl (J.dc b hb).1)) (fun r hr=>(J.dg r hr).1) J.dc (by omega) (fun r hr=>(J.dg r hr).2) hkD (by omega) fun d5 w5 c5 vo5 vf5 lf5 L o2 hC hp hs hf G hcc hys => ?_
  obtain ⟨ys,hys⟩:=hys
  have hz4:=ks.size
  have hw03:=J.k.size
  have nF5:∀ {o},o < 5∨7 < o→¬ fM c3 F o:=fun {o} ho hm=>by unfold fM at hm; omega
  have n67:∀ {b o},c3 b=6∨c3 b=7→¬ fM c3 b o:=fun {b o} ho hm=>by unfold fM at hm; omega
  have pown4:=aX J.pown ks fun b hb o=>nD (.inr (.inl (J.pc b hb).1))
  have kown4:=aX J.kown ks fun b hb o=>nD (.inr (.inr (J.kc b hb).1))
  have ptake:=rT (aX pown4 G.k fun b hb o=>n67 (.inl (J.pc b hb).1)) (show Q.length≤P.length from J.ql)
  rw [Ev,List.take_append_of_le_length (aF _),ag] at ptake
  have kown5:=aX kown4 G.k fun b hb o=>n67 (.inr (J.kc b hb).1)
  have f4_4:w4.cell? ⟨F,4,none⟩=some (.slice va 0 vcap):=by rw [hw4,cJ,f4v]; rfl
  have eD:(Value.slice va 0 vcap).ownBlock=(Value.slice va D.length vcap).ownBlock:=cS va 0 D.length vcap
  have eP:(Value.slice pa Q.length pcap).ownBlock=(Value.slice pa P.length pcap).ownBlock:=cS pa Q.length P.length pcap
  refine bA ?_
  refine hk d5 w5 c5 vo5 vf5 lf5 (.slice pa Q.length pcap) Q (.slice va 0 vcap) (.slice a8 key.length c8) L o2 ⟨hC,G.k.some (ks.some J.f3 (by omega)) (nF5 (by omega)),ptake,fun r hr=>(J.qg r hr).inc G.i,fun b hb => ?_,G.k.some f4_4 (nF5 (by omega)),eQ hys,fun b hb => ?_,G.k.some (ks.some J.f8 (by omega)) (nF5 (by omega)),⟨_,_,kown5⟩,fun b hb => ?_,.inr (jS kown5),G.k.some (ks.some J.f9 (by omega)) (nF5 (by omega))⟩ qx (by rw [← dx]; exact hp) hs hf ?_ fun b hb => ?_
  ·rw [eP] at hb
   have hl:=(pown4.lt _ hb).2
   exact ⟨by rw [hcc b hl]; exact (J.pc b hb).1,G.o b hl (J.pc b hb).2⟩
  ·rw [eD] at hb
   have hl:=(J.down.lt _ hb).2
   exact ⟨by rw [hcc b (by omega)]; exact (J.dc b hb).1,G.o b (by omega) (J.dc b hb).2⟩
  ·have hl:=(kown4.lt _ hb).2
   exact ⟨by rw [hcc b hl]; exact (J.kc b hb).1,G.o b hl (J.kc b hb).2⟩
  ·refine Gk.trans (M1:=sM c) (d1:=d) (w1:=w4) ⟨J.k.tr ks fun b o hb hm => ?_,cM.refl d,inc4,fun _ _ h=>h⟩ G (fun _ _ _ h=>h) fun b o hb hm => ?_
   ·unfold sM; rw [hm.1]; omega
   ·have h1:=J.col b hb
    unfold fM at hm
    unfold sM
    omega
  ·rw [hcc b (by omega)]
   exact J.col b hb
end
end Go.Proofs
end
