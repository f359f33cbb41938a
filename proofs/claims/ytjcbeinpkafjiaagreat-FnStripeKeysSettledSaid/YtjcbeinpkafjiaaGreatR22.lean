/- Parts of the proof: Vc, Vd, Ve, Vf, Vg, Vh, Wj, Wk. -/
import Derived.Test.YtjcbeinpkafjiaaGreatR17
import Derived.Test.YtjcbeinpkafjiaaGreatR21
set_option linter.all false
set_option maxRecDepth 10000
section
namespace Go.E
open Go Go.Sort Go.Proofs
theorem zp {α:Type} (P:α→Bool) (G:List α) (a e:Nat) (h:∀ j (hj:j < G.length),P G[j]=true↔a≤j∧j < e):G.filter P=(G.take e).drop a:=by
 induction G generalizing a e with
 | nil=>simp
 | cons x G ih =>
  have h0:=h 0 (by simp)
  have hs:=fun j (hj:j < G.length)=>h (j+1) (by simp only [ag]; omega)
  simp only [List.getElem_cons_zero] at h0
  simp only [List.getElem_cons_succ] at hs
  cases e with
  | zero =>
   rw [List.filter_cons_of_neg (by rw [h0]; omega),ih 0 0 fun j hj=>by rw [hs j hj]; omega]
   simp
  | succ e =>
   cases a with
   | zero=>rw [List.filter_cons_of_pos (by rw [h0]; omega),ih 0 e fun j hj=>by rw [hs j hj]; omega]; simp
   | succ a=>rw [List.filter_cons_of_neg (by rw [h0]; omega),ih a e fun j hj=>by rw [hs j hj]; omega]; simp
theorem Fh {lo hi:Option Bytes} {x:Sp}:E4 lo hi x=true↔(∀ l,lo=some l→l < x.e)∧∀ h,hi=some h→x.s < h:=by
 unfold E4
 rw [bN]
 cases lo <;> cases hi <;> simp
theorem CF {G:List Sp} (hw:Wf G) (lo hi:Option Bytes):G.filter (E4 lo hi)=GB G lo hi:=by
 unfold GB
 refine zp _ _ _ _ fun j hj => ?_
 rw [Fh,qi hw hj,qj hw hj,aG G j hj]
theorem yM {Lv:List (List Sp)} {snap:Nat} (h:∀ L ∈ Lv,Wf L) (hf:∀ L ∈ Lv,∀ s ∈ L,s.ks≠[]) (hc:∀ u,Cd (cM Lv.length (de Lv) (bH Lv.flatten) u)) :
    (jk Lv.flatten snap).map iJ=(GL (Tf snap) Lv.length (de Lv) (bH Lv.flatten)).map cR:=by
 unfold jk GL
 rw [pM h hf,cl,cl,cl]
 refine List.map_congr_left fun u _ => ?_
 simp only [Function.comp,iJ,cR,jh]
 rw [pN (hc u)]
theorem Al {Lv:List (List Sp)} {snap:Nat} (h:∀ L ∈ Lv,Wf L) (hf:∀ L ∈ Lv,∀ s ∈ L,s.ks≠[]) (hc:∀ u,Cd (cM Lv.length (de Lv) (bH Lv.flatten) u)) (lo hi:Option Bytes) :
    um Lv.flatten snap lo hi=(Vw K.sv (GB (GL (Tf snap) Lv.length (de Lv) (bH Lv.flatten)) lo hi)).map cR:=by
 have e1:((jk Lv.flatten snap).filter (E4 lo hi)).map iJ=((jk Lv.flatten snap).map iJ).filter (E4 lo hi):=by
  rw [List.filter_map]
  rfl
 have e2:((GL (Tf snap) Lv.length (de Lv) (bH Lv.flatten)).map cR).filter (E4 lo hi)=((GL (Tf snap) Lv.length (de Lv) (bH Lv.flatten)).filter (E4 lo hi)).map cR:=by
  rw [List.filter_map]
  rfl
 unfold um
 rw [e1,yM h hf hc,e2,CF (uR (iS h)),Ak]
theorem uo {β:Type} [DecidableEq β] {π:K→β} {G:List Sp} (hw:Wf G):Wf (Vw π G):=by
 refine ⟨fun i hi => ?_,fun i j hij hj => ?_⟩
 ·rw [dt] at hi
  rw [kF hi]
  have h1:=eA hi
  have a:=hw.1 _ (gF hi).1
  have b:=hw.ends (i:=(cr π G)[i]!) (j:=iG π G i - 1) (by omega) (by omega)
  simp only
  exact cJ a (by grind)
 ·rw [dt] at hj
  rw [kF hj,kF (by omega:i < (cr π G).length)]
  have h1:=eA (show i < (cr π G).length by omega)
  have h2:=G8 hij hj
  exact hw.2 _ _ (by omega) (gF hj).1
end Go.E
end
section
set_option linter.unusedSectionVars false
namespace Go.E
open Go Go.Sort Go.Proofs
def fA (x:Bytes) (s:Sp):Bool:=decide (¬ x < s.s∧x < s.e)
def cu {β:Type} (π:K→β) (V:List Sp) (x:Bytes):List β:=match V.find? (fA x) with
 | some s=>s.ks.map π
 | none=>[]
structure Mx {β:Type} (π:K→β) (V:List Sp):Prop where
 ne:∀ s ∈ V,s.s < s.e∧s.ks≠[]
 pw:V.Pairwise fun a b=>¬ b.s < a.e
 mx:∀ l a b m,V=l++a :: b :: m→a.e=b.s→a.ks.map π≠b.ks.map π
section
variable {β:Type} [DecidableEq β] {π:K→β}
theorem Mx.tail {a:Sp} {V:List Sp} (h:Mx π (a :: V)):Mx π V:=⟨fun s hs=>h.ne s (aj _ hs),h.pw.of_cons,fun l x b m e=>h.mx (a :: l) x b m (by rw [e]; rfl)⟩
theorem uq (x:Bytes):cu π [] x=[]:=rfl
theorem gE {a:Sp} {V:List Sp} {x:Bytes} (h1:¬ x < a.s) (h2:x < a.e):cu π (a :: V) x=a.ks.map π:=by
 unfold cu
 rw [List.find?_cons_of_pos (show fA x a=true from aO ⟨h1,h2⟩)]
theorem jM {a:Sp} {V:List Sp} {x:Bytes} (h:¬ (¬ x < a.s∧x < a.e)):cu π (a :: V) x=cu π V x:=by
 unfold cu
 rw [List.find?_cons_of_neg (by unfold fA; simpa using h)]
theorem yN {V:List Sp} {x:Bytes} (h:∀ s ∈ V,x < s.s):cu π V x=[]:=by
 unfold cu
 have:V.find? (fA x)=none:=List.find?_eq_none.2 fun s hs=>by
  unfold fA
  rw [decide_eq_true_eq]
  exact fun hh=>hh.1 (h s hs)
 rw [this]
theorem sW {V:List Sp} {x:Bytes} (h:cu π V x≠[]):∃ s ∈ V,¬ x < s.s∧x < s.e∧cu π V x=s.ks.map π:=by
 unfold cu at h ⊢
 cases hf:V.find? (fA x) with
 | none=>rw [hf] at h; exact absurd rfl h
 | some s =>
  have:=List.find?_some hf
  unfold fA at this
  rw [decide_eq_true_eq] at this
  exact ⟨s,List.mem_of_find?_eq_some hf,this.1,this.2,rfl⟩
theorem Mx.after {a:Sp} {V:List Sp} (h:Mx π (a :: V)) {x:Bytes} (hx:x < a.e):cu π V x=[] :=
 yN fun _ hs=>cJ hx (bF h.pw hs)
theorem kL {l:List K} (h:l≠[]):l.map π≠[]:=by simpa using h
theorem EP {a b:Sp} {V W:List Sp} (hV:Mx π (a :: V)) (hW:Mx π (b :: W)) (hf:∀ x,cu π (a :: V) x=cu π (b :: W) x) (hs:a.s=b.s) (hk:a.ks.map π=b.ks.map π):¬ a.e < b.e:=fun hlt=>by
 have ha:=hV.ne a aR
 have e:=hf a.e
 rw [gE (by rw [← hs]; exact gT ha.1) hlt,jM (fun h=>bU _ h.2)] at e
 obtain ⟨c,hc,h1,h2,h3⟩:=sW (V:=V) (x:=a.e) (by rw [e]; exact kL (hW.ne b aR).2)
 cases V with
 | nil=>simp at hc
 | cons d V =>
  have hd:=hV.ne d (by simp)
  have hda:¬ d.s < a.e:=bF hV.pw aR
  have hdc:¬ c.s < d.s:=by
   rcases ak.1 hc with rfl | hc
   ·exact bU _
   ·have:=bF hV.tail.pw hc
    exact fun h=>this (List.lt_trans h hd.1)
  have hae:a.e=d.s:=by
   refine eE (fun h=>h1 (cJ h hdc)) hda
  have:cu π (d :: V) a.e=d.ks.map π:=gE (by rw [hae]; exact bU _) (by rw [hae]; exact hd.1)
  exact hV.mx [] a d V rfl hae (by rw [hk,← e,this])
def E6 (π:K→β) (s:Sp):Bytes × Bytes × List β:=(s.s,s.e,s.ks.map π)
theorem HE {a b:Sp} (h1:a.s=b.s) (h2:a.e=b.e) (h3:a.ks.map π=b.ks.map π):E6 π a=E6 π b:=by unfold E6; rw [h1,h2,h3]
theorem CG (V W:List Sp) (hV:Mx π V) (hW:Mx π W) (hf:∀ x,cu π V x=cu π W x):V.map (E6 π)=W.map (E6 π):=by
 induction V generalizing W with
 | nil =>
  cases W with
  | nil=>rfl
  | cons b W =>
   have hb:=hW.ne b aR
   have:=hf b.s
   rw [gE (bU _) hb.1,uq] at this
   exact absurd this.symm (kL hb.2)
 | cons a V ih =>
  cases W with
  | nil =>
   have hb:=hV.ne a aR
   have:=hf a.s
   rw [gE (bU _) hb.1,uq] at this
   exact absurd this (kL hb.2)
  | cons b W =>
   have ha:=hV.ne a aR
   have hb:=hW.ne b aR
   have first:∀ {c:Sp} {U:List Sp},Mx π (c :: U)→∀ {x},cu π (c :: U) x≠[]→¬ x < c.s:=by
    intro c U hU x hx
    obtain ⟨s,hs,h1,h2,_⟩:=sW hx
    rcases ak.1 hs with rfl | hs
    ·exact h1
    ·have h3:=bF hU.pw hs
     have h4:=(hU.ne c aR).1
     intro h5
     exact h1 (cJ (List.lt_trans h5 h4) h3)
   have hs:a.s=b.s:=by
    refine eE (first hW ?_) (first hV ?_)
    ·rw [← hf,gE (bU _) ha.1]; exact kL ha.2
    ·rw [hf,gE (bU _) hb.1]; exact kL hb.2
   have hk:a.ks.map π=b.ks.map π:=by
    have:=hf a.s
    rwa [gE (bU _) ha.1,hs,gE (bU _) hb.1] at this
   have he:a.e=b.e:=eE (EP hV hW hf hs hk) (EP hW hV (fun x=>(hf x).symm) hs.symm hk.symm)
   rw [List.map_cons,List.map_cons,HE hs he hk]
   congr 1
   refine ih W hV.tail hW.tail fun x => ?_
   by_cases hx:x < a.e
   ·rw [hV.after hx,hW.after (he ▸ hx)]
   ·have:=hf x
    rwa [jM (fun h=>hx h.2),jM (fun h=>hx (he ▸ h.2))] at this
def eu (V:List Sp):List Sp:=V.filter fun s=>decide (s.ks≠[])
theorem Am {G:List Sp} (hw:Wf G):Mx π (eu (Vw π G)):=by
 have hv:=uo (π:=π) hw
 have hp:(Vw π G).Pairwise fun a b=>¬ b.s < a.e:=by
  rw [bA]
  intro i j hi hj hij
  have:=hv.2 i j hij hj
  rw [aG (Vw π G) i hi,aG (Vw π G) j hj] at this
  grind
 have hne:∀ s ∈ Vw π G,s.s < s.e:=fun s hs=>by
  obtain ⟨i,hi,rfl⟩:=aV hs
  have:=hv.1 i hi
  rwa [aG (Vw π G) i hi] at this
 refine ⟨fun s hs => ?_,hp.filter _,fun l a b m e hab hk => ?_⟩
 ·have:=aN.1 hs
  exact ⟨hne s this.1,of_decide_eq_true this.2⟩
 ·
  have hsub:∃ p,p+1 < (Vw π G).length∧(Vw π G)[p]! = a∧(Vw π G)[p+1]! = b:=by
   have hma:a ∈ eu (Vw π G):=by rw [e]; simp
   have hmb:b ∈ eu (Vw π G):=by rw [e]; simp
   obtain ⟨i,hi,ei⟩:=aV (aN.1 hma).1
   obtain ⟨j,hj,ej⟩:=aV (aN.1 hmb).1
   have ha:=hne a (aN.1 hma).1
   have hb:=hne b (aN.1 hmb).1
   have hpi:=bA.1 hp
   have hij:i < j:=by
    rcases cz i j with h | h | h
    ·exact h
    ·subst h
     rw [ei] at ej
     subst ej
     rw [hab] at ha
     exact absurd ha (bU _)
    ·have:=hpi j i hj hi h
     rw [ei,ej] at this
     exfalso
     exact this (List.lt_trans ha (hab ▸ hb))
   refine ⟨i,by omega,by rw [aG (Vw π G) i hi]; exact ei,?_⟩
   rcases aH (i+1) j with h | h
   ·exfalso
    have h1:=hpi i (i+1) hi (by omega) (by omega)
    have h2:=hpi (i+1) j (by omega) hj h
    have h3:=hne _ (aS (by omega:i+1 < (Vw π G).length))
    rw [ei] at h1
    rw [ej,← hab] at h2
    exact h1 (cJ h3 h2)
   ·obtain rfl:j=i+1:=by omega
    rw [aG (Vw π G) (i+1) hj]; exact ej
  obtain ⟨p,hp1,hpa,hpb⟩:=hsub
  rw [dt] at hp1
  have hn:=Aa (G:=G) (show p < (cr π G).length by omega)
  have h1:=eA (G:=G) (show p < (cr π G).length by omega)
  rw [kF (by omega:p < (cr π G).length)] at hpa
  rw [kF hp1] at hpb
  have hs:=gz hp1
  refine hn ⟨?_,?_,?_,?_⟩
  ·have:=(gF hp1).1; omega
  ·rw [show iG π G p - 1+1=(cr π G)[p+1]! by omega]
   rw [← hpa,← hpb] at hab
   exact hab
  ·have hka:a.ks≠[]:=of_decide_eq_true (aN.1 (show a ∈ eu (Vw π G) by rw [e]; simp)).2
   have:=l8 (π:=π) (G:=G) (p:=p) (j:=iG π G p - 1) (by omega) (by omega) (by omega)
   intro h0
   rw [h0] at this
   rw [← hpa] at hka
   exact hka (by simpa using this.symm)
  ·have:=l8 (π:=π) (G:=G) (p:=p) (j:=iG π G p - 1) (by omega) (by omega) (by omega)
   rw [this,show iG π G p - 1+1=(cr π G)[p+1]! by omega]
   rw [← hpa,← hpb] at hk
   exact hk
theorem kN {V:List Sp} (hw:Wf V) {j:Nat} {x:Bytes} (hj:j < V.length) (h1:¬ x < V[j]!.s) (h2:x < V[j]!.e):cu π V x=V[j]!.ks.map π:=by
 unfold cu
 cases hf:V.find? (fA x) with
 | none =>
  have:=List.find?_eq_none.1 hf V[j]! (by rw [aG V j hj]; exact aS hj)
  unfold fA at this
  rw [decide_eq_true_eq] at this
  exact absurd ⟨h1,h2⟩ this
 | some s =>
  have h3:=List.find?_some hf
  unfold fA at h3
  rw [decide_eq_true_eq] at h3
  obtain ⟨i,hi,e⟩:=aV (List.mem_of_find?_eq_some hf)
  have hij:i=j:=by
   rcases cz i j with h | h | h
   ·have:=hw.2 i j h hj
    rw [aG V i hi,e] at this
    exact absurd (cJ h3.2 (by grind)) h1
   ·exact h
   ·have:=hw.2 j i h hi
    rw [aG V i hi,e] at this
    exact absurd (cJ h2 (by grind)) h3.1
  subst hij
  rw [aG V i hi,e]
theorem lC {V:List Sp} {x:Bytes} (h:∀ j,j < V.length→¬ (¬ x < V[j]!.s∧x < V[j]!.e)):cu π V x=[]:=by
 unfold cu
 have:V.find? (fA x)=none:=List.find?_eq_none.2 fun s hs=>by
  obtain ⟨j,hj,e⟩:=aV hs
  have:=h j hj
  rw [aG V j hj,e] at this
  unfold fA
  rw [decide_eq_true_eq]
  exact this
 rw [this]
theorem HF {G:List Sp} (hw:Wf G) {p:Nat} (hp:p < (cr π G).length) {x:Bytes} (h1:¬ x < G[(cr π G)[p]!]!.s) (h2:x < G[iG π G p - 1]!.e):∃ j,(cr π G)[p]! ≤ j∧j < iG π G p∧¬ x < G[j]!.s∧x < G[j]!.e:=by
 have hg:=eA hp
 have aux:∀ m,(cr π G)[p]! + m < iG π G p→(x < G[(cr π G)[p]! + m]!.e)→∃ j,(cr π G)[p]! ≤ j∧j < iG π G p∧¬ x < G[j]!.s∧x < G[j]!.e:=by
  intro m
  induction m with
  | zero=>intro h3 h4; exact ⟨(cr π G)[p]!,aD _,by omega,h1,h4⟩
  | succ m ih =>
   intro h3 h4
   by_cases h5:x < G[(cr π G)[p]! + m]!.e
   ·exact ih (by omega) h5
   ·have hj:=uP hp (j:=(cr π G)[p]! + m) (by omega) (by omega)
    refine ⟨(cr π G)[p]! + (m+1),by omega,h3,?_,h4⟩
    rw [show (cr π G)[p]! + (m+1)=(cr π G)[p]! + m+1 by omega,← hj.2.1]
    exact h5
 refine aux (iG π G p - 1 - (cr π G)[p]!) (by omega) ?_
 rw [show (cr π G)[p]! + (iG π G p - 1 - (cr π G)[p]!)=iG π G p - 1 by omega]
 exact h2
theorem pP {G:List Sp} (hw:Wf G) (x:Bytes):cu π (Vw π G) x=cu π G x:=by
 by_cases h:∃ p,p < (cr π G).length∧¬ x < G[(cr π G)[p]!]!.s∧x < G[iG π G p - 1]!.e
 ·obtain ⟨p,hp,h1,h2⟩:=h
  obtain ⟨j,h3,h4,h5,h6⟩:=HF hw hp h1 h2
  have hv:=kF hp
  have hg:=eA hp
  rw [kN (uo hw) (j:=p) (by rw [dt]; exact hp) (by rw [hv]; exact h1) (by rw [hv]; exact h2),kN hw (j:=j) (by omega) h5 h6,hv,l8 hp h3 h4]
 ·rw [lC,lC]
  ·intro j hj hh
   obtain ⟨p,hp,h3,h4⟩:=Gw (π:=π) hj
   have hg:=eA hp
   refine h ⟨p,hp,fun h5 => ?_,?_⟩
   ·refine hh.1 (cJ h5 ?_)
    rcases aH (cr π G)[p]! j with h6 | h6
    ·have a:=hw.2 _ _ h6 hj
     have b:=hw.1 _ (gF hp).1
     exact fun h7=>by exact absurd (List.lt_trans h7 b) (by grind)
    ·rw [show (cr π G)[p]! = j by omega]; exact bU _
   ·have:=hw.ends (i:=j) (j:=iG π G p - 1) (by omega) (by omega)
    exact cJ hh.2 (by grind)
  ·intro j hj hh
   rw [dt] at hj
   rw [kF hj] at hh
   exact h ⟨j,hj,hh⟩
theorem nx {V:List Sp} (hw:Wf V) (x:Bytes):cu π (eu V) x=cu π V x:=by
 by_cases h:∃ j,j < V.length∧¬ x < V[j]!.s∧x < V[j]!.e
 ·obtain ⟨j,hj,h1,h2⟩:=h
  rw [kN hw hj h1 h2]
  unfold cu
  cases hf:(eu V).find? (fA x) with
  | none =>
   simp only
   have hk:V[j]!.ks=[]:=Classical.byContradiction fun hk=>by
    have:=List.find?_eq_none.1 hf V[j]! (aN.2 ⟨by rw [aG V j hj]; exact aS hj,aO hk⟩)
    unfold fA at this
    rw [decide_eq_true_eq] at this
    exact this ⟨h1,h2⟩
   rw [hk]
   rfl
  | some s =>
   have h3:=List.find?_some hf
   unfold fA at h3
   rw [decide_eq_true_eq] at h3
   have hm:=(aN.1 (List.mem_of_find?_eq_some hf)).1
   obtain ⟨i,hi,e⟩:=aV hm
   have h4:=kN (π:=π) hw hi (x:=x) (by rw [aG V i hi,e]; exact h3.1) (by rw [aG V i hi,e]; exact h3.2)
   rw [kN hw hj h1 h2,aG V i hi,e] at h4
   exact h4.symm
 ·rw [lC (V:=V) fun j hj hh=>h ⟨j,hj,hh⟩]
  unfold cu
  have:(eu V).find? (fA x)=none:=List.find?_eq_none.2 fun s hs=>by
   obtain ⟨j,hj,e⟩:=aV (aN.1 hs).1
   unfold fA
   rw [decide_eq_true_eq]
   intro hh
   exact h ⟨j,hj,by rw [aG V j hj,e]; exact hh⟩
  rw [this]
theorem wF {G H:List Sp} (hG:Wf G) (hH:Wf H) (h:∀ x,cu π G x=cu π H x):(eu (Vw π G)).map (E6 π)=(eu (Vw π H)).map (E6 π) :=
 CG _ _ (Am hG) (Am hH) fun x=>by rw [nx (uo hG),nx (uo hH),pP hG,pP hH,h]
end
theorem Fi {V W:List Sp} (h:V.map (E6 K.sv)=W.map (E6 K.sv)):V.map cR=W.map cR:=by
 have e:∀ V:List Sp,V.map cR=(V.map (E6 K.sv)).map fun x=>(⟨x.1,x.2.1,x.2.2.map eF⟩:Sp):=fun V=>by
  rw [cl]; rfl
 rw [e,e,h]
theorem yO {G H:List Sp} (hG:Wf G) (hH:Wf H) (h:∀ x,cu K.sv G x=cu K.sv H x):(eu (Vw K.sv G)).map cR=(eu (Vw K.sv H)).map cR:=Fi (wF hG hH h)
end Go.E
end
section
namespace Go.E
open Go Go.Sort Go.Proofs
def iD (l:List Sp) (x:Bytes):List K:=l.flatMap fun s=>if fA x s then s.ks else []
theorem jZ {x:Bytes} {s:Sp}:fA x s=true↔¬ x < s.s∧x < s.e:=by unfold fA; rw [decide_eq_true_eq]
theorem HG {L:List Sp} (h:Wf L) {x:Bytes} {j:Nat} (hj:j < L.length):fA x L[j]! = true↔cE L x=2 * j+1:=by
 have b0:eg L (2 * j)=L[j]!.s:=by unfold eg; rw [if_pos (by omega),show 2 * j / 2=j by omega]
 have b1:eg L (2 * j+1)=L[j]!.e:=by unfold eg; rw [if_neg (by omega),show (2 * j+1) / 2=j by omega]
 have c0:=xk h (x:=x) (by omega:2 * j < 2 * L.length)
 have c1:=xk h (x:=x) (by omega:2 * j+1 < 2 * L.length)
 rw [b0] at c0
 rw [b1] at c1
 rw [jZ,← c0]
 constructor
 ·rintro ⟨h1,h2⟩
  have:¬ 2 * j+1 < cE L x:=fun h3=>c1.1 h3 h2
  omega
 ·intro h1
  refine ⟨by omega,Classical.byContradiction fun h2 => ?_⟩
  have:=c1.2 h2
  omega
theorem ER {L:List Sp} (h:Wf L) (x:Bytes):iD L x=if cE L x % 2=1 then L[cE L x / 2]!.ks else []:=by
 obtain ⟨c,hc⟩:∃ c,c=cE L x:=⟨_,rfl⟩
 have hle:=Dd L x
 rw [← hc] at hle ⊢
 have key:∀ (A:List Sp) (o:Nat),(∀ j,j < A.length→o+j < L.length∧A[j]! = L[o+j]!)→iD A x=if c % 2=1∧o≤c / 2∧c / 2 < o+A.length then L[c / 2]!.ks else []:=by
  intro A
  induction A with
  | nil =>
   intro o _
   rw [if_neg (by simp only [List.length_nil]; omega)]
   rfl
  | cons a A ih =>
   intro o hA
   have h0:=hA 0 (by simp)
   have hx:a=L[o]! := by simpa using h0.2
   have ih:=ih (o+1) fun j hj=>by
    have:=hA (j+1) (by simp only [ag]; omega)
    rw [show o+(j+1)=o+1+j by omega] at this
    refine ⟨this.1,?_⟩
    rw [← this.2,aG A j hj,aG (a :: A) (j+1) (by simp only [ag]; omega)]
    rfl
   show (if fA x a then a.ks else [])++iD A x=_
   rw [ih,hx]
   have hc1:=HG h (x:=x) (j:=o) (by omega)
   rw [← hc] at hc1
   by_cases hco:c=2 * o+1
   ·rw [if_pos (hc1.2 hco),if_neg (by omega),if_pos (by simp only [ag]; omega),au,show c / 2=o by omega]
   ·rw [if_neg (fun h=>hco (hc1.1 h)),List.nil_append]
    by_cases h5:c % 2=1∧o+1≤c / 2∧c / 2 < o+1+A.length
    ·rw [if_pos h5,if_pos (by simp only [ag]; omega)]
    ·rw [if_neg h5,if_neg (by simp only [ag]; omega)]
 have:=key L 0 fun j hj=>⟨by omega,by rw [Nat.zero_add]⟩
 rw [this]
 by_cases h5:c % 2=1
 ·rw [if_pos (by omega),if_pos h5]
 ·rw [if_neg (by omega),if_neg h5]
theorem lD (a b:List Sp) (x:Bytes):iD (a++b) x=iD a x++iD b x:=by unfold iD; rw [cV]
theorem yP (Lv:List (List Sp)) (x:Bytes):iD Lv.flatten x=Lv.flatMap fun L=>iD L x:=by
 induction Lv with
 | nil=>rfl
 | cons L Lv ih=>rw [List.flatten_cons,lD,ih,bj]
theorem td {α β:Type} [Inhabited α] (l:List α) (f:α→List β):(List.range l.length).flatMap (fun i=>f l[i]!)=l.flatMap f:=by
 induction l with
 | nil=>rfl
 | cons a l ih =>
  rw [ag,List.range_succ_eq_map,bj,List.flatMap_map,bj,← ih]
  rfl
section
variable {Lv:List (List Sp)} {snap:Nat}
theorem mG (h:∀ L ∈ Lv,Wf L) (x:Bytes) (u:Nat) (hu:∀ i,i < Lv.length→cp (de Lv) (bH Lv.flatten) u i=cE (de Lv i) x):cM Lv.length (de Lv) (bH Lv.flatten) u=iD Lv.flatten x:=by
 rw [yP,← td]
 unfold cM
 refine pJ fun i hi => ?_
 rw [List.mem_range] at hi
 rw [hu i hi]
 have:Wf Lv[i]! := by rw [aG Lv i hi]; exact h _ (aS hi)
 rw [ER this]
 rfl
theorem ES (h:∀ L ∈ Lv,Wf L) {u:Nat} (h0:0 < u):cM Lv.length (de Lv) (bH Lv.flatten) u=iD Lv.flatten (bH Lv.flatten)[u - 1]! :=
 mG h _ u fun i _=>by unfold cp; rw [if_neg (by omega)]
theorem zq (h:∀ L ∈ Lv,Wf L):cM Lv.length (de Lv) (bH Lv.flatten) 0=[]:=by
 unfold cM
 refine List.flatMap_eq_nil_iff.2 fun i hi => ?_
 rw [if_neg (by unfold cp; simp)]
theorem JC (h:∀ L ∈ Lv,Wf L) (hc:∀ x,Cd (iD Lv.flatten x)) (u:Nat):Cd (cM Lv.length (de Lv) (bH Lv.flatten) u):=by
 rcases bB u with rfl | h0
 ·rw [zq h]; exact ⟨.nil,by simp⟩
 ·rw [ES h h0]; exact hc _
theorem HH:Tf snap []=[]:=by unfold Tf; simp
theorem ur {β:Type} [DecidableEq β] {π:K→β} {F:List K→List K} (hF0:F []=[]) (h:∀ L ∈ Lv,Wf L) (x:Bytes):cu π (GL F Lv.length (de Lv) (bH Lv.flatten)) x=(F (iD Lv.flatten x)).map π:=by
 have hB:=iS h
 obtain ⟨B,hBe⟩:∃ B,B=bH Lv.flatten:=⟨_,rfl⟩
 have hf:=mG h x (uE B x) (by rw [← hBe]; rw [← hBe] at hB; exact fun i hi=>Dp hB hi x)
 rw [← hBe] at hB hf ⊢
 have hu:=Ac B x
 cases hcv:py Lv.length (de Lv) B (uE B x) with
 | true =>
  have hc:=nt hB hu hcv
  obtain ⟨j,hj,ej⟩:=aV (eJ.2 ⟨hu,hcv⟩)
  have e':(cP Lv.length (de Lv) B)[j]? = some (uE B x):=by rw [aC hj,ej]
  have hg:=ji (F:=F) e'
  have h1:=(qf hB (key:=x) (j:=uE B x - 1) (by omega)).1 (by omega)
  have h2:x < B[uE B x]! := Classical.byContradiction fun h3=>by
   have:=(qf hB (key:=x) (j:=uE B x) hc.2).2 h3
   omega
  rw [kN (uR hB) (j:=j) (by rw [cX]; exact hj) (by rw [hg]; exact h1) (by rw [hg]; exact h2),hg,← hf]
  rfl
 | false =>
  have h0:cM Lv.length (de Lv) B (uE B x)=[]:=by
   unfold cM
   refine List.flatMap_eq_nil_iff.2 fun i hi => ?_
   rw [if_neg fun h1 => ?_]
   rw [ma.2 ⟨i,List.mem_range.1 hi,h1⟩] at hcv
   cases hcv
  rw [← hf,h0,hF0,lC fun j hj hh => ?_]
  ·rfl
  ·rw [cX] at hj
   have e:(cP Lv.length (de Lv) B)[j]? = some (cP Lv.length (de Lv) B)[j]:=aC hj
   obtain ⟨u,hue⟩:∃ u,u=(cP Lv.length (de Lv) B)[j]:=⟨_,rfl⟩
   rw [← hue] at e
   have hm:=eJ.1 (aJ e)
   have hc:=nt hB hm.1 hm.2
   rw [ji e] at hh
   have h1:=(qf hB (key:=x) (j:=u - 1) (by omega)).2 hh.1
   have h2:¬ u < uE B x:=fun h3=>(qf hB (key:=x) (j:=u) hc.2).1 h3 hh.2
   have:uE B x=u:=by omega
   rw [this,hm.2] at hcv
   cases hcv
theorem ET (h:∀ L ∈ Lv,Wf L) (x:Bytes):cu K.sv (GL (Tf snap) Lv.length (de Lv) (bH Lv.flatten)) x=(Tf snap (iD Lv.flatten x)).map K.sv:=ur HH h x
end
end Go.E
end
section
namespace Go.E
open Go Go.Sort Go.Proofs
def Ch (V:List Sp):Prop:=(∀ s ∈ V,s.s < s.e)∧V.Pairwise fun a b=>¬ b.s < a.e
theorem sX {V:List Sp}:Wf V↔Ch V:=by
 unfold Wf Ch
 rw [bA]
 constructor
 ·rintro ⟨h1,h2⟩
  refine ⟨fun s hs => ?_,fun i j hi hj hij => ?_⟩
  ·obtain ⟨j,hj,rfl⟩:=aV hs
   have:=h1 j hj
   rwa [aG V j hj] at this
  ·have:=h2 i j hij hj
   rw [aG V i hi,aG V j hj] at this
   grind
 ·rintro ⟨h1,h2⟩
  refine ⟨fun i hi => ?_,fun i j hij hj => ?_⟩
  ·rw [aG V i hi]; exact h1 _ (aS hi)
  ·have:=h2 i j (by omega) hj hij
   rw [aG V i (by omega),aG V j hj]
   grind
end Go.E
end
section
namespace Go.E
open Go Go.Sort Go.Proofs
def H6 (V:List Sp) (o:Option Int):Option Nat:=match o with
 | some p=>if 0≤p∧p < V.length then some p.toNat else none
 | none=>none
theorem zr {V:List Sp} {p:Nat} (h:p < V.length):H6 V (some (p:Int))=some p:=(if_pos ⟨by omega,by omega⟩).trans (by simp)
theorem wG {V:List Sp} {p:Int} (h:¬ (0≤p∧p < V.length)):H6 V (some p)=none:=if_neg h
theorem sY (V:List Sp) (p:Int) {last:Nat} (hl:last≠5∧last≠3) (m:Nat):(qE V p false last (List.replicate m (2,[]))).filterMap (H6 V)=[]:=by
 induction m with
 | zero=>rfl
 | succ m ih =>
  rw [List.replicate_succ]
  unfold qE
  have:ug 2 false last=false:=by simp [ug,hl]
  rw [this,if_neg (by simp)]
  exact ih
theorem zt (V:List Sp) {last:Nat} (m p:Nat) (hp:p < V.length) (hm:V.length≤p+m+1):(qE V p true last (List.replicate m (2,[]))).filterMap (H6 V)=List.range' (p+1) (V.length - (p+1)):=by
 induction m generalizing p last with
 | zero =>
  rw [show V.length - (p+1)=0 by omega]
  rfl
 | succ m ih =>
  rw [List.replicate_succ]
  unfold qE
  have:ug 2 true last=true:=by simp [ug]
  rw [this,if_pos rfl]
  have hmv:mv V p 2 []=((p+1:Nat):Int):=by simp [mv]
  rw [hmv]
  rcases aH (p+1) V.length with h | h
  ·have hi:Bv V ((p+1:Nat):Int)=true:=aO (by omega)
   rw [hi,List.filterMap_cons,zr h,ih (p+1) h (by omega)]
   simp only
   rw [show V.length - (p+1)=V.length - (p+1+1)+1 by omega,List.range'_succ]
  ·have hi:Bv V ((p+1:Nat):Int)=false:=aF (by omega)
   rw [hi,List.filterMap_cons,wG (by omega),sY V _ (by decide)]
   rw [show V.length - (p+1)=0 by omega]
   rfl
theorem CH (V:List Sp) (m:Nat) (hm:V.length≤m+1):(qE V (-2) false 0 ((0,[]) :: List.replicate m (2,[]))).filterMap (H6 V)=List.range V.length:=by
 unfold qE
 have:ug 0 false 0=true:=rfl
 rw [this,if_pos rfl]
 have hmv:mv V (-2) 0 []=((0:Nat):Int):=rfl
 rw [hmv]
 rcases bB V.length with h | h
 ·have hi:Bv V ((0:Nat):Int)=false:=aF (by omega)
  rw [hi,List.filterMap_cons,wG (by omega),sY V _ (by decide),h]
  rfl
 ·have hi:Bv V ((0:Nat):Int)=true:=aO (by omega)
  rw [hi,List.filterMap_cons,zr h,zt V m 0 h (by omega)]
  simp only
  rw [List.range_eq_range',← List.range'_succ,show V.length - (0+1)+1=V.length by omega]
def mH (l:List An):List Sp:=(l.filter fun a=>a.ok).map An.sp
theorem EU {V:List Sp} {KS:List K→Prop} {outs:List (Option Int)} {l:List An} (h:Pw (mz V (E1 KS)) outs l):(mH l).map cR=((outs.filterMap (H6 V)).map fun p=>cR V[p]!)∧∀ s ∈ mH l,KS s.ks:=by
 induction outs generalizing l with
 | nil =>
  obtain rfl:l=[]:=ao.1 h.1.symm
  exact ⟨rfl,by simp [mH]⟩
 | cons o outs ih =>
  cases l with
  | nil=>simp [Pw] at h
  | cons a l =>
   have hp:Pw (mz V (E1 KS)) outs l:=⟨by simpa using h.1,fun i x y hx hy=>h.2 (i+1) x y (by simpa using hx) (by simpa using hy)⟩
   obtain ⟨i1,i2⟩:=ih hp
   have ha:mz V (E1 KS) o a:=h.2 0 o a rfl rfl
   unfold mH at i1 i2 ⊢
   cases o with
   | none =>
    have ha:a=⟨false,false,⟨[],[],[]⟩⟩:=ha
    rw [ha,List.filter_cons_of_neg (by simp),List.filterMap_cons]
    exact ⟨i1,i2⟩
   | some p =>
    obtain ⟨h1,h2,h3,h4⟩:=ha
    by_cases hin:0≤p∧p < V.length
    ·have hv:Bv V p=true:=aO hin
     rw [hv] at h2
     obtain ⟨q,rfl⟩:∃ q:Nat,p=q:=⟨p.toNat,by omega⟩
     obtain ⟨e1,e2,e3,e4⟩:=h3 q rfl (by omega)
     rw [List.filter_cons_of_pos h2,List.filterMap_cons,zr (by omega)]
     simp only [List.map_cons]
     refine ⟨by rw [i1,EO e1 e2 e3],fun s hs => ?_⟩
     rcases ak.1 hs with rfl | hs
     ·exact e4
     ·exact i2 s hs
    ·have hv:Bv V p=false:=aF hin
     rw [hv] at h2
     rw [List.filter_cons_of_neg (by simp [h2]),List.filterMap_cons,wG hin]
     exact ⟨i1,i2⟩
theorem wH (V:List Sp):(List.range V.length).map (fun p=>cR V[p]!)=V.map cR:=by
 refine List.ext_getElem (by simp) fun i h1 h2 => ?_
 rw [iV,iV,List.getElem_range,aG V i (by simpa using h2)]
end Go.E
end
section
namespace Go.E
open Go Go.Sort Go.Proofs
def mI (ks:List K):Prop:=(∀ x ∈ ks,(an x.tr=19∨an x.tr=20∨an x.tr=21)∧(an x.tr=19→x.suf=[])∧(an x.tr≠21→x.val=[])) ∧
 ks.Pairwise fun x k=>¬ x.tr < k.tr∧¬ (x.tr / 256=k.tr / 256∧x.suf=k.suf∧(an k.tr=19↔an x.tr=19))
theorem mI.cd {ks:List K} (h:mI ks):Cd ks:=by
 refine ⟨h.2.imp fun {x y} hxy e e2=>hxy.2 ⟨by rw [e2],e,by rw [e2]⟩,fun x hx=>(h.1 x hx).1⟩
theorem Cd.perm {a b:List K} (h:Cd a) (p:a.Perm b):Cd b:=⟨(List.Perm.pairwise_iff (fun {x y} h e e2=>h e.symm e2.symm) p).1 h.dist,fun x hx=>h.kind x (p.mem_iff.2 hx)⟩
structure LvOk (Lv:List (List Sp)) (n:Nat):Prop where
 n6:Lv.length≤6
 sz:∀ L ∈ Lv,L.length≤n
 wf:∀ L ∈ Lv,Wf L
 ks:∀ L ∈ Lv,∀ s ∈ L,s.ks≠[]∧s.ks.length≤40
 rk:∀ f ∈ dq Lv.flatten,mI f.ks
theorem mJ (b:List Bytes) (x:Bytes):(jY b x).length≤b.length+1:=by
 unfold jY
 split
 ·omega
 ·rw [yI]; exact aD _
theorem eT (l:List Sp):(bH l).length≤2 * l.length:=by
 have aux:∀ (l:List Sp) (b:List Bytes),(l.foldl (fun b s=>jY (jY b s.s) s.e) b).length≤b.length+2 * l.length:=by
  intro l
  induction l with
  | nil=>exact fun b=>aD _
  | cons s l ih =>
   intro b
   rw [List.foldl_cons,ag]
   have h1:=ih (jY (jY b s.s) s.e)
   have h2:=mJ b s.s
   have h3:=mJ (jY b s.s) s.e
   omega
 have:=aux l []
 simpa [bH] using this
theorem eU {α:Type} {Lv:List (List α)} {n:Nat} (h:∀ L ∈ Lv,L.length≤n):Lv.flatten.length≤Lv.length * n:=by
 induction Lv with
 | nil=>simp
 | cons L Lv ih =>
  have h1:=h L aR
  have h2:=ih fun L hL=>h L (aj _ hL)
  rw [List.flatten_cons,aM,ag,Nat.add_mul]
  omega
section
variable {Lv:List (List Sp)} {n:Nat}
theorem LvOk.cd (h:LvOk Lv n) (x:Bytes):Cd (iD Lv.flatten x):=by
 have hB:=iS h.wf
 have hf:=mG h.wf x (uE (bH Lv.flatten) x) fun i hi=>Dp hB hi x
 rw [← hf]
 cases hcv:py Lv.length (de Lv) (bH Lv.flatten) (uE (bH Lv.flatten) x) with
 | true =>
  have hm:(⟨(bH Lv.flatten)[uE (bH Lv.flatten) x - 1]!,(bH Lv.flatten)[uE (bH Lv.flatten) x]!,cH (cM Lv.length (de Lv) (bH Lv.flatten) (uE (bH Lv.flatten) x))⟩:Sp) ∈ dq Lv.flatten:=by
   rw [pM h.wf fun L hL s hs=>(h.ks L hL s hs).1,bV]
   exact ⟨_,eJ.2 ⟨Ac _ _,hcv⟩,rfl⟩
  exact (h.rk _ hm).cd.perm (cT _)
 | false =>
  have h0:cM Lv.length (de Lv) (bH Lv.flatten) (uE (bH Lv.flatten) x)=[]:=by
   unfold cM
   refine List.flatMap_eq_nil_iff.2 fun i hi => ?_
   rw [if_neg fun h1 => ?_]
   rw [ma.2 ⟨i,List.mem_range.1 hi,h1⟩] at hcv
   cases hcv
  rw [h0]
  exact ⟨.nil,by simp⟩
theorem pQ {Lv:List (List Sp)} {m:Nat} (h:∀ L ∈ Lv,∀ s ∈ L,s.ks.length≤m) (B:List Bytes) (u:Nat):(cM Lv.length (de Lv) B u).length≤Lv.length * m:=by
 unfold cM
 have:∀ l:List Nat,(∀ i ∈ l,i < Lv.length)→(l.flatMap fun i=>if cp (de Lv) B u i % 2=1 then (de Lv i)[cp (de Lv) B u i / 2]!.ks else []).length≤l.length * m:=by
  intro l
  induction l with
  | nil=>intro _; simp
  | cons i l ih =>
   intro hl
   have hi:=hl i aR
   have:=ih fun j hj=>hl j (aj _ hj)
   rw [bj,aM,ag,Nat.add_mul]
   have hh:(if cp (de Lv) B u i % 2=1 then (de Lv i)[cp (de Lv) B u i / 2]!.ks else []).length≤m:=by
    split
    ·have hL:de Lv i ∈ Lv:=by unfold de; rw [aG Lv i hi]; exact aS hi
     have hlt:cp (de Lv) B u i / 2 < (de Lv i).length:=by have:=jS (L:=de Lv) (B:=B) u i; omega
     rw [aG (de Lv i) _ hlt]
     exact h _ hL _ (aS hlt)
    ·exact aQ _
   omega
 simpa using this (List.range Lv.length) fun i hi=>List.mem_range.1 hi
theorem wI (G:List Sp):(Vw K.sv G).length≤G.length:=by
 rw [dt]
 unfold cr
 exact aU (az _ _) (by simp)
theorem yQ (Lv:List (List Sp)) (snap:Nat):(Vw K.sv (GL (Tf snap) Lv.length (de Lv) (bH Lv.flatten))).length≤2 * Lv.flatten.length+1:=by
 refine aU (wI _) ?_
 rw [cX]
 unfold cP
 refine aU (az _ _) ?_
 rw [List.length_range]
 have:=eT Lv.flatten
 omega
end
end Go.E
end
section
namespace Go.E
open Go Go.Sort Go.Proofs
def pR (d:World) (C:Nat):Prop:=d.cell? ⟨C,0,none⟩=some (.func (.func 102) #[] #[])∧d.cell? ⟨C,1,none⟩=some (.func (.func 103) #[] #[])∧d.cell? ⟨C,5,none⟩=some .nilFunc
structure BfOk (d w:World) (Bf:Nat):Prop where
 c:∀ x,x=0∨x=1∨4≤x∧x≤8∨x=10→w.cell? ⟨Bf,x,none⟩=some (.slice none 0 0)
 c2:w.cell? ⟨Bf,2,none⟩=some .nilFunc
 c3:w.cell? ⟨Bf,3,none⟩=some (.bool false)
 c9:w.cell? ⟨Bf,9,none⟩=some .nilFunc
 f:∀ x,w.frozen? ⟨Bf,x,none⟩=false
 o:cq d Bf
structure UOk (d w:World) (U:Nat):Prop where
 c:∀ x,x < 95→∃ u,w.cell? ⟨U,x,none⟩=some u
 f:∀ x,w.frozen? ⟨U,x,none⟩=false
 o:cq d U
def kO (n:Nat) (d w:World) (v:Value) (Ls:List Lvl):Prop:=Sl CA 1 d v Ls∧ItsAt n d w Ls
section
variable {d w d2 w2:World} {n:Nat} {v:Value} {Ls:List Lvl} {C U Bf:Nat}
theorem pR.gr (h:pR d C) (g:Gr d w d2 w2):pR d2 C:=⟨g.i _ _ _ h.1,g.i _ _ _ h.2.1,g.i _ _ _ h.2.2⟩
theorem BfOk.gr (h:BfOk d w Bf) (g:Gr d w d2 w2):BfOk d2 w2 Bf:=⟨fun x hx=>g.x.cell (h.c x hx),g.x.cell h.c2,g.x.cell h.c3,g.x.cell h.c9,fun x=>by rw [g.x.frozen _ x (aE h.c2)]; exact h.f x,g.o _ (aE h.c2) h.o⟩
theorem UOk.lt (h:UOk d w U):U < w.heap.size:=by obtain ⟨u,hu⟩:=h.c 0 (by omega); exact aE hu
theorem UOk.gr (h:UOk d w U) (g:Gr d w d2 w2):UOk d2 w2 U:=⟨fun x hx=>by obtain ⟨u,hu⟩:=h.c x hx; exact ⟨u,g.x.cell hu⟩,fun x=>by rw [g.x.frozen _ x h.lt]; exact h.f x,g.o _ h.lt h.o⟩
theorem kO.gr (h:kO n d w v Ls) (g:Gr d w d2 w2):kO n d2 w2 v Ls:=⟨h.1.inc CA.mono g.i,h.2.keep g.x (fun _ _ _ h=>h) g.i fun b hb ⟨x,hx,e⟩=>g.o b (by rw [← e]; exact (h.2.at_ x hx).2.2.2.2) hb⟩
structure RIn (Lv:List (List Sp)) (snap:Nat) (lo hi:Option Bytes):Prop where
 n10:Lv.length≤10
 snap:snap < 18446744073709551616
 wf:∀ L ∈ Lv,Wf L
 len:∀ L ∈ Lv,L.length < 1000∧∀ s ∈ L,s.s.length < 4294967296∧s.e.length < 4294967296∧s.ks.length < 5000∧s.ks≠[]∧∀ x ∈ s.ks,B8 x
 cd:∀ u,Cd (cM Lv.length (de Lv) (bH Lv.flatten) u)
 bd:xw lo hi
structure UQ where
 it:Bool
 F:List K→List K
 ord:Int
 β:Type
 dec:DecidableEq β
 π:K→β
abbrev UQ.k (q:UQ) (U:Nat):UK:=⟨q.it,q.F,q.ord,q.β,q.dec,q.π,JA q.it,JB q.it U⟩
instance (q:UQ):DecidableEq q.β:=q.dec
structure QC (q:UQ) (snap:Nat) (Lv:List (List Sp)):Prop where
 ti:∀ {d:World} {U Bf C:Nat},Bf≠U→cq d U→cq d Bf→d.cell? ⟨C,1,none⟩=some (.func (.func 103) #[] #[])→∃ HK,TI d U (2+4) Bf HK ((q.k U).Z d U Bf C snap)∧∀ u,HK (cM Lv.length (de Lv) (bH Lv.flatten) u)
 fs:∀ ks x,x ∈ q.F ks→x ∈ ks
 fl:∀ ks,(q.F ks).length≤ks.length
 meth:∀ {w:World} {U xb xo yb yo:Nat} {x y:Sp} {k:aq},w.cell? ⟨U,93,none⟩=some (.bool q.it)→dK q.ord w xb xo x→dK q.ord w yb yo y→x.ks≠[]→x.ks.length < 100000→(∀ w',bY w w'→k (.bool (decide (x.ks.map q.π=y.ks.map q.π))) w') →
  bu Tryz.prog (.iface (JA q.it) (JB q.it U)) "ShouldDefragment" #[.func (.func 103) #[] #[], .pointer (some ⟨xb, xo, none⟩), .pointer (some ⟨yb, yo, none⟩)] k w
abbrev qV (q:UQ) (Lv:List (List Sp)) (lo hi:Option Bytes):List Sp:=Vw q.π (GB (GL q.F Lv.length (de Lv) (bH Lv.flatten)) lo hi)
abbrev K9 (snap:Nat):UQ:=⟨false,Tf snap,1,Bytes × Bytes,inferInstance,K.sv⟩
abbrev rV (Lv:List (List Sp)) (snap:Nat) (lo hi:Option Bytes):List Sp:=Vw K.sv (GB (GL (Tf snap) Lv.length (de Lv) (bH Lv.flatten)) lo hi)
theorem Fj {snap:Nat} {Lv:List (List Sp)} (hs:snap < 18446744073709551616):QC (K9 snap) snap Lv where
 ti ne oU oB hC:=⟨_,Fc ne oU oB hC hs,fun _=>trivial⟩
 fs ks x h:=(jt.1 h).1
 fl:=B6 snap
 meth h hx hy hne hl hk:=B5 h hx hy hne hl hk
theorem ja {Ls:List Lvl} {Lv:List (List Sp)} (h:Ls.map Lvl.L=Lv):Lf Ls.toArray=de Lv:=by
 funext i
 unfold Lf de
 rw [← h]
 rcases aH i Ls.length with hi | hi
 ·rw [aG Ls.toArray i (by simpa using hi),aG (Ls.map Lvl.L) i (by simpa using hi)]
  simp
 ·rw [getElem!_neg Ls.toArray i (by simpa using hi),getElem!_neg (Ls.map Lvl.L) i (by simpa using hi)]
  rfl
theorem JD {q:UQ} {Lv:List (List Sp)} {snap:Nat} {lo hi:Option Bytes} {lov hiv:Value} (r:RIn Lv snap lo hi) (qc:QC q snap Lv) (hC:pR d C) (hB:BfOk d w Bf) (hU:UOk d w U) (hF:kO n d w v Ls) (hne:Bf≠U) (hUn:U < n) (hBI:∀ x ∈ Ls,x.I≠Bf) (hm:Ls.map Lvl.L=Lv) (hlo:OB d lov lo) (hhi:OB d hiv hi) :
    UC (q.k U) d U Bf C Ls.toArray snap (bH Lv.flatten) lov hiv lo hi:=by
 have hn:Ls.toArray.size=Lv.length:=by rw [← hm]; simp
 have hat:∀ i,i < Ls.toArray.size→Ls.toArray[i]! ∈ Ls:=fun i hi=>by rw [aG Ls.toArray i hi]; simpa using aS (by simpa using hi)
 have hL:∀ i,i < Ls.toArray.size→Ls.toArray[i]!.L ∈ Lv:=fun i hi=>by rw [← hm]; exact List.mem_map_of_mem (hat i hi)
 have hI:=hF.2
 have hl:Lv.flatten.length≤Lv.length * 1000:=eU fun L hL=>dh (r.len L hL).1
 have hb:=eT Lv.flatten
 have h10:=r.n10
 refine ⟨⟨⟨hU.o,hB.o,hne,by omega,fun i hi=>(hI.at_ _ (hat i hi)).2.2.1,fun i hi => ?_,fun i hi=>hBI _ (hat i hi),fun i hi=>(hI.at_ _ (hat i hi)).2.1,fun i hi=>r.wf _ (hL i hi),fun i hi => ?_,fun i j hi hj hij => ?_,fun i hi j hj => ?_⟩,?_,?_,?_,fun u => ?_,fun x hx => ?_⟩,by omega,r.bd,hC.1,fun i hi sp hsp x hx => ?_,qc.fs,qc.fl,qc.meth⟩
 ·have:=(hI.at_ _ (hat i hi)).2.2.2.1; omega
 ·exact Nat.lt_trans (r.len _ (hL i hi)).1 (by omega)
 ·have:=bA.1 hI.ne
  rw [aG Ls.toArray i hi,aG Ls.toArray j hj]
  simp only [List.getElem_toArray]
  rcases aH i j with h | h
  ·exact this i j (by simpa using hi) (by simpa using hj) h
  ·exact (this j i (by simpa using hj) (by simpa using hi) (by omega)).symm
 ·rw [aG _ j hj]
  exact ((r.len _ (hL i hi)).2 _ (aS hj)).2.2.2.1
 ·rw [hn,ja hm]; exact iS r.wf
 ·rw [hn,ja hm]; exact qc.ti hne hU.o hB.o hC.2.1
 ·rw [hn,ja hm]; exact r.cd
 ·rw [hn,ja hm]
  exact fR (pQ (m:=5000) (fun L hL s hs=>dh ((r.len L hL).2 s hs).2.2.1) _ u) (by omega)
 ·obtain ⟨s,hs,h⟩:=((iR _).2 x).1 hx
  obtain ⟨L,hL,hs⟩:=cQ.1 hs
  have:=(r.len L hL).2 s hs
  rcases h with rfl | rfl
  ·exact this.1
  ·exact this.2.1
 ·exact (((r.len _ (hL i hi)).2 sp hsp).2.2.2.2 x hx)
end
end Go.E
end
section
namespace Go.E
open Go Go.Sort Go.Proofs
theorem bW {c n:Nat} {g:Nat}:¬ (Value.slice none n c).ownBlock=some g:=by simp [Value.ownBlock]
abbrev LA (q:UK) (d:World) (U Bf C snap:Nat) (Ls:List Lvl):Nat→Nat→Prop:=bT U (uM q d U Bf C snap Ls.toArray)
theorem EV {q:UQ} {d w:World} {n U Bf C snap:Nat} {Ls:List Lvl} {Lv:List (List Sp)} {lov hiv v:Value} {lo hi:Option Bytes} {B:List Bytes} (hB:B=bH Lv.flatten) (hinc:bz d w) (uc:UC (q.k U) d U Bf C Ls.toArray snap B lov hiv lo hi) (m:MI0 w U 2 Bf 221 (.pointer (some ⟨U,0,none⟩)) Ls) (u:UI0 w U Bf C snap q.it (JA q.it) (JB q.it U) lov hiv) (hF:kO n d w v Ls) (hne:Bf≠U)
    (fU:∀ x,w.frozen? ⟨U,x,none⟩=false) (fB:∀ x,w.frozen? ⟨Bf,x,none⟩=false) (cB:∀ x,x=0∨5≤x∧x≤8∨x=10→w.cell? ⟨Bf,x,none⟩=some (.slice none 0 0)) (c3:w.cell? ⟨Bf,3,none⟩=some (.bool false)) (c9:w.cell? ⟨Bf,9,none⟩=some .nilFunc) (hlo:OB d lov lo) (hhi:OB d hiv hi) :
    I6 d (q.k U).Y U Bf C U 6 226 (.pointer (some ⟨U,72,none⟩)) (GB (uG (q.k U) Ls.toArray B) lo hi) (LA (q.k U) d U Bf C snap Ls) (uD (q.k U) d U Bf C snap Ls.toArray B lov hiv lo hi) w (dN (q.k U).Y U Bf (LA (q.k U) d U Bf C snap Ls) (fun _=>False) (fun _=>False)) (-2):=by
 have hat:∀ i,i < Ls.toArray.size→Ls[i]? = some Ls.toArray[i]! := fun i hi=>by rw [aG Ls.toArray i hi,List.getElem_toArray]; exact aC _
 have hS:(fun b=>(Value.slice none 0 0).ownBlock=some b)=fun _:Nat=>False:=by
  funext b
  simp [Value.ownBlock]
 have mi:uW (q.k U) d U Bf C snap Ls.toArray B w (fun _=>False) (-1):=by
  refine ⟨0,fun _ => -1,.slice none 0 0,.slice none 0 0,fun _=>False,[],[],⟨⟨m.u2,by have:=m.b1; simpa using this,fun i hi => ?_,m.u10,fU,fB,hinc⟩,⟨m.b2,⟨_,c3⟩,⟨0,by omega,m.b4⟩,fun x h1 h2=>m.it x (by omega) (by omega)⟩,
   ⟨⟨_,_,_,m.u3⟩,⟨_,_,_,m.u4⟩,m.u5,⟨_,m.u6⟩,⟨_,m.u7⟩,⟨_,m.u8⟩,⟨_,m.u9⟩,⟨_,m.u11⟩⟩,
   ⟨⟨cB 0 (by omega),eK,by simp⟩,⟨u.u0,u.u1,u.u93,u.u94,⟨_,c9⟩,.slice none 0 0,[],⟨cB 10 (by omega),eK,by simp⟩,fun g h=>(bW h).elim,hS.symm⟩,cB 5 (by omega),eK,fun g h=>(bW h).elim,fun g h=>(bW h).elim,fun g h=>h.elim,fun g h=>(bW h).elim,fun g h=>h.elim,fun g h=>h.elim,fun g h=>h.elim⟩⟩,
   aQ _,.inr (.inr ⟨rfl,rfl⟩),fun h=>by omega,.inr (.inr ⟨m.u11,fun i hi _ => ?_,rfl,m.b4⟩)⟩
  ·obtain ⟨a,b,c,e⟩:=m.lv i _ (hat i hi)
   have hI:=hF.2.at_ _ (aJ (hat i hi))
   exact ⟨a,by rw [jL (by unfold ez; omega)]; exact b,⟨_,c,rfl,fun h=>by unfold ez at h; omega⟩,⟨_,e,rfl,fun h=>by unfold ez at h; omega⟩,hI.1,by omega,fU⟩
  ·show (-1:Int)+1=((cp (Lf Ls.toArray) B 0 i:Nat):Int)
   unfold cp
   rw [if_pos rfl]
   rfl
 refine ⟨fun _=>False,fun _=>False,⟨fun _ _=>False,.slice none 0 0,.slice none 0 0,.slice none 0 0,[],[],0,[],none,0,-2,⟨⟨-1,none,0,mi,⟨u.b0,u.b1,u.b2,u.b4,u.b5,u.b6,u.b8,fU,hlo,hhi⟩,.inl rfl⟩,
  ⟨u.d.d0,u.d.d1,u.d.d2,u.d.d3,u.d.d4,u.d.d5,⟨_,u.d.d6⟩,⟨_,u.d.d7⟩,⟨_,u.d.d8⟩,⟨_,u.d.d9⟩,u.d.d10,⟨_,_,u.d.d11,rfl,rfl⟩,fU,fB⟩,
  ⟨cB 6 (by omega),eK,⟨⟨none,rfl⟩,by omega⟩,cB 7 (by omega),eK,cB 8 (by omega),eK,fun g h=>(bW h).elim,fun g h=>(bW h).elim,fun g h=>(bW h).elim,fun g h=>(bW h).elim,fun g h=>(bW h).elim,fun g h=>(bW h).elim,fun g h=>h.elim,fun b x h=>h.elim,fun g x h=>(bW h).elim,fun g x h=>(bW h).elim,fun g x h=>(bW h).elim⟩⟩,.inl rfl⟩,rfl⟩
end Go.E
end
