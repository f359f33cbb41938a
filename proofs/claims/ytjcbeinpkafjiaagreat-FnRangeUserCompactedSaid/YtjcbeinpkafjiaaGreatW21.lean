/- Parts of the proof: Vd, Ve, Vf, Vg, Vh, Xb, Xd, Xc, Xe. -/
import Derived.Test.YtjcbeinpkafjiaaGreatW19
import Derived.Test.YtjcbeinpkafjiaaGreatW20
set_option linter.all false
set_option maxRecDepth 10000
section
namespace Go.E
open Go Go.Sort Go.Proofs
def eK (x:Bytes) (s:Sp):Bool:=decide (¬ x < s.s∧x < s.e)
def eQ (V:List Sp) (x:Bytes):List SV:=match V.find? (eK x) with
 | some s=>s.ks.map K.sv
 | none=>[]
structure Mx (V:List Sp):Prop where
 ne:∀ s ∈ V,s.s < s.e∧s.ks≠[]
 pw:V.Pairwise fun a b=>¬ b.s < a.e
 mx:∀ l a b m,V=l++a :: b :: m→a.e=b.s→a.ks.map K.sv≠b.ks.map K.sv
theorem Mx.tail {a:Sp} {V:List Sp} (h:Mx (a :: V)):Mx V:=⟨fun s hs=>h.ne s (aj _ hs),h.pw.of_cons,fun l x b m e=>h.mx (a :: l) x b m (by rw [e]; rfl)⟩
theorem tw (x:Bytes):eQ [] x=[]:=rfl
theorem iv {a:Sp} {V:List Sp} {x:Bytes} (h1:¬ x < a.s) (h2:x < a.e):eQ (a :: V) x=a.ks.map K.sv:=by
 unfold eQ
 rw [List.find?_cons_of_pos (show eK x a=true from aU ⟨h1,h2⟩)]
theorem ph {a:Sp} {V:List Sp} {x:Bytes} (h:¬ (¬ x < a.s∧x < a.e)):eQ (a :: V) x=eQ V x:=by
 unfold eQ
 rw [List.find?_cons_of_neg (by unfold eK; simpa using h)]
theorem xE {V:List Sp} {x:Bytes} (h:∀ s ∈ V,x < s.s):eQ V x=[]:=by
 unfold eQ
 have:V.find? (eK x)=none:=List.find?_eq_none.2 fun s hs=>by
  unfold eK
  rw [decide_eq_true_eq]
  exact fun hh=>hh.1 (h s hs)
 rw [this]
theorem sH {V:List Sp} {x:Bytes} (h:eQ V x≠[]):∃ s ∈ V,¬ x < s.s∧x < s.e∧eQ V x=s.ks.map K.sv:=by
 unfold eQ at h ⊢
 cases hf:V.find? (eK x) with
 | none=>rw [hf] at h; exact absurd rfl h
 | some s =>
  have:=List.find?_some hf
  unfold eK at this
  rw [decide_eq_true_eq] at this
  exact ⟨s,List.mem_of_find?_eq_some hf,this.1,this.2,rfl⟩
theorem Mx.after {a:Sp} {V:List Sp} (h:Mx (a :: V)) {x:Bytes} (hx:x < a.e):eQ V x=[] :=
 xE fun _ hs=>bm hx (bJ h.pw hs)
theorem kT {l:List K} (h:l≠[]):l.map K.sv≠[]:=by simpa using h
theorem DL {a b:Sp} {V W:List Sp} (hV:Mx (a :: V)) (hW:Mx (b :: W)) (hf:∀ x,eQ (a :: V) x=eQ (b :: W) x) (hs:a.s=b.s) (hk:a.ks.map K.sv=b.ks.map K.sv):¬ a.e < b.e:=fun hlt=>by
 have ha:=hV.ne a aO
 have e:=hf a.e
 rw [iv (by rw [← hs]; exact gB ha.1) hlt,ph (fun h=>bA _ h.2)] at e
 obtain ⟨c,hc,h1,h2,h3⟩:=sH (V:=V) (x:=a.e) (by rw [e]; exact kT (hW.ne b aO).2)
 cases V with
 | nil=>simp at hc
 | cons d V =>
  have hd:=hV.ne d (by simp)
  have hda:¬ d.s < a.e:=bJ hV.pw aO
  have hdc:¬ c.s < d.s:=by
   rcases al.1 hc with rfl | hc
   ·exact bA _
   ·have:=bJ hV.tail.pw hc
    exact fun h=>this (List.lt_trans h hd.1)
  have hae:a.e=d.s:=by
   refine cy (fun h=>h1 (bm h hdc)) hda
  have:eQ (d :: V) a.e=d.ks.map K.sv:=iv (by rw [hae]; exact bA _) (by rw [hae]; exact hd.1)
  exact hV.mx [] a d V rfl hae (by rw [hk,← e,this])
theorem BW (V W:List Sp) (hV:Mx V) (hW:Mx W) (hf:∀ x,eQ V x=eQ W x):V.map cT=W.map cT:=by
 induction V generalizing W with
 | nil =>
  cases W with
  | nil=>rfl
  | cons b W =>
   have hb:=hW.ne b aO
   have:=hf b.s
   rw [iv (bA _) hb.1,tw] at this
   exact absurd this.symm (kT hb.2)
 | cons a V ih =>
  cases W with
  | nil =>
   have hb:=hV.ne a aO
   have:=hf a.s
   rw [iv (bA _) hb.1,tw] at this
   exact absurd this (kT hb.2)
  | cons b W =>
   have ha:=hV.ne a aO
   have hb:=hW.ne b aO
   have first:∀ {c:Sp} {U:List Sp},Mx (c :: U)→∀ {x},eQ (c :: U) x≠[]→¬ x < c.s:=by
    intro c U hU x hx
    obtain ⟨s,hs,h1,h2,_⟩:=sH hx
    rcases al.1 hs with rfl | hs
    ·exact h1
    ·have h3:=bJ hU.pw hs
     have h4:=(hU.ne c aO).1
     intro h5
     exact h1 (bm (List.lt_trans h5 h4) h3)
   have hs:a.s=b.s:=by
    refine cy (first hW ?_) (first hV ?_)
    ·rw [← hf,iv (bA _) ha.1]; exact kT ha.2
    ·rw [hf,iv (bA _) hb.1]; exact kT hb.2
   have hk:a.ks.map K.sv=b.ks.map K.sv:=by
    have:=hf a.s
    rwa [iv (bA _) ha.1,hs,iv (bA _) hb.1] at this
   have he:a.e=b.e:=cy (DL hV hW hf hs hk) (DL hW hV (fun x=>(hf x).symm) hs.symm hk.symm)
   rw [List.map_cons,List.map_cons,xC hs he hk]
   congr 1
   refine ih W hV.tail hW.tail fun x => ?_
   by_cases hx:x < a.e
   ·rw [hV.after hx,hW.after (he ▸ hx)]
   ·have:=hf x
    rwa [ph (fun h=>hx h.2),ph (fun h=>hx (he ▸ h.2))] at this
def gZ (V:List Sp):List Sp:=V.filter fun s=>decide (s.ks≠[])
theorem zw {G:List Sp} (hw:Wf G):Mx (gZ (Vw G)):=by
 have hv:=zv hw
 have hp:(Vw G).Pairwise fun a b=>¬ b.s < a.e:=by
  rw [bK]
  intro i j hi hj hij
  have:=hv.2 i j hij hj
  rw [aH (Vw G) i hi,aH (Vw G) j hj] at this
  grind
 have hne:∀ s ∈ Vw G,s.s < s.e:=fun s hs=>by
  obtain ⟨i,hi,rfl⟩:=aq hs
  have:=hv.1 i hi
  rwa [aH (Vw G) i hi] at this
 refine ⟨fun s hs => ?_,hp.filter _,fun l a b m e hab hk => ?_⟩
 ·have:=bp.1 hs
  exact ⟨hne s this.1,of_decide_eq_true this.2⟩
 ·
  have hsub:∃ p,p+1 < (Vw G).length∧(Vw G)[p]! = a∧(Vw G)[p+1]! = b:=by
   have hma:a ∈ gZ (Vw G):=by rw [e]; simp
   have hmb:b ∈ gZ (Vw G):=by rw [e]; simp
   obtain ⟨i,hi,ei⟩:=aq (bp.1 hma).1
   obtain ⟨j,hj,ej⟩:=aq (bp.1 hmb).1
   have ha:=hne a (bp.1 hma).1
   have hb:=hne b (bp.1 hmb).1
   have hpi:=bK.1 hp
   have hij:i < j:=by
    rcases dB i j with h | h | h
    ·exact h
    ·subst h
     rw [ei] at ej
     subst ej
     rw [hab] at ha
     exact absurd ha (bA _)
    ·have:=hpi j i hj hi h
     rw [ei,ej] at this
     exfalso
     exact this (List.lt_trans ha (hab ▸ hb))
   refine ⟨i,by omega,by rw [aH (Vw G) i hi]; exact ei,?_⟩
   rcases aG (i+1) j with h | h
   ·exfalso
    have h1:=hpi i (i+1) hi (by omega) (by omega)
    have h2:=hpi (i+1) j (by omega) hj h
    have h3:=hne _ (ag (by omega:i+1 < (Vw G).length))
    rw [ei] at h1
    rw [ej,← hab] at h2
    exact h1 (bm h3 h2)
   ·obtain rfl:j=i+1:=by omega
    rw [aH (Vw G) (i+1) hj]; exact ej
  obtain ⟨p,hp1,hpa,hpb⟩:=hsub
  rw [dE] at hp1
  have hn:=zi (G:=G) (show p < (cY G).length by omega)
  have h1:=dK (G:=G) (show p < (cY G).length by omega)
  rw [gx (by omega:p < (cY G).length)] at hpa
  rw [gx hp1] at hpb
  have hs:=gT hp1
  refine hn ⟨?_,?_,?_,?_⟩
  ·have:=(fi hp1).1; omega
  ·rw [show fk G p - 1+1=(cY G)[p+1]! by omega]
   rw [← hpa,← hpb] at hab
   exact hab
  ·have hka:a.ks≠[]:=of_decide_eq_true (bp.1 (show a ∈ gZ (Vw G) by rw [e]; simp)).2
   have:=mE (G:=G) (p:=p) (j:=fk G p - 1) (by omega) (by omega) (by omega)
   intro h0
   rw [h0] at this
   rw [← hpa] at hka
   exact hka (by simpa using this.symm)
  ·have:=mE (G:=G) (p:=p) (j:=fk G p - 1) (by omega) (by omega) (by omega)
   rw [this,show fk G p - 1+1=(cY G)[p+1]! by omega]
   rw [← hpa,← hpb] at hk
   exact hk
theorem kU {V:List Sp} (hw:Wf V) {j:Nat} {x:Bytes} (hj:j < V.length) (h1:¬ x < V[j]!.s) (h2:x < V[j]!.e):eQ V x=V[j]!.ks.map K.sv:=by
 unfold eQ
 cases hf:V.find? (eK x) with
 | none =>
  have:=List.find?_eq_none.1 hf V[j]! (by rw [aH V j hj]; exact ag hj)
  unfold eK at this
  rw [decide_eq_true_eq] at this
  exact absurd ⟨h1,h2⟩ this
 | some s =>
  have h3:=List.find?_some hf
  unfold eK at h3
  rw [decide_eq_true_eq] at h3
  obtain ⟨i,hi,e⟩:=aq (List.mem_of_find?_eq_some hf)
  have hij:i=j:=by
   rcases dB i j with h | h | h
   ·have:=hw.2 i j h hj
    rw [aH V i hi,e] at this
    exact absurd (bm h3.2 (by grind)) h1
   ·exact h
   ·have:=hw.2 j i h hi
    rw [aH V i hi,e] at this
    exact absurd (bm h2 (by grind)) h3.1
  subst hij
  rw [aH V i hi,e]
theorem lJ {V:List Sp} {x:Bytes} (h:∀ j,j < V.length→¬ (¬ x < V[j]!.s∧x < V[j]!.e)):eQ V x=[]:=by
 unfold eQ
 have:V.find? (eK x)=none:=List.find?_eq_none.2 fun s hs=>by
  obtain ⟨j,hj,e⟩:=aq hs
  have:=h j hj
  rw [aH V j hj,e] at this
  unfold eK
  rw [decide_eq_true_eq]
  exact this
 rw [this]
theorem GI {G:List Sp} (hw:Wf G) {p:Nat} (hp:p < (cY G).length) {x:Bytes} (h1:¬ x < G[(cY G)[p]!]!.s) (h2:x < G[fk G p - 1]!.e):∃ j,(cY G)[p]! ≤ j∧j < fk G p∧¬ x < G[j]!.s∧x < G[j]!.e:=by
 have hg:=dK hp
 have aux:∀ m,(cY G)[p]! + m < fk G p→(x < G[(cY G)[p]! + m]!.e)→∃ j,(cY G)[p]! ≤ j∧j < fk G p∧¬ x < G[j]!.s∧x < G[j]!.e:=by
  intro m
  induction m with
  | zero=>intro h3 h4; exact ⟨(cY G)[p]!,aE _,by omega,h1,h4⟩
  | succ m ih =>
   intro h3 h4
   by_cases h5:x < G[(cY G)[p]! + m]!.e
   ·exact ih (by omega) h5
   ·have hj:=qO hp (j:=(cY G)[p]! + m) (by omega) (by omega)
    refine ⟨(cY G)[p]! + (m+1),by omega,h3,?_,h4⟩
    rw [show (cY G)[p]! + (m+1)=(cY G)[p]! + m+1 by omega,← hj.2.1]
    exact h5
 refine aux (fk G p - 1 - (cY G)[p]!) (by omega) ?_
 rw [show (cY G)[p]! + (fk G p - 1 - (cY G)[p]!)=fk G p - 1 by omega]
 exact h2
theorem xF {G:List Sp} (hw:Wf G) (x:Bytes):eQ (Vw G) x=eQ G x:=by
 by_cases h:∃ p,p < (cY G).length∧¬ x < G[(cY G)[p]!]!.s∧x < G[fk G p - 1]!.e
 ·obtain ⟨p,hp,h1,h2⟩:=h
  obtain ⟨j,h3,h4,h5,h6⟩:=GI hw hp h1 h2
  have hv:=gx hp
  have hg:=dK hp
  rw [kU (zv hw) (j:=p) (by rw [dE]; exact hp) (by rw [hv]; exact h1) (by rw [hv]; exact h2),kU hw (j:=j) (by omega) h5 h6,hv,mE hp h3 h4]
 ·rw [lJ,lJ]
  ·intro j hj hh
   obtain ⟨p,hp,h3,h4⟩:=yY hj
   have hg:=dK hp
   refine h ⟨p,hp,fun h5 => ?_,?_⟩
   ·refine hh.1 (bm h5 ?_)
    rcases aG (cY G)[p]! j with h6 | h6
    ·have a:=hw.2 _ _ h6 hj
     have b:=hw.1 _ (fi hp).1
     exact fun h7=>by exact absurd (List.lt_trans h7 b) (by grind)
    ·rw [show (cY G)[p]! = j by omega]; exact bA _
   ·have:=hw.ends (i:=j) (j:=fk G p - 1) (by omega) (by omega)
    exact bm hh.2 (by grind)
  ·intro j hj hh
   rw [dE] at hj
   rw [gx hj] at hh
   exact h ⟨j,hj,hh⟩
theorem sI {V:List Sp} (hw:Wf V) (x:Bytes):eQ (gZ V) x=eQ V x:=by
 by_cases h:∃ j,j < V.length∧¬ x < V[j]!.s∧x < V[j]!.e
 ·obtain ⟨j,hj,h1,h2⟩:=h
  rw [kU hw hj h1 h2]
  unfold eQ
  cases hf:(gZ V).find? (eK x) with
  | none =>
   simp only
   have hk:V[j]!.ks=[]:=Classical.byContradiction fun hk=>by
    have:=List.find?_eq_none.1 hf V[j]! (bp.2 ⟨by rw [aH V j hj]; exact ag hj,aU hk⟩)
    unfold eK at this
    rw [decide_eq_true_eq] at this
    exact this ⟨h1,h2⟩
   rw [hk]
   rfl
  | some s =>
   have h3:=List.find?_some hf
   unfold eK at h3
   rw [decide_eq_true_eq] at h3
   have hm:=(bp.1 (List.mem_of_find?_eq_some hf)).1
   obtain ⟨i,hi,e⟩:=aq hm
   have h4:=kU hw hi (x:=x) (by rw [aH V i hi,e]; exact h3.1) (by rw [aH V i hi,e]; exact h3.2)
   rw [kU hw hj h1 h2,aH V i hi,e] at h4
   exact h4.symm
 ·rw [lJ (V:=V) fun j hj hh=>h ⟨j,hj,hh⟩]
  unfold eQ
  have:(gZ V).find? (eK x)=none:=List.find?_eq_none.2 fun s hs=>by
   obtain ⟨j,hj,e⟩:=aq (bp.1 hs).1
   unfold eK
   rw [decide_eq_true_eq]
   intro hh
   exact h ⟨j,hj,by rw [aH V j hj,e]; exact hh⟩
  rw [this]
theorem xG {G H:List Sp} (hG:Wf G) (hH:Wf H) (h:∀ x,eQ G x=eQ H x):(gZ (Vw G)).map cT=(gZ (Vw H)).map cT :=
 BW _ _ (zw hG) (zw hH) fun x=>by rw [sI (zv hG),sI (zv hH),xF hG,xF hH,h]
end Go.E
end
section
namespace Go.E
open Go Go.Sort Go.Proofs
def fZ (l:List Sp) (x:Bytes):List K:=l.flatMap fun s=>if eK x s then s.ks else []
theorem dz {x:Bytes} {s:Sp}:eK x s=true↔¬ x < s.s∧x < s.e:=by unfold eK; rw [decide_eq_true_eq]
theorem GJ {L:List Sp} (h:Wf L) {x:Bytes} {j:Nat} (hj:j < L.length):eK x L[j]! = true↔cE L x=2 * j+1:=by
 have b0:dJ L (2 * j)=L[j]!.s:=by unfold dJ; rw [if_pos (by omega),show 2 * j / 2=j by omega]
 have b1:dJ L (2 * j+1)=L[j]!.e:=by unfold dJ; rw [if_neg (by omega),show (2 * j+1) / 2=j by omega]
 have c0:=tb h (x:=x) (by omega:2 * j < 2 * L.length)
 have c1:=tb h (x:=x) (by omega:2 * j+1 < 2 * L.length)
 rw [b0] at c0
 rw [b1] at c1
 rw [dz,← c0]
 constructor
 ·rintro ⟨h1,h2⟩
  have:¬ 2 * j+1 < cE L x:=fun h3=>c1.1 h3 h2
  omega
 ·intro h1
  refine ⟨by omega,Classical.byContradiction fun h2 => ?_⟩
  have:=c1.2 h2
  omega
theorem DM {L:List Sp} (h:Wf L) (x:Bytes):fZ L x=if cE L x % 2=1 then L[cE L x / 2]!.ks else []:=by
 obtain ⟨c,hc⟩:∃ c,c=cE L x:=⟨_,rfl⟩
 have hle:=zf L x
 rw [← hc] at hle ⊢
 have key:∀ (A:List Sp) (o:Nat),(∀ j,j < A.length→o+j < L.length∧A[j]! = L[o+j]!)→fZ A x=if c % 2=1∧o≤c / 2∧c / 2 < o+A.length then L[c / 2]!.ks else []:=by
  intro A
  induction A with
  | nil =>
   intro o _
   rw [if_neg (by simp only [List.length_nil]; omega)]
   rfl
  | cons a A ih =>
   intro o hA
   have h0:=hA 0 (by simp)
   have hx:a=L[o]! := by simpa using h0.2
   have ih:=ih (o+1) fun j hj=>by
    have:=hA (j+1) (by simp only [aY]; omega)
    rw [show o+(j+1)=o+1+j by omega] at this
    refine ⟨this.1,?_⟩
    rw [← this.2,aH A j hj,aH (a :: A) (j+1) (by simp only [aY]; omega)]
    rfl
   show (if eK x a then a.ks else [])++fZ A x=_
   rw [ih,hx]
   have hc1:=GJ h (x:=x) (j:=o) (by omega)
   rw [← hc] at hc1
   by_cases hco:c=2 * o+1
   ·rw [if_pos (hc1.2 hco),if_neg (by omega),if_pos (by simp only [aY]; omega),av,show c / 2=o by omega]
   ·rw [if_neg (fun h=>hco (hc1.1 h)),List.nil_append]
    by_cases h5:c % 2=1∧o+1≤c / 2∧c / 2 < o+1+A.length
    ·rw [if_pos h5,if_pos (by simp only [aY]; omega)]
    ·rw [if_neg h5,if_neg (by simp only [aY]; omega)]
 have:=key L 0 fun j hj=>⟨by omega,by rw [Nat.zero_add]⟩
 rw [this]
 by_cases h5:c % 2=1
 ·rw [if_pos (by omega),if_pos h5]
 ·rw [if_neg (by omega),if_neg h5]
theorem dW (a b:List Sp) (x:Bytes):fZ (a++b) x=fZ a x++fZ b x:=by unfold fZ; rw [bP]
theorem xH (Lv:List (List Sp)) (x:Bytes):fZ Lv.flatten x=Lv.flatMap fun L=>fZ L x:=by
 induction Lv with
 | nil=>rfl
 | cons L Lv ih=>rw [List.flatten_cons,dW,ih,ax]
theorem tF {α β:Type} [Inhabited α] (l:List α) (f:α→List β):(List.range l.length).flatMap (fun i=>f l[i]!)=l.flatMap f:=by
 induction l with
 | nil=>rfl
 | cons a l ih =>
  rw [aY,List.range_succ_eq_map,ax,List.flatMap_map,ax,← ih]
  rfl
section
variable {Lv:List (List Sp)} {snap:Nat}
theorem pC (h:∀ L ∈ Lv,Wf L) (x:Bytes) (u:Nat) (hu:∀ i,i < Lv.length→cp (fY Lv) (cG Lv.flatten) u i=cE (fY Lv i) x):dO Lv.length (fY Lv) (cG Lv.flatten) u=fZ Lv.flatten x:=by
 rw [xH,← tF]
 unfold dO
 refine kR fun i hi => ?_
 rw [List.mem_range] at hi
 rw [hu i hi]
 have:Wf Lv[i]! := by rw [aH Lv i hi]; exact h _ (ag hi)
 rw [DM this]
 rfl
theorem DN (h:∀ L ∈ Lv,Wf L) {u:Nat} (h0:0 < u):dO Lv.length (fY Lv) (cG Lv.flatten) u=fZ Lv.flatten (cG Lv.flatten)[u - 1]! :=
 pC h _ u fun i _=>by unfold cp; rw [if_neg (by omega)]
theorem y8 (h:∀ L ∈ Lv,Wf L):dO Lv.length (fY Lv) (cG Lv.flatten) 0=[]:=by
 unfold dO
 refine List.flatMap_eq_nil_iff.2 fun i hi => ?_
 rw [if_neg (by unfold cp; simp)]
theorem H7 (h:∀ L ∈ Lv,Wf L) (hc:∀ x,Cd (fZ Lv.flatten x)) (u:Nat):Cd (dO Lv.length (fY Lv) (cG Lv.flatten) u):=by
 rcases bE u with rfl | h0
 ·rw [y8 h]; exact ⟨.nil,by simp⟩
 ·rw [DN h h0]; exact hc _
theorem GK:Tf snap []=[]:=by unfold Tf; simp
theorem xI (h:∀ L ∈ Lv,Wf L) (x:Bytes):eQ (GL snap Lv.length (fY Lv) (cG Lv.flatten)) x=(Tf snap (fZ Lv.flatten x)).map K.sv:=by
 have hB:=lI h
 obtain ⟨B,hBe⟩:∃ B,B=cG Lv.flatten:=⟨_,rfl⟩
 have hf:=pC h x (uE B x) (by rw [← hBe]; rw [← hBe] at hB; exact fun i hi=>zj hB hi x)
 rw [← hBe] at hB hf ⊢
 have hu:=my B x
 cases hcv:mV Lv.length (fY Lv) B (uE B x) with
 | true =>
  have hc:=pU hB hu hcv
  obtain ⟨j,hj,ej⟩:=aq (dF.2 ⟨hu,hcv⟩)
  have e':(cM Lv.length (fY Lv) B)[j]? = some (uE B x):=by rw [aC hj,ej]
  have hg:=kL (snap:=snap) e'
  have h1:=(lR hB (key:=x) (j:=uE B x - 1) (by omega)).1 (by omega)
  have h2:x < B[uE B x]! := Classical.byContradiction fun h3=>by
   have:=(lR hB (key:=x) (j:=uE B x) hc.2).2 h3
   omega
  rw [kU (wM hB) (j:=j) (by rw [cJ]; exact hj) (by rw [hg]; exact h1) (by rw [hg]; exact h2),hg,← hf]
  rfl
 | false =>
  have h0:dO Lv.length (fY Lv) B (uE B x)=[]:=by
   unfold dO
   refine List.flatMap_eq_nil_iff.2 fun i hi => ?_
   rw [if_neg fun h1 => ?_]
   rw [oW.2 ⟨i,List.mem_range.1 hi,h1⟩] at hcv
   cases hcv
  rw [← hf,h0,GK,lJ fun j hj hh => ?_]
  ·rfl
  ·rw [cJ] at hj
   have e:(cM Lv.length (fY Lv) B)[j]? = some (cM Lv.length (fY Lv) B)[j]:=aC hj
   obtain ⟨u,hue⟩:∃ u,u=(cM Lv.length (fY Lv) B)[j]:=⟨_,rfl⟩
   rw [← hue] at e
   have hm:=dF.1 (aK e)
   have hc:=pU hB hm.1 hm.2
   rw [kL e] at hh
   have h1:=(lR hB (key:=x) (j:=u - 1) (by omega)).2 hh.1
   have h2:¬ u < uE B x:=fun h3=>(lR hB (key:=x) (j:=u) hc.2).1 h3 hh.2
   have:uE B x=u:=by omega
   rw [this,hm.2] at hcv
   cases hcv
end
end Go.E
end
section
namespace Go.E
open Go Go.Sort Go.Proofs
def Ch (V:List Sp):Prop:=(∀ s ∈ V,s.s < s.e)∧V.Pairwise fun a b=>¬ b.s < a.e
theorem zx {V:List Sp}:Wf V↔Ch V:=by
 unfold Wf Ch
 rw [bK]
 constructor
 ·rintro ⟨h1,h2⟩
  refine ⟨fun s hs => ?_,fun i j hi hj hij => ?_⟩
  ·obtain ⟨j,hj,rfl⟩:=aq hs
   have:=h1 j hj
   rwa [aH V j hj] at this
  ·have:=h2 i j hij hj
   rw [aH V i hi,aH V j hj] at this
   grind
 ·rintro ⟨h1,h2⟩
  refine ⟨fun i hi => ?_,fun i j hij hj => ?_⟩
  ·rw [aH V i hi]; exact h1 _ (ag hi)
  ·have:=h2 i j (by omega) hj hij
   rw [aH V i (by omega),aH V j hj]
   grind
end Go.E
end
section
namespace Go.E
open Go Go.Sort Go.Proofs
def HC (V:List Sp) (o:Option Int):Option Nat:=match o with
 | some p=>if 0≤p∧p < V.length then some p.toNat else none
 | none=>none
theorem y9 {V:List Sp} {p:Nat} (h:p < V.length):HC V (some (p:Int))=some p:=(if_pos ⟨by omega,by omega⟩).trans (by simp)
theorem uq {V:List Sp} {p:Int} (h:¬ (0≤p∧p < V.length)):HC V (some p)=none:=if_neg h
theorem sJ (V:List Sp) (p:Int) {last:Nat} (hl:last≠5∧last≠3) (m:Nat):(pX V p false last (List.replicate m (2,[]))).filterMap (HC V)=[]:=by
 induction m with
 | zero=>rfl
 | succ m ih =>
  rw [List.replicate_succ]
  unfold pX
  have:tm 2 false last=false:=by simp [tm,hl]
  rw [this,if_neg (by simp)]
  exact ih
theorem zA (V:List Sp) {last:Nat} (m p:Nat) (hp:p < V.length) (hm:V.length≤p+m+1):(pX V p true last (List.replicate m (2,[]))).filterMap (HC V)=List.range' (p+1) (V.length - (p+1)):=by
 induction m generalizing p last with
 | zero =>
  rw [show V.length - (p+1)=0 by omega]
  rfl
 | succ m ih =>
  rw [List.replicate_succ]
  unfold pX
  have:tm 2 true last=true:=by simp [tm]
  rw [this,if_pos rfl]
  have hmv:mv V p 2 []=((p+1:Nat):Int):=by simp [mv]
  rw [hmv]
  rcases aG (p+1) V.length with h | h
  ·have hi:BF V ((p+1:Nat):Int)=true:=aU (by omega)
   rw [hi,List.filterMap_cons,y9 h,ih (p+1) h (by omega)]
   simp only
   rw [show V.length - (p+1)=V.length - (p+1+1)+1 by omega,List.range'_succ]
  ·have hi:BF V ((p+1:Nat):Int)=false:=aF (by omega)
   rw [hi,List.filterMap_cons,uq (by omega),sJ V _ (by decide)]
   rw [show V.length - (p+1)=0 by omega]
   rfl
theorem BY (V:List Sp) (m:Nat) (hm:V.length≤m+1):(pX V (-2) false 0 ((0,[]) :: List.replicate m (2,[]))).filterMap (HC V)=List.range V.length:=by
 unfold pX
 have:tm 0 false 0=true:=rfl
 rw [this,if_pos rfl]
 have hmv:mv V (-2) 0 []=((0:Nat):Int):=rfl
 rw [hmv]
 rcases bE V.length with h | h
 ·have hi:BF V ((0:Nat):Int)=false:=aF (by omega)
  rw [hi,List.filterMap_cons,uq (by omega),sJ V _ (by decide),h]
  rfl
 ·have hi:BF V ((0:Nat):Int)=true:=aU (by omega)
  rw [hi,List.filterMap_cons,y9 h,zA V m 0 h (by omega)]
  simp only
  rw [List.range_eq_range',← List.range'_succ,show V.length - (0+1)+1=V.length by omega]
def mI (l:List An):List Sp:=(l.filter fun a=>a.ok).map An.sp
theorem DO {V:List Sp} {KS:List K→Prop} {outs:List (Option Int)} {l:List An} (h:Pw (nE V KS) outs l):(mI l).map cT=((outs.filterMap (HC V)).map fun p=>cT V[p]!)∧∀ s ∈ mI l,KS s.ks:=by
 induction outs generalizing l with
 | nil =>
  obtain rfl:l=[]:=aZ.1 h.1.symm
  exact ⟨rfl,by simp [mI]⟩
 | cons o outs ih =>
  cases l with
  | nil=>simp [Pw] at h
  | cons a l =>
   have hp:Pw (nE V KS) outs l:=⟨by simpa using h.1,fun i x y hx hy=>h.2 (i+1) x y (by simpa using hx) (by simpa using hy)⟩
   obtain ⟨i1,i2⟩:=ih hp
   have ha:nE V KS o a:=h.2 0 o a rfl rfl
   unfold mI at i1 i2 ⊢
   cases o with
   | none =>
    have ha:a=⟨false,false,⟨[],[],[]⟩⟩:=ha
    rw [ha,List.filter_cons_of_neg (by simp),List.filterMap_cons]
    exact ⟨i1,i2⟩
   | some p =>
    obtain ⟨h1,h2,h3,h4⟩:=ha
    by_cases hin:0≤p∧p < V.length
    ·have hv:BF V p=true:=aU hin
     rw [hv] at h2
     obtain ⟨q,rfl⟩:∃ q:Nat,p=q:=⟨p.toNat,by omega⟩
     obtain ⟨e1,e2,e3,e4⟩:=h3 q rfl (by omega)
     rw [List.filter_cons_of_pos h2,List.filterMap_cons,y9 (by omega)]
     simp only [List.map_cons]
     refine ⟨by rw [i1,xC e1 e2 e3],fun s hs => ?_⟩
     rcases al.1 hs with rfl | hs
     ·exact e4
     ·exact i2 s hs
    ·have hv:BF V p=false:=aF hin
     rw [hv] at h2
     rw [List.filter_cons_of_neg (by simp [h2]),List.filterMap_cons,uq hin]
     exact ⟨i1,i2⟩
theorem ur (V:List Sp):(List.range V.length).map (fun p=>cT V[p]!)=V.map cT:=by
 refine List.ext_getElem (by simp) fun i h1 h2 => ?_
 rw [iZ,iZ,List.getElem_range,aH V i (by simpa using h2)]
end Go.E
end
section
namespace Go.E
open Go Go.Sort Go.Proofs
def nH (ks:List K):Prop:=(∀ x ∈ ks,(bI x.tr=19∨bI x.tr=20∨bI x.tr=21)∧(bI x.tr=19→x.suf=[])∧(bI x.tr≠21→x.val=[])) ∧
 ks.Pairwise fun x k=>¬ x.tr < k.tr∧¬ (x.tr / 256=k.tr / 256∧x.suf=k.suf∧(bI k.tr=19↔bI x.tr=19))
theorem nH.cd {ks:List K} (h:nH ks):Cd ks:=by
 refine ⟨h.2.imp fun {x y} hxy e e2=>hxy.2 ⟨by rw [e2],e,by rw [e2]⟩,fun x hx=>(h.1 x hx).1⟩
theorem Cd.perm {a b:List K} (h:Cd a) (p:a.Perm b):Cd b:=⟨(List.Perm.pairwise_iff (fun {x y} h e e2=>h e.symm e2.symm) p).1 h.dist,fun x hx=>h.kind x (p.mem_iff.2 hx)⟩
structure LvOk (Lv:List (List Sp)) (n:Nat):Prop where
 n6:Lv.length≤6
 sz:∀ L ∈ Lv,L.length≤n
 wf:∀ L ∈ Lv,Wf L
 ks:∀ L ∈ Lv,∀ s ∈ L,s.ks≠[]∧s.ks.length≤40
 rk:∀ f ∈ dw Lv.flatten,nH f.ks
theorem mJ (b:List Bytes) (x:Bytes):(jb b x).length≤b.length+1:=by
 unfold jb
 split
 ·omega
 ·rw [wu]; exact aE _
theorem gL (l:List Sp):(cG l).length≤2 * l.length:=by
 have aux:∀ (l:List Sp) (b:List Bytes),(l.foldl (fun b s=>jb (jb b s.s) s.e) b).length≤b.length+2 * l.length:=by
  intro l
  induction l with
  | nil=>exact fun b=>aE _
  | cons s l ih =>
   intro b
   rw [List.foldl_cons,aY]
   have h1:=ih (jb (jb b s.s) s.e)
   have h2:=mJ b s.s
   have h3:=mJ (jb b s.s) s.e
   omega
 have:=aux l []
 simpa [cG] using this
theorem fj {α:Type} {Lv:List (List α)} {n:Nat} (h:∀ L ∈ Lv,L.length≤n):Lv.flatten.length≤Lv.length * n:=by
 induction Lv with
 | nil=>simp
 | cons L Lv ih =>
  have h1:=h L aO
  have h2:=ih fun L hL=>h L (aj _ hL)
  rw [List.flatten_cons,aJ,aY,Nat.add_mul]
  omega
section
variable {Lv:List (List Sp)} {n:Nat}
theorem LvOk.cd (h:LvOk Lv n) (x:Bytes):Cd (fZ Lv.flatten x):=by
 have hB:=lI h.wf
 have hf:=pC h.wf x (uE (cG Lv.flatten) x) fun i hi=>zj hB hi x
 rw [← hf]
 cases hcv:mV Lv.length (fY Lv) (cG Lv.flatten) (uE (cG Lv.flatten) x) with
 | true =>
  have hm:(⟨(cG Lv.flatten)[uE (cG Lv.flatten) x - 1]!,(cG Lv.flatten)[uE (cG Lv.flatten) x]!,eF (dO Lv.length (fY Lv) (cG Lv.flatten) (uE (cG Lv.flatten) x))⟩:Sp) ∈ dw Lv.flatten:=by
   rw [sD h.wf fun L hL s hs=>(h.ks L hL s hs).1,bU]
   exact ⟨_,dF.2 ⟨my _ _,hcv⟩,rfl⟩
  exact (h.rk _ hm).cd.perm (ef _)
 | false =>
  have h0:dO Lv.length (fY Lv) (cG Lv.flatten) (uE (cG Lv.flatten) x)=[]:=by
   unfold dO
   refine List.flatMap_eq_nil_iff.2 fun i hi => ?_
   rw [if_neg fun h1 => ?_]
   rw [oW.2 ⟨i,List.mem_range.1 hi,h1⟩] at hcv
   cases hcv
  rw [h0]
  exact ⟨.nil,by simp⟩
theorem DQ {Lv:List (List Sp)} {m:Nat} (h:∀ L ∈ Lv,∀ s ∈ L,s.ks.length≤m) (B:List Bytes) (u:Nat):(dO Lv.length (fY Lv) B u).length≤Lv.length * m:=by
 unfold dO
 have:∀ l:List Nat,(∀ i ∈ l,i < Lv.length)→(l.flatMap fun i=>if cp (fY Lv) B u i % 2=1 then (fY Lv i)[cp (fY Lv) B u i / 2]!.ks else []).length≤l.length * m:=by
  intro l
  induction l with
  | nil=>intro _; simp
  | cons i l ih =>
   intro hl
   have hi:=hl i aO
   have:=ih fun j hj=>hl j (aj _ hj)
   rw [ax,aJ,aY,Nat.add_mul]
   have hh:(if cp (fY Lv) B u i % 2=1 then (fY Lv i)[cp (fY Lv) B u i / 2]!.ks else []).length≤m:=by
    split
    ·have hL:fY Lv i ∈ Lv:=by unfold fY; rw [aH Lv i hi]; exact ag hi
     have hlt:cp (fY Lv) B u i / 2 < (fY Lv i).length:=by have:=jY (L:=fY Lv) (B:=B) u i; omega
     rw [aH (fY Lv i) _ hlt]
     exact h _ hL _ (ag hlt)
    ·exact aP _
   omega
 simpa using this (List.range Lv.length) fun i hi=>List.mem_range.1 hi
theorem uu (G:List Sp):(Vw G).length≤G.length:=by
 rw [dE]
 unfold cY
 exact ai (bz _ _) (by simp)
theorem xJ (Lv:List (List Sp)) (snap:Nat):(Vw (GL snap Lv.length (fY Lv) (cG Lv.flatten))).length≤2 * Lv.flatten.length+1:=by
 refine ai (uu _) ?_
 rw [cJ]
 unfold cM
 refine ai (bz _ _) ?_
 rw [List.length_range]
 have:=gL Lv.flatten
 omega
end
end Go.E
end
section
namespace Go.E
open Go Go.Sort Go.Proofs Go.Proofs.Tryz
theorem zy (x y:Bytes):Op.bytesLess x y=decide (x < y):=by
 induction x generalizing y with
 | nil=>cases y <;> simp [Op.bytesLess]
 | cons a x ih =>
  cases y with
  | nil=>simp [Op.bytesLess]
  | cons b y =>
   rw [bF]
   simp [Op.bytesLess,ih,List.cons_lt_cons_iff]
section
variable {a b:Bytes} {q:Value→Prop}
@[go_sem high] theorem If:jy .eql ⟨a.toArray⟩ ⟨b.toArray⟩ q=q (.bool (decide (a=b))):=by
 rw [Ca,ByteArray.toList_mk,ByteArray.toList_mk]
 congr 2
 rw [bF]; simp
@[go_sem high] theorem Ig:jy .neq ⟨a.toArray⟩ ⟨b.toArray⟩ q=q (.bool (decide (a≠b))):=by
 rw [Cb,ByteArray.toList_mk,ByteArray.toList_mk]
 congr 2
 rw [bF]; simp
@[go_sem high] theorem Ih:jy .lss ⟨a.toArray⟩ ⟨b.toArray⟩ q=q (.bool (decide (a < b))):=by
 rw [Cc,ByteArray.toList_mk,ByteArray.toList_mk,zy]
theorem JV (a b:Bytes):(decide (a < b) || a == b)=decide (¬ b < a):=by
 rw [bF]
 simp only [Bool.or_eq_true,decide_eq_true_eq,beq_iff_eq]
 constructor
 ·rintro (h | rfl)
  ·exact gB h
  ·exact bA _
 ·intro h
  rcases gg a b with h1 | h1 | h1
  ·exact .inl h1
  ·exact .inr h1
  ·exact absurd h1 h
@[go_sem high] theorem Ii:jy .leq ⟨a.toArray⟩ ⟨b.toArray⟩ q=q (.bool (decide (¬ b < a))):=by
 rw [Ce,ByteArray.toList_mk,ByteArray.toList_mk,zy,JV]
@[go_sem high] theorem Ij:jy .gtr ⟨a.toArray⟩ ⟨b.toArray⟩ q=q (.bool (decide (b < a))):=by
 rw [Cf,ByteArray.toList_mk,ByteArray.toList_mk,zy,JV]
 by_cases h:b < a
 ·rw [aU h,aF fun hn=>hn h]; rfl
 ·rw [aF h,aU h]; rfl
@[go_sem high] theorem Ik:jy .geq ⟨a.toArray⟩ ⟨b.toArray⟩ q=q (.bool (decide (¬ a < b))):=by
 rw [Cg,ByteArray.toList_mk,ByteArray.toList_mk,zy]
 by_cases h:a < b
 ·rw [aU h,aF fun hn=>hn h]; rfl
 ·rw [aF h,aU h]; rfl
end
theorem GM {l:List Sp} (h1:∀ i (h:i < l.length),l[i].s < l[i].e) (h2:∀ i (h:i+1 < l.length),¬ l[i+1].s < l[i].e):Wf l:=by
 refine ⟨fun i hi=>by rw [aH l i hi]; exact h1 i hi,fun i j hij hj => ?_⟩
 have aux:∀ m,∀ (hm:i+1+m < l.length),¬ l[i+1+m].s < (l[i]'(by omega)).e:=by
  intro m
  induction m with
  | zero=>intro hm; exact h2 i (by omega)
  | succ m ih =>
   intro hm h3
   have a:=h1 (i+1+m) (by omega)
   have b:=h2 (i+1+m) (by omega)
   exact ih (by omega) (List.lt_trans (bm a b) h3)
 rw [aH l i (by omega),aH l j hj]
 have:=aux (j - (i+1)) (by omega)
 simp only [show i+1+(j - (i+1))=j by omega] at this
 grind
end Go.E
namespace Go.Proofs
open Go Go.E Go.Sort Go.Proofs.Tryz
section
variable {k:au} {d w:World}
theorem xK {t:Nat} (hk:k (.int .u8 (bI t)) w):aX prog 48 #[.int .u64 t] k w:=by
 refine ae [.tmp 2] func48 ?_
 refine an ?_
 have e8:IntKind.u8.wrap (t:Int)=(bI t:Nat):=by
  unfold bI
  simp [IntKind.wrap,IntKind.bits,IntKind.signed]
 rw [e8]
 exact hk
theorem z7 {t:Nat} (hk:k (.int .u64 (t / 256:Nat)) w):aX prog 79 #[.int .u64 t] k w:=by
 have h8:(0:Int)≤8:=by decide
 have e:=Am (a:=t) (s:=8) (n:=8) (m:=256) rfl rfl
 refine ae [.tmp 2] func79 ?_
 simp (disch:=first | exact dZ | fail) only [go_sem,fW h8,e]
 exact hk
theorem uv {kv:Value} {x:Sp} {key:Bytes} (hf:∃ a n c,kv = .slice a n c) (hk:∀ w',bj w w'→k (.bool (eK key x)) w'):aX prog 27 #[.agg #[.string ⟨x.s.toArray⟩,.string ⟨x.e.toArray⟩,kv],.string ⟨key.toArray⟩] k w:=by
 obtain ⟨a,n,c,rfl⟩:=hf
 refine ae [.tmp 4] func27 ?_
 by_cases h1:key < x.s
 ·have e:eK key x=false:=aF fun h=>h.1 h1
  rw [e] at hk
  refine eA @aA @h1 @not_true_eq_false ?_
  exact hk _ (aM _)
 ·by_cases h2:key < x.e
  ·have e:eK key x=true:=aU ⟨h1,h2⟩
   rw [e] at hk
   refine fI @aA @h1 @h2 @not_false_eq_true ?_
   exact hk _ (aM _)
  ·have e:eK key x=false:=aF fun h=>h2 h.2
   rw [e] at hk
   refine fI @aA @h1 @h2 @not_false_eq_true ?_
   exact hk _ (aM _)
theorem xL {x y:K} (hk:∀ w',bj w w'→k (.bool (gY x y)) w'):aX prog 112 #[.agg #[.int .u64 x.tr,.string ⟨x.suf.toArray⟩,.string ⟨x.val.toArray⟩],.agg #[.int .u64 y.tr,.string ⟨y.suf.toArray⟩,.string ⟨y.val.toArray⟩]] k w:=by
 have x2:∀ a b,bj w ((w.alloc a).alloc b):=fun a b=>(aM _).trans (aM _)
 refine ae [.tmp 4] func112 ?_
 by_cases h1:x.tr=y.tr
 ·have h1':((x.tr:Int) != y.tr)=false:=by rw [h1]; simp
  by_cases h2:x.suf=y.suf
  ·have e:gY x y=decide (x.val < y.val):=by unfold gY; rw [if_neg (by simpa using h1),if_neg (by simpa using h2)]
   rw [e] at hk
   simp (disch:=first | exact dZ | fail) only [go_sem,aA,h1',h2,ne_eq,not_true_eq_false]
   exact hk _ (x2 _ _)
  ·have e:gY x y=decide (x.suf < y.suf):=by unfold gY; rw [if_neg (by simpa using h1),if_pos h2]
   rw [e] at hk
   simp (disch:=first | exact dZ | fail) only [go_sem,aA,h1',h2,ne_eq,not_false_eq_true]
   exact hk _ (x2 _ _)
 ·have h1':((x.tr:Int) != y.tr)=true:=by simp; omega
  have e:gY x y=decide ((y.tr:Int) < x.tr):=by unfold gY; rw [if_pos h1]; exact decide_eq_decide.2 (by omega)
  rw [e] at hk
  refine dU @aA @h1' ?_
  exact hk _ (x2 _ _)
end
end Go.Proofs
end
section
namespace Go.E
open Go Go.Sort Go.Proofs
structure OwnC {α:Type} (ce:α→List Value) (sz:Nat) (el:TypeId) (w:World) (v:Value) (l:List α):Prop where
 own:w.ownsRow 0 el sz v l.length (l.flatMap ce)
 sz:∀ x,(ce x).length=sz
section
variable {α:Type} {ce:α→List Value} {sz:Nat} {el:TypeId} {w w2:World} {v:Value} {l:List α}
theorem ik {a:Addr} (h:a.spot=none) (m:Nat):a.add m=⟨a.block,a.off+m,none⟩:=by
 obtain ⟨b,o,s⟩:=a
 simp only at h
 subst h
 cases m <;> rfl
theorem OwnC.nil (h:∀ x,(ce x).length=sz):OwnC ce sz el w (.slice none 0 0) []:=⟨dq,h⟩
theorem OwnC.keep {M:Nat→Nat→Prop} (h:OwnC ce sz el w v l) (hk:Keep M w w2) (hm:∀ g,v.ownBlock=some g→∀ o,¬ M g o):OwnC ce sz el w2 v l:=⟨aT h.own hk hm,h.sz⟩
theorem OwnC.ext (h:OwnC ce sz el w v l) (x:bj w w2):OwnC ce sz el w2 v l:=h.keep x fun _ _ _ h=>h
theorem OwnC.form (h:OwnC ce sz el w v l):∃ a c,v = .slice a l.length c∧l.length≤c∧c≤9223372036854775807:=by
 obtain ⟨a,c,h1,h2,h3⟩:=ao h.own
 exact ⟨a,c,h1,h2,h3⟩
theorem zB (h:∀ x,(ce x).length=sz) (l:List α):(l.flatMap ce).length=l.length * sz:=by
 induction l with
 | nil=>simp
 | cons x l ih=>rw [ax,aJ,h,ih,aY,Nat.add_mul]; omega
theorem uw (h:∀ x,(ce x).length=sz) {l:List α} {i j:Nat} {x:α} {u:Value} (hi:l[i]? = some x) (hj:(ce x)[j]? = some u):(l.flatMap ce)[i * sz+j]? = some u:=by
 induction l generalizing i with
 | nil=>simp at hi
 | cons y l ih =>
  rw [ax]
  cases i with
  | zero =>
   simp only [List.getElem?_cons_zero,aL] at hi
   subst hi
   rw [Nat.zero_mul,Nat.zero_add,bV (aR.1 hj).1]
   exact hj
  | succ i =>
   rw [List.getElem?_cons_succ] at hi
   rw [bC (by rw [h,Nat.add_mul]; omega),h,show (i+1) * sz+j - sz=i * sz+j by rw [Nat.add_mul]; omega]
   exact ih hi
theorem OwnC.block (h:OwnC ce sz el w v l) {i:Nat} (hi:i < l.length):∃ g c,v = .slice (some ⟨g,0,none⟩) l.length c∧g < w.heap.size:=by
 rcases cR h.own with ⟨rfl,h0,_⟩ | ⟨g,cap,rfl,_,hg⟩
 ·omega
 ·exact ⟨g,cap,rfl,hg⟩
theorem OwnC.cell {g c:Nat} (h:OwnC ce sz el w (.slice (some ⟨g,0,none⟩) l.length c) l) {i j:Nat} {x:α} {u:Value} (hi:l[i]? = some x) (hj:(ce x)[j]? = some u):w.cell? ⟨g,i * sz+j,none⟩=some u:=bL h.own (uw h.sz hi hj)
theorem OwnC.sl {R:iK α} (h:OwnC ce sz el w v l) (hR:∀ x ∈ l,R w (ce x) x):Sl R sz w v l:=by
 rcases cR h.own with ⟨rfl,h0,_⟩ | ⟨g,cap,rfl,hc,_⟩
 ·exact ⟨rfl,aZ.1 h0⟩
 ·refine ⟨fun _=>rfl,rfl,hc,fun i x hx=>⟨ce x,h.sz x,fun j u hu => ?_,hR x (aK hx)⟩⟩
  have:=h.cell hx hu
  rwa [show 0+i * sz+j=i * sz+j by omega]
theorem GN (h:∀ x,(ce x).length=sz) {l:List α} {i:Nat} (hi:i < l.length) (y:α) (m:List Value) (hm:m.length=l.length * sz) (hs:∀ j,j < i * sz∨(i+1) * sz≤j→m[j]? = (l.flatMap ce)[j]?) (hy:∀ j u,(ce y)[j]? = some u→m[i * sz+j]? = some u):m=(l.set i y).flatMap ce:=by
 refine List.ext_getElem? fun p => ?_
 rcases aG p (l.length * sz) with hp | hp
 ·have hsz:0 < sz:=by rcases bE sz with h0 | h0; (rw [h0,Nat.mul_zero] at hp; omega); exact h0
  obtain ⟨q,r,hr,rfl⟩:∃ q r,r < sz∧p=q * sz+r:=⟨p / sz,p % sz,Nat.mod_lt _ hsz,by rw [Nat.mul_comm]; exact (Nat.div_add_mod p sz).symm⟩
  have hq:q < l.length:=by
   rcases aG q l.length with h1 | h1
   ·exact h1
   ·have:=bN sz h1; omega
  by_cases hqi:q=i
  ·subst hqi
   have hl:(ce y)[r]? = some ((ce y)[r]'(by rw [h]; exact hr)):=aC _
   rw [hy r _ hl,uw h (l:=l.set q y) (i:=q) (by rw [List.getElem?_set_self hq]) hl]
  ·have hx:l[q]? = some l[q]:=aC hq
   have hl:(ce l[q])[r]? = some ((ce l[q])[r]'(by rw [h]; exact hr)):=aC _
   rw [hs _ ?_,uw h hx hl,uw h (l:=l.set i y) (i:=q) (by rw [List.getElem?_set_ne (Ne.symm hqi)]; exact hx) hl]
   rcases aG q i with h1 | h1
   ·left
    have:=bN sz (show q+1≤i by omega)
    rw [Nat.add_mul] at this; omega
   ·right
    have:=bN sz (show i+1≤q by omega)
    omega
 ·rw [List.getElem?_eq_none (by rw [hm]; exact hp),List.getElem?_eq_none (by rw [zB h,dR]; exact hp)]
theorem OwnC.set3 {g c:Nat} (h:OwnC ce 3 el w (.slice (some ⟨g,0,none⟩) l.length c) l) {i:Nat} (hi:i < l.length) (y:α) {a b e:Value} (hy:ce y=[a,b,e]):OwnC ce 3 el (((w.setCell ⟨g,i * 3,none⟩ a).setCell ⟨g,i * 3+1,none⟩ b).setCell ⟨g,i * 3+2,none⟩ e) (.slice (some ⟨g,0,none⟩) l.length c) (l.set i y):=by
 have o:=cS (cS (cS h.own (i * 3) a) (i * 3+1) b) (i * 3+2) e
 refine ⟨?_,h.sz⟩
 rw [dR]
 have hl:=zB h.sz l
 rw [← GN (sz:=3) h.sz hi y (((l.flatMap ce).set (i * 3) a).set (i * 3+1) b |>.set (i * 3+2) e) (by simp [hl]) (fun j hj=>by rw [List.getElem?_set_ne (by omega),List.getElem?_set_ne (by omega),List.getElem?_set_ne (by omega)]) fun j u hj => ?_]
 ·exact o
 ·rw [hy] at hj
  match j,hj with
  | 0,hj=>rw [List.getElem?_set_ne (by omega),List.getElem?_set_ne (by omega),Nat.add_zero,List.getElem?_set_self (by rw [hl]; omega)]; exact hj
  | 1,hj=>rw [List.getElem?_set_ne (by omega),List.getElem?_set_self (by rw [dR,hl]; omega)]; exact hj
  | 2,hj=>rw [List.getElem?_set_self (by rw [dR,dR,hl]; omega)]; exact hj
theorem GO {P:Program} {q:au} {t ty:TypeId} {by_:Nat} {m:List α} {u:Value} (row:iA P t=some (el,sz,by_)) (h:OwnC ce sz el w v l) (hu:rW w u m.length (m.flatMap ce)) (h1:∀ x ∈ m,∀ y ∈ ce x,y.oneCell'=true) (hb:(l.length+m.length) * (by_+1)≤140737488355328)
    (hk:∀ v2 w2,OwnC ce sz el w2 v2 (l++m)→Keep (fun b _=>v.ownBlock=some b) w w2→cP w v v2→q v2 w2):lY P #[t,t] ty #[v,u] q w:=by
 refine lW row h.own (zB h.sz m) hu (fun y hy=>by obtain ⟨x,hx,h2⟩:=dX.1 hy; exact h1 x hx y h2) hb fun v2 w2 o2 k2 n2 _=>hk v2 w2 ⟨?_,h.sz⟩ (k2 _ fun b _ hb _=>hb) fun g hg => ?_
 ·rw [aJ,bP]; exact o2
 ·rcases n2 with h | ⟨g',h,h',_⟩
  ·left; rw [← h]; exact hg
  ·right; rw [h] at hg; cases hg; exact h'
theorem z8 {P:Program} {q:au} {t ty:TypeId} {by_ n:Nat} {W:World} {C:Array Value} (x:α) (row:iA P t=some (el,sz,by_)) (h:OwnC ce sz el w v l) (hC:C=(ce x).toArray) (hW:W=w.alloc (.cells C el)∨W=(w.alloc (.cells C el)).drew) (hn:n=w.heap.size) (h1:∀ y ∈ ce x,y.oneCell'=true) (hb:(l.length+1) * (by_+1)≤140737488355328)
    (hk:∀ v2 w2,OwnC ce sz el w2 v2 (l++[x])→Keep (fun b _=>v.ownBlock=some b) w w2→cP w v v2→q v2 w2):lY P #[t,t] ty #[v,.slice (some ⟨n,0,none⟩) 1 1] q W:=by
 subst hC hn
 have k4:bj w W:=by
  rcases hW with rfl | rfl
  ·exact aM _
  ·exact Keep.drew (aM _)
 have hc:∀ j u,(ce x)[j]? = some u→W.cell? ⟨w.heap.size,j,none⟩=some u:=fun j u hu=>by
  have:(w.alloc (.cells (ce x).toArray el)).cell? ⟨w.heap.size,j,none⟩=some u:=by rw [aA (aE _) (by omega)]; simpa using hu
  rcases hW with rfl | rfl
  ·exact this
  ·exact this
 refine GO (m:=[x]) row (h.ext k4) ⟨rfl,fun j u hu => ?_⟩ (fun y hy=>by rw [aQ.1 hy]; exact h1) hb fun v2 w2 o2 k2 n2=>hk v2 w2 o2 (k4.keep.trans k2) fun g hg => ?_
 ·rw [ik rfl]
  have:=hc j u (by simpa using hu)
  simpa using this
 ·rcases n2 g hg with h | h
  ·exact .inl h
  ·exact .inr (ai k4.size h)
end
end Go.E
end
section
namespace Go.Proofs
open Go Go.E Go.Sort Go.Proofs.Tryz
section
variable {k:au} {d w:World}
theorem iw {w:World} {g o:Nat} {x:K} (h:Ej KE 3 w g o x):w.cell? ⟨g,o,none⟩=some (.int .u64 x.tr)∧w.cell? ⟨g,o+1,none⟩=some (.string ⟨x.suf.toArray⟩)∧w.cell? ⟨g,o+2,none⟩=some (.string ⟨x.val.toArray⟩)∧x.tr < 18446744073709551616:=by
 obtain ⟨cs,_,hcs,rfl,h⟩:=h
 exact ⟨hcs 0 _ rfl,hcs 1 _ rfl,hcs 2 _ rfl,h⟩
theorem eL {w:World} {g o:Nat} {x:Sp} (h:Ej eJ 3 w g o x):w.cell? ⟨g,o,none⟩=some (.string ⟨x.s.toArray⟩)∧w.cell? ⟨g,o+1,none⟩=some (.string ⟨x.e.toArray⟩)∧∃ a c,w.cell? ⟨g,o+2,none⟩=some (.slice a x.ks.length c)∧Sl KE 3 w (.slice a x.ks.length c) x.ks:=by
 obtain ⟨cs,_,hcs,v,rfl,h⟩:=h
 obtain ⟨a,c,rfl⟩:=h.form
 exact ⟨hcs 0 _ rfl,hcs 1 _ rfl,a,c,hcs 2 _ rfl,h⟩
theorem sK {v:Value} {l:List K} (hv:Sl KE 3 w v l) (hl:l.length≤2147483647) (hk:wq True k w):aX prog 159 #[v] k w:=by
 obtain ⟨ka,kc,rfl⟩:=hv.form
 refine ae [.tmp 2] func159 ?_
 refine an ?_
 refine bR (fun i:Nat=>[(0,.slice ka l.length kc),(2,.bool false),(3,.int .i64 i)])
  (fun i w'=>1≤i∧bj w w') (fun i _=>l.length - i) 1 (by kernel_rfl) ?_ ⟨aE _,bj.refl _⟩ ?_
 ·exact bO
 rintro K2 e i w1 ⟨i2,i3⟩ hK2
 rcases aG i l.length with hi | hi
 rotate_left
 ·have hi':¬ (i:Int) < l.length:=by omega
  refine bf @hi' ?_
  exact hk.yes i3 trivial
 have hi':(i:Int) < l.length:=by omega
 obtain ⟨g,f,c,hv',hc,hat⟩:=(hv.inc KE.mono i3.inc).at (by omega)
 obtain ⟨rfl,rfl⟩:=sEq hv'
 obtain ⟨x,hx⟩:=gEl hi
 obtain ⟨y,hy⟩:∃ y,l[i - 1]? = some y:=⟨_,aC (by omega)⟩
 have h0:=(iw (hat i x hx)).1
 have h1:=(iw (hat (i - 1) y hy)).1
 have e1:(i:Int) - 1=((i - 1:Nat):Int):=by omega
 refine dU @hi' @e1 ?_
 refine ay (sq [0,1,2,3,4] (.read 5 (sq [6,7,8,9] (.read 10 (sq [11] .done))))) ?_
 refine eA @h0 @h1 @e1 ?_
 by_cases hlt:(y.tr:Int) < x.tr
 ·refine bf @hlt ?_
  exact hk.no (Keep.drew i3)
 ·refine bf @hlt ?_
  refine hK2 _ _ (i+1) ?_ ⟨by omega,Keep.drew i3⟩ (by omega)
  exact bO
theorem DS {kv:Value} {x:Sp} (hv:Sl KE 3 w kv x.ks) (hl:x.ks.length≤2147483647) (hk:wq (x.s < x.e∧x.ks≠[]) k w):aX prog 143 #[.agg #[.string ⟨x.s.toArray⟩,.string ⟨x.e.toArray⟩,kv]] k w:=by
 obtain ⟨ka,kc,rfl⟩:=hv.form
 refine ae [.tmp 2] func143 ?_
 by_cases h1:x.s < x.e
 ·by_cases h2:(0:Int) < x.ks.length
  ·refine eA @aA @h1 @h2 ?_
   refine sK (hv.inc KE.mono (aM _).inc) hl fun b w2 x2 _ => ?_
   have x3:=(aM _).trans x2
   refine an ?_
   exact hk _ _ x3 fun _=>⟨h1,List.length_pos_iff.1 (by omega)⟩
  ·refine eA @aA @h1 @h2 ?_
   exact hk.no (aM _)
 ·refine dU @aA @h1 ?_
  exact hk.no (aM _)
theorem DU {v:Value} {l:List Sp} {n:Nat} (hv:Sl eJ 3 w v l) (hl:l.length≤2147483647) (hk:wq (l.length≤n∧∀ x ∈ l,x.ks.length≤40) k w):aX prog 128 #[v,.int .i64 n] k w:=by
 obtain ⟨ka,kc,rfl⟩:=hv.form
 refine ae [.tmp 4] func128 ?_
 refine an ?_
 refine bR (fun i:Nat=>[(0,.slice ka l.length kc),(1,.int .i64 n),(4,.bool false),(7,.slice ka l.length kc),(7+1,.int .i64 l.length),(7+2,.int .i64 i)])
  (fun i w'=>i≤l.length∧bj w w'∧∀ x ∈ l.take i,x.ks.length≤40) (fun i _=>l.length - i) 0 (by kernel_rfl) ?_ ⟨aP _,bj.refl _,by simp⟩ ?_
 ·exact bO
 rintro K2 e i w1 ⟨i2,i3,i4⟩ hK2
 rcases aG i l.length with hi | hi
 rotate_left
 ·have hi':¬ (i:Int) < l.length:=by omega
  obtain rfl:i=l.length:=by omega
  rw [ah] at i4
  by_cases hln:(l.length:Int)≤n; (simp (disch:=first | exact dZ | fail) only [go_sem,hi',hln]; exact hk.yes i3 ⟨by omega,i4⟩); (simp (disch:=first | exact dZ | fail) only [go_sem,hi',hln]; exact hk.no i3)
 have hi':(i:Int) < l.length:=by omega
 obtain ⟨g,f,c,hv',hc,hat⟩:=(hv.inc eJ.mono i3.inc).at (by omega)
 obtain ⟨rfl,rfl⟩:=sEq hv'
 obtain ⟨x,hx⟩:=gEl hi
 obtain ⟨cs,_,hcs,hR⟩:=hat i x hx
 have hA:=hat i x hx
 obtain ⟨h0,h1,a,cc,h2,_⟩:=eL hA
 by_cases h40:40 < (x.ks.length:Int)
 ·refine pI @hi' @h0 @h1 @h2 @aA @h40 ?_
  exact hk.no (i3.trans (aM _))
 ·refine pI @hi' @h0 @h1 @h2 @aA @h40 ?_
  refine hK2 _ _ (i+1) ?_ ⟨hi,i3.trans (aM _),gX i4 hx (by omega)⟩ (by omega)
  exact bO
theorem DV {v:Value} {l:List Sp} (hv:Sl eJ 3 w v l) (hl:l.length≤2147483647) (hks:∀ x ∈ l,x.ks.length≤2147483647) (hk:wq (Wf l∧∀ x ∈ l,x.ks≠[]) k w):aX prog 129 #[v] k w:=by
 obtain ⟨ka,kc,rfl⟩:=hv.form
 refine ae [.tmp 2] func129 ?_
 refine an ?_
 refine bR (fun i:Nat=>[(0,.slice ka l.length kc),(2,.bool false),(5,.slice ka l.length kc),(6,.int .i64 l.length),(7,.int .i64 i)])
  (fun i w'=>i≤l.length∧bj w w'∧(∀ j (h:j < l.length),j < i→l[j].s < l[j].e∧l[j].ks≠[])∧∀ j (h:j+1 < l.length),j+1 < i→¬ l[j+1].s < l[j].e) (fun i _=>l.length - i) 0 (by kernel_rfl) ?_ ⟨aP _,bj.refl _,fun _ _ h=>by omega,fun _ _ h=>by omega⟩ ?_
 ·exact bO
 rintro K2 e i w1 ⟨i2,i3,i4,i5⟩ hK2
 rcases aG i l.length with hi | hi
 rotate_left
 ·have hi':¬ (i:Int) < l.length:=by omega
  obtain rfl:i=l.length:=by omega
  refine bf @hi' ?_
  refine hk.yes i3 ⟨GM (fun j h=>(i4 j h h).1) fun j h=>i5 j h h,fun x hx => ?_⟩
  obtain ⟨j,hj,rfl⟩:=aq hx
  exact (i4 j hj hj).2
 have hi':(i:Int) < l.length:=by omega
 obtain ⟨g,f,c,hv',hc,hat⟩:=(hv.inc eJ.mono i3.inc).at (by omega)
 obtain ⟨rfl,rfl⟩:=sEq hv'
 have hx:l[i]? = some l[i]:=aC hi
 obtain ⟨x,hxe⟩:∃ x,x=l[i]:=⟨_,rfl⟩
 rw [← hxe] at hx
 obtain ⟨h0,h1,a,cc,h2,hks2⟩:=eL (hat i x hx)
 refine fI @hi' @h0 @h1 @h2 ?_
 obtain ⟨O,hO⟩:∃ O,O=Obj.cells #[.string ⟨x.s.toArray⟩,.string ⟨x.e.toArray⟩,.slice a x.ks.length cc] 46:=⟨_,rfl⟩
 obtain ⟨B,hB⟩:∃ B,B=w1.heap.size:=⟨_,rfl⟩
 rw [← hO,← hB]
 have c0:(w1.alloc O).cell? ⟨B,0,none⟩=some (.string ⟨x.s.toArray⟩):=by rw [hO,hB]; exact bk @aA
 have c1:(w1.alloc O).cell? ⟨B,1,none⟩=some (.string ⟨x.e.toArray⟩):=by rw [hO,hB]; exact bk @aA
 have c2:(w1.alloc O).cell? ⟨B,2,none⟩=some (.slice a x.ks.length cc):=by rw [hO,hB]; exact bk @aA
 refine ay (.read 0 (.eff 1 [] (sq [2,3,4,5,6,7,8,9,10,11] (.read 12 (sq [13] (.read 14 (sq [15,16,17] .done))))))) ?_
 refine eA @c0 @c1 @c2 ?_
 refine DS (hks2.inc KE.mono (bj.drew' (aM O)).inc) (hks _ (aK hx)) fun b w2 x2 hb => ?_
 have x3:bj w1 w2:=(Keep.drew (aM O)).trans x2
 have x4:=i3.trans x3
 cases b with
 | false =>
  refine an ?_
  exact hk.no x4
 | true =>
  obtain ⟨f1,f2⟩:=hb rfl
  have c0:=x2.cell (show (w1.alloc O).drew.cell? _=_ from c0)
  rcases bE i with hz | hz
  ·have hz':¬ (0:Int) < (i:Int):=by omega
   refine bf @hz' ?_
   refine hK2 _ _ (i+1) ?_ ⟨hi,x4,fun j h hj => ?_,fun j h hj=>by omega⟩ (by omega)
   ·exact bO
   ·obtain rfl:j=i:=by omega
    rw [← hxe]; exact ⟨f1,f2⟩
  ·have hz':(0:Int) < (i:Int):=by omega
   obtain ⟨y,hy⟩:∃ y,l[i - 1]? = some y:=⟨_,aC (by omega)⟩
   have e1:(i:Int) - 1=((i - 1:Nat):Int):=by omega
   have g1:=x3.cell (eL (hat (i - 1) y hy)).2.1
   have hye:y=l[i - 1]:=by rw [aC (by omega)] at hy; cases hy; rfl
   by_cases hlt:x.s < y.e
   ·refine gq @hz' @e1 @g1 @c0 @hlt ?_
    exact hk.no x4
   ·refine gq @hz' @e1 @g1 @c0 @hlt ?_
    refine hK2 _ _ (i+1) ?_ ⟨hi,x4,fun j h hj => ?_,fun j h hj => ?_⟩ (by omega)
    ·exact bO
    ·rcases aG j i with h3 | h3
     ·exact i4 j h h3
     ·obtain rfl:j=i:=by omega
      rw [← hxe]; exact ⟨f1,f2⟩
    ·rcases aG (j+1) i with h3 | h3
     ·exact i5 j h h3
     ·obtain rfl:j=i - 1:=by omega
      rw [← hye]
      simp only [show i - 1+1=i by omega]
      rw [← hxe]
      exact hlt
def I9 (n:Nat) (l:List Sp):Prop:=l.length≤n∧Wf l∧∀ x ∈ l,x.ks≠[]∧x.ks.length≤40
theorem ux {v:Value} {l:List Sp} {n:Nat} (hv:Sl eJ 3 w v l) (hl:l.length≤2147483647) (hks:∀ x ∈ l,x.ks.length≤2147483647) (hk:wq (I9 n l) k w):aX prog 94 #[v,.int .i64 n] k w:=by
 obtain ⟨ka,kc,rfl⟩:=hv.form
 refine ae [.tmp 4] func94 ?_
 refine an ?_
 refine DU hv hl fun b w2 x2 hb => ?_
 cases b with
 | false =>
  refine an ?_
  exact hk.no x2
 | true =>
  refine an ?_
  refine DV (hv.inc eJ.mono x2.inc) hl hks fun b w3 x3 hc => ?_
  refine an ?_
  exact hk _ _ (x2.trans x3) fun h=>⟨(hb rfl).1,(hc h).1,fun x hx=>⟨(hc h).2 x hx,(hb rfl).2 x hx⟩⟩
theorem sL {v:Value} {l:List (List Sp)} {n:Nat} (hv:Sl mf 1 w v l) (hl:l.length≤2147483647) (hs:∀ x ∈ l,x.length≤2147483647∧∀ y ∈ x,y.ks.length≤2147483647) (hk:wq (l.length≤6∧∀ x ∈ l,I9 n x) k w):aX prog 57 #[v,.int .i64 n] k w:=by
 obtain ⟨ka,kc,rfl⟩:=hv.form
 refine ae [.tmp 4] func57 ?_
 refine an ?_
 refine bR (fun i:Nat=>[(0,.slice ka l.length kc),(1,.int .i64 n),(4,.bool false),(7,.slice ka l.length kc),(7+1,.int .i64 l.length),(7+2,.int .i64 i)])
  (fun i w'=>i≤l.length∧bj w w'∧∀ x ∈ l.take i,I9 n x) (fun i _=>l.length - i) 0 (by kernel_rfl) ?_ ⟨aP _,bj.refl _,by simp⟩ ?_
 ·exact bO
 rintro K2 e i w1 ⟨i2,i3,i4⟩ hK2
 rcases aG i l.length with hi | hi
 rotate_left
 ·have hi':¬ (i:Int) < l.length:=by omega
  obtain rfl:i=l.length:=by omega
  rw [ah] at i4
  by_cases hln:(l.length:Int)≤6; (simp (disch:=first | exact dZ | fail) only [go_sem,hi',hln]; exact hk.yes i3 ⟨by omega,i4⟩); (simp (disch:=first | exact dZ | fail) only [go_sem,hi',hln]; exact hk.no i3)
 have hi':(i:Int) < l.length:=by omega
 obtain ⟨g,f,c,hv',hc,hat⟩:=(hv.inc mf.mono i3.inc).at (by omega)
 obtain ⟨rfl,rfl⟩:=sEq hv'
 obtain ⟨x,hx⟩:=gEl hi
 obtain ⟨cs,_,hcs,hR⟩:=hat i x hx
 obtain ⟨kv,rfl,hkv⟩:=hR
 obtain ⟨kva,kvc,rfl⟩:=hkv.form
 have h0:w1.cell? ⟨g,f+i * 1,none⟩=some (.slice kva x.length kvc):=hcs 0 _ rfl
 obtain ⟨s1,s2⟩:=hs x (aK hx)
 refine dU @hi' @h0 ?_
 refine ux hkv s1 s2 fun b w2 x2 hb => ?_
 have x3:=i3.trans x2
 cases b with
 | false =>
  refine an ?_
  exact hk.no (x3)
 | true =>
  refine an ?_
  refine hK2 _ _ (i+1) ?_ ⟨hi,x3,gX i4 hx (hb rfl)⟩ (by omega)
  exact bO
end
end Go.Proofs
end
section
namespace Go.E
open Go Go.Sort Go.Proofs Go.Proofs.Tryz
def xw (x:K):List Value:=[.int .u64 x.tr,str x.suf,str x.val]
theorem rB (x:K):(xw x).length=3:=rfl
theorem rC (x:K):∀ y ∈ xw x,y.oneCell'=true:=by simp [xw,Value.oneCell',str]
def fG {α:Type} (x:α) (a:List α) (j:Nat):List α:=a.take j++x :: a.drop j
theorem xM {α:Type} (x:α) {a:List α} {j:Nat} (h:j≤a.length):(fG x a j).length=a.length+1:=by unfold fG; simp; omega
theorem DW {α:Type} (x:α) (a:List α):a++[x]=fG x a a.length:=by unfold fG; simp
theorem BZ {α:Type} (x:α) {a:List α} {j:Nat} (h:j≤a.length):(fG x a j)[j]? = some x:=by
 unfold fG
 rw [bC (by rw [bB]; omega),bB,Nat.min_eq_left h,Nat.sub_self]
 rfl
theorem DX {α:Type} (x:α) {a:List α} {j i:Nat} (h:j≤a.length) (hi:i < j):(fG x a j)[i]? = a[i]? := by
 unfold fG
 rw [bV (by rw [bB]; omega),List.getElem?_take_of_lt hi]
theorem Ba {α:Type} (x y:α) {a:List α} {j:Nat} (h:j+1≤a.length) (hy:a[j]? = some y):((fG x a (j+1)).set (j+1) y).set j x=fG x a j:=by
 have hj:j < a.length:=by omega
 have hy':a[j]=y:=by rw [aC hj] at hy; simpa using hy
 unfold fG
 rw [List.take_add_one,hy,cw hj,hy']
 have e1:(a.take j++(some y).toList++x :: a.drop (j+1))=a.take j++y :: x :: a.drop (j+1):=by simp
 have hl:(a.take j).length=j:=by rw [bB]; omega
 rw [e1,List.set_append_right _ _ (by omega),List.set_append_right _ _ (by omega),hl]
 simp
theorem jc {α:Type} {lt:α→α→Bool} {x y:α} {l:List α} {i:Nat} (hy:l[i]? = some y):gN lt x l (i+1)=if lt x y then gN lt x l i else i+1:=by
 conv=>lhs; unfold gN
 rw [hy]
theorem sN {α:Type} {lt:α→α→Bool} {l:List α} {i:Nat} {x:α} (h:l[i]? = some x):lU lt (l.take (i+1))=mj lt x (lU lt (l.take i)):=by
 rw [bw h]
 unfold lU
 rw [List.foldl_append]
 rfl
section
variable {α:Type} {ce:α→List Value} {el:TypeId} {w:World} {l:List α} {g n c i:Nat} {a b e:Value}
theorem OwnC.set3' (h:OwnC ce 3 el w (.slice (some ⟨g,0,none⟩) n c) l) (hn:l.length=n) (hi:i < l.length) (y:α) (hy:ce y=[a,b,e]):OwnC ce 3 el (((w.setCell ⟨g,i * 3,none⟩ a).setCell ⟨g,i * 3+1,none⟩ b).setCell ⟨g,i * 3+2,none⟩ e) (.slice (some ⟨g,0,none⟩) n c) (l.set i y):=by
 subst hn; exact h.set3 hi y hy
end
end Go.E
namespace Go.Proofs
open Go Go.E Go.Sort Go.Proofs.Tryz
section
variable {k:au} {d w:World}
set_option maxHeartbeats 1000000 in
theorem tx {v:Value} {l:List K} (hv:Sl KE 3 w v l) (hl:l.length < 100000) (hk:∀ v' w',bj w w'→OwnC xw 3 88 w' v' (eF l)→(∀ g,v'.ownBlock=some g→w.heap.size≤g)→k v' w'):aX prog 75 #[v] k w:=by
 obtain ⟨ka,kc,rfl⟩:=hv.form
 refine ae [.tmp 2] func75 ?_
 refine an ?_
 refine bR (fun b:Nat × Value=>[(3,b.2),(7,.slice ka l.length kc),(8,.int .i64 l.length),(9,.int .i64 b.1)])
  (fun b w'=>b.1≤l.length∧bj w w'∧OwnC xw 3 88 w' b.2 (lU gY (l.take b.1))∧∀ g,b.2.ownBlock=some g→w.heap.size≤g) (fun b _=>l.length - b.1) (0,.slice none 0 0) (by kernel_rfl) ?_ ⟨aP _,bj.refl _,OwnC.nil rB,by simp [Value.ownBlock]⟩ ?_
 ·exact bO
 rintro K2 e ⟨i,v⟩ w1 ⟨i2,i3,i4,i5⟩ hK2
 simp only at i2 i4 i5
 rcases aG i l.length with hi | hi
 rotate_left
 ·have hi':¬ (i:Int) < l.length:=by omega
  refine bf @hi' ?_
  obtain rfl:i=l.length:=by omega
  rw [ah] at i4
  exact hk v w1 i3 i4 i5
 have hi':(i:Int) < l.length:=by omega
 obtain ⟨g,f,c,hv',hc,hat⟩:=(hv.inc KE.mono i3.inc).at (by omega)
 obtain ⟨rfl,rfl⟩:=sEq hv'
 obtain ⟨x,hx⟩:=gEl hi
 obtain ⟨h0,h1,h2,htr⟩:=iw (hat i x hx)
 obtain ⟨a,ha⟩:∃ a,a=lU gY (l.take i):=⟨_,rfl⟩
 have hal:a.length=i:=by rw [ha,pB,dS i2]
 rw [← ha] at i4
 obtain ⟨va,vcap,rfl,_,hcm⟩:=i4.form
 refine gq @hi' @h0 @h1 @h2 @aA ?_
 refine z8 x rw44 (i4.ext (aM _)) rfl (.inl rfl) (by rw [World.size_alloc]) (rC x) (by omega) fun v2 w2 o2 k2 n2 => ?_
 have x2:bj w w2:=(i3.trans (aM _)).tr k2 fun b o hb h=>by have:=i5 b h; omega
 have new2:∀ g,v2.ownBlock=some g→w.heap.size≤g:=fun g hg=>by
  rcases n2 g hg with h | h
  ·exact i5 g h
  ·rw [World.size_alloc] at h
   have:=i3.size
   omega
 rw [DW] at o2
 obtain ⟨g2,c2,rfl,_⟩:=o2.block (i:=0) (by rw [xM x (aE _)]; omega)
 have hlen:∀ j,j≤a.length→(fG x a j).length=a.length+1:=fun j hj=>xM x hj
 rw [hlen _ (aE _)] at o2 ⊢
 have e1:IntKind.i64.wrap ((a.length:Int)+1 - 1)=a.length:=by rw [jD (by omega) (by omega)]; omega
 have e2:((a.length+1:Nat):Int) - 1=a.length:=by omega
 refine bf @e2 ?_
 refine bR (fun j:Nat=>[(3,.slice (some ⟨g2,0,none⟩) (a.length+1) c2),(6,.int .i64 j),(7,.slice (some ⟨g,f,none⟩) l.length kc),(8,.int .i64 l.length),(9,.int .i64 i)])
  (fun j w'=>j≤a.length∧bj w w'∧OwnC xw 3 88 w' (.slice (some ⟨g2,0,none⟩) (a.length+1) c2) (fG x a j)∧gN gY x a a.length=gN gY x a j) (fun j _=>j) a.length (by kernel_rfl) ?_ ⟨aE _,x2,o2,rfl⟩ ?_
 ·exact bO
 rintro K3 e3 j w3 ⟨j1,j2,j3,j4⟩ hK3
 have j3':OwnC xw 3 88 w3 (.slice (some ⟨g2,0,none⟩) (fG x a j).length c2) (fG x a j):=by rw [hlen _ j1]; exact j3
 rcases j with _ | j
 ·have hz:¬ (0:Int) < ((0:Nat):Int):=by omega
  refine an ?_
  refine ay (sq [0,1,2,3,4,5] (.read 6 (sq [7,8,9,10] (.read 11 (.eff 12 [] (sq [13] .done)))))) ?_
  refine bf @hz ?_
  have j3:=j3.ext (bj.drew' (bj.refl w3))
  have j2:=bj.drew' j2
  have hj:gN gY x a a.length=0:=by
   rw [j4]
   first | rfl | (rw [jc hy,if_neg (by rw [hlt]; simp)])
  have hins:mj gY x a=fG x a (0):=by
   unfold mj fG
   rw [hj]
  refine hK2 _ _ (i+1,.slice (some ⟨g2,0,none⟩) (a.length+1) c2) ?_ ⟨hi,j2,?_,new2⟩ (by simp only; omega)
  ·exact bO
  ·simp only
   rw [sN hx,← ha,hins]
   exact j3
 have hz:(0:Int) < ((j+1:Nat):Int):=by omega
 have e3:((j+1:Nat):Int) - 1=(j:Nat):=by omega
 obtain ⟨y,hy⟩:∃ y,a[j]? = some y:=⟨_,aC (by omega)⟩
 have hx1:=BZ x j1
 have hy1:(fG x a (j+1))[j]? = some y:=by rw [DX x j1 (by omega)]; exact hy
 have p0:=j3'.cell hx1 (j:=0) rfl
 have p1:=j3'.cell hx1 (j:=1) rfl
 have p2:=j3'.cell hx1 (j:=2) rfl
 have q0:=j3'.cell hy1 (j:=0) rfl
 have q1:=j3'.cell hy1 (j:=1) rfl
 have q2:=j3'.cell hy1 (j:=2) rfl
 simp only [str,Nat.add_zero] at p0 p1 p2 q0 q1 q2
 refine an ?_
 refine ay (sq [0,1,2,3,4,5] (.read 6 (sq [7,8,9,10] (.read 11 (.eff 12 [] (sq [13] .done)))))) ?_
 refine xq @hz @e3 @p0 @p1 @p2 @q0 @q1 @q2 ?_
 refine xL (x:=x) (y:=y) fun w4 x4 => ?_
 have x5:bj w3 w4:=(Keep.refl _ w3).drew.trans x4
 cases hlt:gY x y with
 | false =>
  refine an ?_
  have j3:=j3.ext x5
  have j2:=j2.trans x5
  have hj:gN gY x a a.length=j+1:=by
   rw [j4]
   first | rfl | (rw [jc hy,if_neg (by rw [hlt]; simp)])
  have hins:mj gY x a=fG x a (j+1):=by
   unfold mj fG
   rw [hj]
  refine hK2 _ _ (i+1,.slice (some ⟨g2,0,none⟩) (a.length+1) c2) ?_ ⟨hi,j2,?_,new2⟩ (by simp only; omega)
  ·exact bO
  ·simp only
   rw [sN hx,← ha,hins]
   exact j3
 | true =>
  have o4:=j3.ext x5
  have p0:=x5.cell p0
  have p1:=x5.cell p1
  have p2:=x5.cell p2
  have q0:=x5.cell q0
  have q1:=x5.cell q1
  have q2:=x5.cell q2
  have f4:∀ o,w4.frozen? ⟨g2,o,none⟩=false:=fun o=>cl o4.own rfl o
  refine an ?_
  refine ay (sq [0,1,2,3,4,5,6,7,8] (.read 9 (sq [10,11,12] (.read 13 (sq [14] (.eff 15 [] (sq [16] (.eff 17 [] .done)))))))) ?_
  refine xq @e3 @p0 @p1 @p2 @q0 @q1 @q2 @f4 ?_
  have o6:=(o4.set3' (hlen _ j1) (i:=j+1) (by rw [hlen _ j1]; omega) y rfl).set3' (by rw [dR]; exact hlen _ j1) (i:=j) (by rw [dR,hlen _ j1]; omega) x rfl
  rw [Ba x y j1 hy] at o6
  have hg2:=new2 g2 rfl
  refine hK3 _ _ j ?_ ⟨by omega,bj.drew' (cC (cC (cC (cC (cC (cC (j2.trans x5) hg2) hg2) hg2) hg2) hg2) hg2),o6.ext (bj.drew' (bj.refl _)),?_⟩ (by omega)
  ·exact bO
  ·rw [j4]
   rw [jc hy,if_pos hlt]
end
end Go.Proofs
end
