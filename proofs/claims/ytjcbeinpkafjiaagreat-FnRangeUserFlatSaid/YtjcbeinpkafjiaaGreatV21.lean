/- Parts of the proof: Vd, Ve, Vf, Vg, Vh, Xb, Xd, Xc, Xe. -/
import Derived.Test.YtjcbeinpkafjiaaGreatV19
import Derived.Test.YtjcbeinpkafjiaaGreatV20
set_option linter.all false
set_option maxRecDepth 10000
section
namespace Go.E
open Go Go.Sort Go.Proofs
def ee (x:Bytes) (s:Sp):Bool:=decide (¬ x < s.s∧x < s.e)
def eJ (V:List Sp) (x:Bytes):List SV:=match V.find? (ee x) with
 | some s=>s.ks.map K.sv
 | none=>[]
structure Mx (V:List Sp):Prop where
 ne:∀ s ∈ V,s.s < s.e∧s.ks≠[]
 pw:V.Pairwise fun a b=>¬ b.s < a.e
 mx:∀ l a b m,V=l++a :: b :: m→a.e=b.s→a.ks.map K.sv≠b.ks.map K.sv
theorem Mx.tail {a:Sp} {V:List Sp} (h:Mx (a :: V)):Mx V:=⟨fun s hs=>h.ne s (aj _ hs),h.pw.of_cons,fun l x b m e=>h.mx (a :: l) x b m (by rw [e]; rfl)⟩
theorem te (x:Bytes):eJ [] x=[]:=rfl
theorem il {a:Sp} {V:List Sp} {x:Bytes} (h1:¬ x < a.s) (h2:x < a.e):eJ (a :: V) x=a.ks.map K.sv:=by
 unfold eJ
 rw [List.find?_cons_of_pos (show ee x a=true from aT ⟨h1,h2⟩)]
theorem pQ {a:Sp} {V:List Sp} {x:Bytes} (h:¬ (¬ x < a.s∧x < a.e)):eJ (a :: V) x=eJ V x:=by
 unfold eJ
 rw [List.find?_cons_of_neg (by unfold ee; simpa using h)]
theorem wm {V:List Sp} {x:Bytes} (h:∀ s ∈ V,x < s.s):eJ V x=[]:=by
 unfold eJ
 have:V.find? (ee x)=none:=List.find?_eq_none.2 fun s hs=>by
  unfold ee
  rw [decide_eq_true_eq]
  exact fun hh=>hh.1 (h s hs)
 rw [this]
theorem rl {V:List Sp} {x:Bytes} (h:eJ V x≠[]):∃ s ∈ V,¬ x < s.s∧x < s.e∧eJ V x=s.ks.map K.sv:=by
 unfold eJ at h ⊢
 cases hf:V.find? (ee x) with
 | none=>rw [hf] at h; exact absurd rfl h
 | some s =>
  have:=List.find?_some hf
  unfold ee at this
  rw [decide_eq_true_eq] at this
  exact ⟨s,List.mem_of_find?_eq_some hf,this.1,this.2,rfl⟩
theorem Mx.after {a:Sp} {V:List Sp} (h:Mx (a :: V)) {x:Bytes} (hx:x < a.e):eJ V x=[] :=
 wm fun _ hs=>bp hx (bO h.pw hs)
theorem kN {l:List K} (h:l≠[]):l.map K.sv≠[]:=by simpa using h
theorem C7 {a b:Sp} {V W:List Sp} (hV:Mx (a :: V)) (hW:Mx (b :: W)) (hf:∀ x,eJ (a :: V) x=eJ (b :: W) x) (hs:a.s=b.s) (hk:a.ks.map K.sv=b.ks.map K.sv):¬ a.e < b.e:=fun hlt=>by
 have ha:=hV.ne a aP
 have e:=hf a.e
 rw [il (by rw [← hs]; exact fw ha.1) hlt,pQ (fun h=>bB _ h.2)] at e
 obtain ⟨c,hc,h1,h2,h3⟩:=rl (V:=V) (x:=a.e) (by rw [e]; exact kN (hW.ne b aP).2)
 cases V with
 | nil=>simp at hc
 | cons d V =>
  have hd:=hV.ne d (by simp)
  have hda:¬ d.s < a.e:=bO hV.pw aP
  have hdc:¬ c.s < d.s:=by
   rcases al.1 hc with rfl | hc
   ·exact bB _
   ·have:=bO hV.tail.pw hc
    exact fun h=>this (List.lt_trans h hd.1)
  have hae:a.e=d.s:=by
   refine cx (fun h=>h1 (bp h hdc)) hda
  have:eJ (d :: V) a.e=d.ks.map K.sv:=il (by rw [hae]; exact bB _) (by rw [hae]; exact hd.1)
  exact hV.mx [] a d V rfl hae (by rw [hk,← e,this])
theorem BH (V W:List Sp) (hV:Mx V) (hW:Mx W) (hf:∀ x,eJ V x=eJ W x):V.map cW=W.map cW:=by
 induction V generalizing W with
 | nil =>
  cases W with
  | nil=>rfl
  | cons b W =>
   have hb:=hW.ne b aP
   have:=hf b.s
   rw [il (bB _) hb.1,te] at this
   exact absurd this.symm (kN hb.2)
 | cons a V ih =>
  cases W with
  | nil =>
   have hb:=hV.ne a aP
   have:=hf a.s
   rw [il (bB _) hb.1,te] at this
   exact absurd this (kN hb.2)
  | cons b W =>
   have ha:=hV.ne a aP
   have hb:=hW.ne b aP
   have first:∀ {c:Sp} {U:List Sp},Mx (c :: U)→∀ {x},eJ (c :: U) x≠[]→¬ x < c.s:=by
    intro c U hU x hx
    obtain ⟨s,hs,h1,h2,_⟩:=rl hx
    rcases al.1 hs with rfl | hs
    ·exact h1
    ·have h3:=bO hU.pw hs
     have h4:=(hU.ne c aP).1
     intro h5
     exact h1 (bp (List.lt_trans h5 h4) h3)
   have hs:a.s=b.s:=by
    refine cx (first hW ?_) (first hV ?_)
    ·rw [← hf,il (bB _) ha.1]; exact kN ha.2
    ·rw [hf,il (bB _) hb.1]; exact kN hb.2
   have hk:a.ks.map K.sv=b.ks.map K.sv:=by
    have:=hf a.s
    rwa [il (bB _) ha.1,hs,il (bB _) hb.1] at this
   have he:a.e=b.e:=cx (C7 hV hW hf hs hk) (C7 hW hV (fun x=>(hf x).symm) hs.symm hk.symm)
   rw [List.map_cons,List.map_cons,wj hs he hk]
   congr 1
   refine ih W hV.tail hW.tail fun x => ?_
   by_cases hx:x < a.e
   ·rw [hV.after hx,hW.after (he ▸ hx)]
   ·have:=hf x
    rwa [pQ (fun h=>hx h.2),pQ (fun h=>hx (he ▸ h.2))] at this
def iG (V:List Sp):List Sp:=V.filter fun s=>decide (s.ks≠[])
theorem zi {G:List Sp} (hw:Wf G):Mx (iG (Vw G)):=by
 have hv:=zh hw
 have hp:(Vw G).Pairwise fun a b=>¬ b.s < a.e:=by
  rw [bI]
  intro i j hi hj hij
  have:=hv.2 i j hij hj
  rw [aH (Vw G) i hi,aH (Vw G) j hj] at this
  grind
 have hne:∀ s ∈ Vw G,s.s < s.e:=fun s hs=>by
  obtain ⟨i,hi,rfl⟩:=ao hs
  have:=hv.1 i hi
  rwa [aH (Vw G) i hi] at this
 refine ⟨fun s hs => ?_,hp.filter _,fun l a b m e hab hk => ?_⟩
 ·have:=bk.1 hs
  exact ⟨hne s this.1,of_decide_eq_true this.2⟩
 ·
  have hsub:∃ p,p+1 < (Vw G).length∧(Vw G)[p]! = a∧(Vw G)[p+1]! = b:=by
   have hma:a ∈ iG (Vw G):=by rw [e]; simp
   have hmb:b ∈ iG (Vw G):=by rw [e]; simp
   obtain ⟨i,hi,ei⟩:=ao (bk.1 hma).1
   obtain ⟨j,hj,ej⟩:=ao (bk.1 hmb).1
   have ha:=hne a (bk.1 hma).1
   have hb:=hne b (bk.1 hmb).1
   have hpi:=bI.1 hp
   have hij:i < j:=by
    rcases cz i j with h | h | h
    ·exact h
    ·subst h
     rw [ei] at ej
     subst ej
     rw [hab] at ha
     exact absurd ha (bB _)
    ·have:=hpi j i hj hi h
     rw [ei,ej] at this
     exfalso
     exact this (List.lt_trans ha (hab ▸ hb))
   refine ⟨i,by omega,by rw [aH (Vw G) i hi]; exact ei,?_⟩
   rcases aG (i+1) j with h | h
   ·exfalso
    have h1:=hpi i (i+1) hi (by omega) (by omega)
    have h2:=hpi (i+1) j (by omega) hj h
    have h3:=hne _ (ae (by omega:i+1 < (Vw G).length))
    rw [ei] at h1
    rw [ej,← hab] at h2
    exact h1 (bp h3 h2)
   ·obtain rfl:j=i+1:=by omega
    rw [aH (Vw G) (i+1) hj]; exact ej
  obtain ⟨p,hp1,hpa,hpb⟩:=hsub
  rw [dB] at hp1
  have hn:=zT (G:=G) (show p < (cY G).length by omega)
  have h1:=dJ (G:=G) (show p < (cY G).length by omega)
  rw [gq (by omega:p < (cY G).length)] at hpa
  rw [gq hp1] at hpb
  have hs:=gP hp1
  refine hn ⟨?_,?_,?_,?_⟩
  ·have:=(fY hp1).1; omega
  ·rw [show fh G p - 1+1=(cY G)[p+1]! by omega]
   rw [← hpa,← hpb] at hab
   exact hab
  ·have hka:a.ks≠[]:=of_decide_eq_true (bk.1 (show a ∈ iG (Vw G) by rw [e]; simp)).2
   have:=l9 (G:=G) (p:=p) (j:=fh G p - 1) (by omega) (by omega) (by omega)
   intro h0
   rw [h0] at this
   rw [← hpa] at hka
   exact hka (by simpa using this.symm)
  ·have:=l9 (G:=G) (p:=p) (j:=fh G p - 1) (by omega) (by omega) (by omega)
   rw [this,show fh G p - 1+1=(cY G)[p+1]! by omega]
   rw [← hpa,← hpb] at hk
   exact hk
theorem kO {V:List Sp} (hw:Wf V) {j:Nat} {x:Bytes} (hj:j < V.length) (h1:¬ x < V[j]!.s) (h2:x < V[j]!.e):eJ V x=V[j]!.ks.map K.sv:=by
 unfold eJ
 cases hf:V.find? (ee x) with
 | none =>
  have:=List.find?_eq_none.1 hf V[j]! (by rw [aH V j hj]; exact ae hj)
  unfold ee at this
  rw [decide_eq_true_eq] at this
  exact absurd ⟨h1,h2⟩ this
 | some s =>
  have h3:=List.find?_some hf
  unfold ee at h3
  rw [decide_eq_true_eq] at h3
  obtain ⟨i,hi,e⟩:=ao (List.mem_of_find?_eq_some hf)
  have hij:i=j:=by
   rcases cz i j with h | h | h
   ·have:=hw.2 i j h hj
    rw [aH V i hi,e] at this
    exact absurd (bp h3.2 (by grind)) h1
   ·exact h
   ·have:=hw.2 j i h hi
    rw [aH V i hi,e] at this
    exact absurd (bp h2 (by grind)) h3.1
  subst hij
  rw [aH V i hi,e]
theorem kz {V:List Sp} {x:Bytes} (h:∀ j,j < V.length→¬ (¬ x < V[j]!.s∧x < V[j]!.e)):eJ V x=[]:=by
 unfold eJ
 have:V.find? (ee x)=none:=List.find?_eq_none.2 fun s hs=>by
  obtain ⟨j,hj,e⟩:=ao hs
  have:=h j hj
  rw [aH V j hj,e] at this
  unfold ee
  rw [decide_eq_true_eq]
  exact this
 rw [this]
theorem F1 {G:List Sp} (hw:Wf G) {p:Nat} (hp:p < (cY G).length) {x:Bytes} (h1:¬ x < G[(cY G)[p]!]!.s) (h2:x < G[fh G p - 1]!.e):∃ j,(cY G)[p]! ≤ j∧j < fh G p∧¬ x < G[j]!.s∧x < G[j]!.e:=by
 have hg:=dJ hp
 have aux:∀ m,(cY G)[p]! + m < fh G p→(x < G[(cY G)[p]! + m]!.e)→∃ j,(cY G)[p]! ≤ j∧j < fh G p∧¬ x < G[j]!.s∧x < G[j]!.e:=by
  intro m
  induction m with
  | zero=>intro h3 h4; exact ⟨(cY G)[p]!,aE _,by omega,h1,h4⟩
  | succ m ih =>
   intro h3 h4
   by_cases h5:x < G[(cY G)[p]! + m]!.e
   ·exact ih (by omega) h5
   ·have hj:=qA hp (j:=(cY G)[p]! + m) (by omega) (by omega)
    refine ⟨(cY G)[p]! + (m+1),by omega,h3,?_,h4⟩
    rw [show (cY G)[p]! + (m+1)=(cY G)[p]! + m+1 by omega,← hj.2.1]
    exact h5
 refine aux (fh G p - 1 - (cY G)[p]!) (by omega) ?_
 rw [show (cY G)[p]! + (fh G p - 1 - (cY G)[p]!)=fh G p - 1 by omega]
 exact h2
theorem wo {G:List Sp} (hw:Wf G) (x:Bytes):eJ (Vw G) x=eJ G x:=by
 by_cases h:∃ p,p < (cY G).length∧¬ x < G[(cY G)[p]!]!.s∧x < G[fh G p - 1]!.e
 ·obtain ⟨p,hp,h1,h2⟩:=h
  obtain ⟨j,h3,h4,h5,h6⟩:=F1 hw hp h1 h2
  have hv:=gq hp
  have hg:=dJ hp
  rw [kO (zh hw) (j:=p) (by rw [dB]; exact hp) (by rw [hv]; exact h1) (by rw [hv]; exact h2),kO hw (j:=j) (by omega) h5 h6,hv,l9 hp h3 h4]
 ·rw [kz,kz]
  ·intro j hj hh
   obtain ⟨p,hp,h3,h4⟩:=yK hj
   have hg:=dJ hp
   refine h ⟨p,hp,fun h5 => ?_,?_⟩
   ·refine hh.1 (bp h5 ?_)
    rcases aG (cY G)[p]! j with h6 | h6
    ·have a:=hw.2 _ _ h6 hj
     have b:=hw.1 _ (fY hp).1
     exact fun h7=>by exact absurd (List.lt_trans h7 b) (by grind)
    ·rw [show (cY G)[p]! = j by omega]; exact bB _
   ·have:=hw.ends (i:=j) (j:=fh G p - 1) (by omega) (by omega)
    exact bp hh.2 (by grind)
  ·intro j hj hh
   rw [dB] at hj
   rw [gq hj] at hh
   exact h ⟨j,hj,hh⟩
theorem rp {V:List Sp} (hw:Wf V) (x:Bytes):eJ (iG V) x=eJ V x:=by
 by_cases h:∃ j,j < V.length∧¬ x < V[j]!.s∧x < V[j]!.e
 ·obtain ⟨j,hj,h1,h2⟩:=h
  rw [kO hw hj h1 h2]
  unfold eJ
  cases hf:(iG V).find? (ee x) with
  | none =>
   simp only
   have hk:V[j]!.ks=[]:=Classical.byContradiction fun hk=>by
    have:=List.find?_eq_none.1 hf V[j]! (bk.2 ⟨by rw [aH V j hj]; exact ae hj,aT hk⟩)
    unfold ee at this
    rw [decide_eq_true_eq] at this
    exact this ⟨h1,h2⟩
   rw [hk]
   rfl
  | some s =>
   have h3:=List.find?_some hf
   unfold ee at h3
   rw [decide_eq_true_eq] at h3
   have hm:=(bk.1 (List.mem_of_find?_eq_some hf)).1
   obtain ⟨i,hi,e⟩:=ao hm
   have h4:=kO hw hi (x:=x) (by rw [aH V i hi,e]; exact h3.1) (by rw [aH V i hi,e]; exact h3.2)
   rw [kO hw hj h1 h2,aH V i hi,e] at h4
   exact h4.symm
 ·rw [kz (V:=V) fun j hj hh=>h ⟨j,hj,hh⟩]
  unfold eJ
  have:(iG V).find? (ee x)=none:=List.find?_eq_none.2 fun s hs=>by
   obtain ⟨j,hj,e⟩:=ao (bk.1 hs).1
   unfold ee
   rw [decide_eq_true_eq]
   intro hh
   exact h ⟨j,hj,by rw [aH V j hj,e]; exact hh⟩
  rw [this]
theorem wq {G H:List Sp} (hG:Wf G) (hH:Wf H) (h:∀ x,eJ G x=eJ H x):(iG (Vw G)).map cW=(iG (Vw H)).map cW :=
 BH _ _ (zi hG) (zi hH) fun x=>by rw [rp (zh hG),rp (zh hH),wo hG,wo hH,h]
end Go.E
end
section
namespace Go.E
open Go Go.Sort Go.Proofs
def gY (l:List Sp) (x:Bytes):List K:=l.flatMap fun s=>if ee x s then s.ks else []
theorem ef {x:Bytes} {s:Sp}:ee x s=true↔¬ x < s.s∧x < s.e:=by unfold ee; rw [decide_eq_true_eq]
theorem F2 {L:List Sp} (h:Wf L) {x:Bytes} {j:Nat} (hj:j < L.length):ee x L[j]! = true↔cE L x=2 * j+1:=by
 have b0:dI L (2 * j)=L[j]!.s:=by unfold dI; rw [if_pos (by omega),show 2 * j / 2=j by omega]
 have b1:dI L (2 * j+1)=L[j]!.e:=by unfold dI; rw [if_neg (by omega),show (2 * j+1) / 2=j by omega]
 have c0:=tP h (x:=x) (by omega:2 * j < 2 * L.length)
 have c1:=tP h (x:=x) (by omega:2 * j+1 < 2 * L.length)
 rw [b0] at c0
 rw [b1] at c1
 rw [ef,← c0]
 constructor
 ·rintro ⟨h1,h2⟩
  have:¬ 2 * j+1 < cE L x:=fun h3=>c1.1 h3 h2
  omega
 ·intro h1
  refine ⟨by omega,Classical.byContradiction fun h2 => ?_⟩
  have:=c1.2 h2
  omega
theorem C8 {L:List Sp} (h:Wf L) (x:Bytes):gY L x=if cE L x % 2=1 then L[cE L x / 2]!.ks else []:=by
 obtain ⟨c,hc⟩:∃ c,c=cE L x:=⟨_,rfl⟩
 have hle:=zQ L x
 rw [← hc] at hle ⊢
 have key:∀ (A:List Sp) (o:Nat),(∀ j,j < A.length→o+j < L.length∧A[j]! = L[o+j]!)→gY A x=if c % 2=1∧o≤c / 2∧c / 2 < o+A.length then L[c / 2]!.ks else []:=by
  intro A
  induction A with
  | nil =>
   intro o _
   rw [if_neg (by simp only [List.length_nil]; omega)]
   rfl
  | cons a A ih =>
   intro o hA
   have h0:=hA 0 (by simp)
   have hx:a=L[o]! := by simpa using h0.2
   have ih:=ih (o+1) fun j hj=>by
    have:=hA (j+1) (by simp only [aX]; omega)
    rw [show o+(j+1)=o+1+j by omega] at this
    refine ⟨this.1,?_⟩
    rw [← this.2,aH A j hj,aH (a :: A) (j+1) (by simp only [aX]; omega)]
    rfl
   show (if ee x a then a.ks else [])++gY A x=_
   rw [ih,hx]
   have hc1:=F2 h (x:=x) (j:=o) (by omega)
   rw [← hc] at hc1
   by_cases hco:c=2 * o+1
   ·rw [if_pos (hc1.2 hco),if_neg (by omega),if_pos (by simp only [aX]; omega),az,show c / 2=o by omega]
   ·rw [if_neg (fun h=>hco (hc1.1 h)),List.nil_append]
    by_cases h5:c % 2=1∧o+1≤c / 2∧c / 2 < o+1+A.length
    ·rw [if_pos h5,if_pos (by simp only [aX]; omega)]
    ·rw [if_neg h5,if_neg (by simp only [aX]; omega)]
 have:=key L 0 fun j hj=>⟨by omega,by rw [Nat.zero_add]⟩
 rw [this]
 by_cases h5:c % 2=1
 ·rw [if_pos (by omega),if_pos h5]
 ·rw [if_neg (by omega),if_neg h5]
theorem eK (a b:List Sp) (x:Bytes):gY (a++b) x=gY a x++gY b x:=by unfold gY; rw [bP]
theorem wt (Lv:List (List Sp)) (x:Bytes):gY Lv.flatten x=Lv.flatMap fun L=>gY L x:=by
 induction Lv with
 | nil=>rfl
 | cons L Lv ih=>rw [List.flatten_cons,eK,ih,av]
theorem sg {α β:Type} [Inhabited α] (l:List α) (f:α→List β):(List.range l.length).flatMap (fun i=>f l[i]!)=l.flatMap f:=by
 induction l with
 | nil=>rfl
 | cons a l ih =>
  rw [aX,List.range_succ_eq_map,av,List.flatMap_map,av,← ih]
  rfl
section
variable {Lv:List (List Sp)} {snap:Nat}
theorem oY (h:∀ L ∈ Lv,Wf L) (x:Bytes) (u:Nat) (hu:∀ i,i < Lv.length→cp (fW Lv) (cG Lv.flatten) u i=cE (fW Lv i) x):dL Lv.length (fW Lv) (cG Lv.flatten) u=gY Lv.flatten x:=by
 rw [wt,← sg]
 unfold dL
 refine kM fun i hi => ?_
 rw [List.mem_range] at hi
 rw [hu i hi]
 have:Wf Lv[i]! := by rw [aH Lv i hi]; exact h _ (ae hi)
 rw [C8 this]
 rfl
theorem C9 (h:∀ L ∈ Lv,Wf L) {u:Nat} (h0:0 < u):dL Lv.length (fW Lv) (cG Lv.flatten) u=gY Lv.flatten (cG Lv.flatten)[u - 1]! :=
 oY h _ u fun i _=>by unfold cp; rw [if_neg (by omega)]
theorem yk (h:∀ L ∈ Lv,Wf L):dL Lv.length (fW Lv) (cG Lv.flatten) 0=[]:=by
 unfold dL
 refine List.flatMap_eq_nil_iff.2 fun i hi => ?_
 rw [if_neg (by unfold cp; simp)]
theorem Hp (h:∀ L ∈ Lv,Wf L) (hc:∀ x,Cd (gY Lv.flatten x)) (u:Nat):Cd (dL Lv.length (fW Lv) (cG Lv.flatten) u):=by
 rcases bE u with rfl | h0
 ·rw [yk h]; exact ⟨.nil,by simp⟩
 ·rw [C9 h h0]; exact hc _
theorem F3:Tf snap []=[]:=by unfold Tf; simp
theorem wu (h:∀ L ∈ Lv,Wf L) (x:Bytes):eJ (GL snap Lv.length (fW Lv) (cG Lv.flatten)) x=(Tf snap (gY Lv.flatten x)).map K.sv:=by
 have hB:=ku h
 obtain ⟨B,hBe⟩:∃ B,B=cG Lv.flatten:=⟨_,rfl⟩
 have hf:=oY h x (uE B x) (by rw [← hBe]; rw [← hBe] at hB; exact fun i hi=>zU hB hi x)
 rw [← hBe] at hB hf ⊢
 have hu:=mh B x
 cases hcv:mN Lv.length (fW Lv) B (uE B x) with
 | true =>
  have hc:=pE hB hu hcv
  obtain ⟨j,hj,ej⟩:=ao (dC.2 ⟨hu,hcv⟩)
  have e':(cM Lv.length (fW Lv) B)[j]? = some (uE B x):=by rw [aC hj,ej]
  have hg:=kE (snap:=snap) e'
  have h1:=(lJ hB (key:=x) (j:=uE B x - 1) (by omega)).1 (by omega)
  have h2:x < B[uE B x]! := Classical.byContradiction fun h3=>by
   have:=(lJ hB (key:=x) (j:=uE B x) hc.2).2 h3
   omega
  rw [kO (wB hB) (j:=j) (by rw [cJ]; exact hj) (by rw [hg]; exact h1) (by rw [hg]; exact h2),hg,← hf]
  rfl
 | false =>
  have h0:dL Lv.length (fW Lv) B (uE B x)=[]:=by
   unfold dL
   refine List.flatMap_eq_nil_iff.2 fun i hi => ?_
   rw [if_neg fun h1 => ?_]
   rw [oG.2 ⟨i,List.mem_range.1 hi,h1⟩] at hcv
   cases hcv
  rw [← hf,h0,F3,kz fun j hj hh => ?_]
  ·rfl
  ·rw [cJ] at hj
   have e:(cM Lv.length (fW Lv) B)[j]? = some (cM Lv.length (fW Lv) B)[j]:=aC hj
   obtain ⟨u,hue⟩:∃ u,u=(cM Lv.length (fW Lv) B)[j]:=⟨_,rfl⟩
   rw [← hue] at e
   have hm:=dC.1 (aK e)
   have hc:=pE hB hm.1 hm.2
   rw [kE e] at hh
   have h1:=(lJ hB (key:=x) (j:=u - 1) (by omega)).2 hh.1
   have h2:¬ u < uE B x:=fun h3=>(lJ hB (key:=x) (j:=u) hc.2).1 h3 hh.2
   have:uE B x=u:=by omega
   rw [this,hm.2] at hcv
   cases hcv
end
end Go.E
end
section
namespace Go.E
open Go Go.Sort Go.Proofs
def Ch (V:List Sp):Prop:=(∀ s ∈ V,s.s < s.e)∧V.Pairwise fun a b=>¬ b.s < a.e
theorem DA {V:List Sp}:Wf V↔Ch V:=by
 unfold Wf Ch
 rw [bI]
 constructor
 ·rintro ⟨h1,h2⟩
  refine ⟨fun s hs => ?_,fun i j hi hj hij => ?_⟩
  ·obtain ⟨j,hj,rfl⟩:=ao hs
   have:=h1 j hj
   rwa [aH V j hj] at this
  ·have:=h2 i j hij hj
   rw [aH V i hi,aH V j hj] at this
   grind
 ·rintro ⟨h1,h2⟩
  refine ⟨fun i hi => ?_,fun i j hij hj => ?_⟩
  ·rw [aH V i hi]; exact h1 _ (ae hi)
  ·have:=h2 i j (by omega) hj hij
   rw [aH V i (by omega),aH V j hj]
   grind
end Go.E
end
section
namespace Go.E
open Go Go.Sort Go.Proofs
def Gn (V:List Sp) (o:Option Int):Option Nat:=match o with
 | some p=>if 0≤p∧p < V.length then some p.toNat else none
 | none=>none
theorem yl {V:List Sp} {p:Nat} (h:p < V.length):Gn V (some (p:Int))=some p:=(if_pos ⟨by omega,by omega⟩).trans (by simp)
theorem ue {V:List Sp} {p:Int} (h:¬ (0≤p∧p < V.length)):Gn V (some p)=none:=if_neg h
theorem rq (V:List Sp) (p:Int) {last:Nat} (hl:last≠5∧last≠3) (m:Nat):(pJ V p false last (List.replicate m (2,[]))).filterMap (Gn V)=[]:=by
 induction m with
 | zero=>rfl
 | succ m ih =>
  rw [List.replicate_succ]
  unfold pJ
  have:tY 2 false last=false:=by simp [tY,hl]
  rw [this,if_neg (by simp)]
  exact ih
theorem ym (V:List Sp) {last:Nat} (m p:Nat) (hp:p < V.length) (hm:V.length≤p+m+1):(pJ V p true last (List.replicate m (2,[]))).filterMap (Gn V)=List.range' (p+1) (V.length - (p+1)):=by
 induction m generalizing p last with
 | zero =>
  rw [show V.length - (p+1)=0 by omega]
  rfl
 | succ m ih =>
  rw [List.replicate_succ]
  unfold pJ
  have:tY 2 true last=true:=by simp [tY]
  rw [this,if_pos rfl]
  have hmv:mv V p 2 []=((p+1:Nat):Int):=by simp [mv]
  rw [hmv]
  rcases aG (p+1) V.length with h | h
  ·have hi:Aw V ((p+1:Nat):Int)=true:=aT (by omega)
   rw [hi,List.filterMap_cons,yl h,ih (p+1) h (by omega)]
   simp only
   rw [show V.length - (p+1)=V.length - (p+1+1)+1 by omega,List.range'_succ]
  ·have hi:Aw V ((p+1:Nat):Int)=false:=aF (by omega)
   rw [hi,List.filterMap_cons,ue (by omega),rq V _ (by decide)]
   rw [show V.length - (p+1)=0 by omega]
   rfl
theorem BI (V:List Sp) (m:Nat) (hm:V.length≤m+1):(pJ V (-2) false 0 ((0,[]) :: List.replicate m (2,[]))).filterMap (Gn V)=List.range V.length:=by
 unfold pJ
 have:tY 0 false 0=true:=rfl
 rw [this,if_pos rfl]
 have hmv:mv V (-2) 0 []=((0:Nat):Int):=rfl
 rw [hmv]
 rcases bE V.length with h | h
 ·have hi:Aw V ((0:Nat):Int)=false:=aF (by omega)
  rw [hi,List.filterMap_cons,ue (by omega),rq V _ (by decide),h]
  rfl
 ·have hi:Aw V ((0:Nat):Int)=true:=aT (by omega)
  rw [hi,List.filterMap_cons,yl h,ym V m 0 h (by omega)]
  simp only
  rw [List.range_eq_range',← List.range'_succ,show V.length - (0+1)+1=V.length by omega]
def mD (l:List An):List Sp:=(l.filter fun a=>a.ok).map An.sp
theorem DB {V:List Sp} {KS:List K→Prop} {outs:List (Option Int)} {l:List An} (h:Pw (mm V KS) outs l):(mD l).map cW=((outs.filterMap (Gn V)).map fun p=>cW V[p]!)∧∀ s ∈ mD l,KS s.ks:=by
 induction outs generalizing l with
 | nil =>
  obtain rfl:l=[]:=aZ.1 h.1.symm
  exact ⟨rfl,by simp [mD]⟩
 | cons o outs ih =>
  cases l with
  | nil=>simp [Pw] at h
  | cons a l =>
   have hp:Pw (mm V KS) outs l:=⟨by simpa using h.1,fun i x y hx hy=>h.2 (i+1) x y (by simpa using hx) (by simpa using hy)⟩
   obtain ⟨i1,i2⟩:=ih hp
   have ha:mm V KS o a:=h.2 0 o a rfl rfl
   unfold mD at i1 i2 ⊢
   cases o with
   | none =>
    have ha:a=⟨false,false,⟨[],[],[]⟩⟩:=ha
    rw [ha,List.filter_cons_of_neg (by simp),List.filterMap_cons]
    exact ⟨i1,i2⟩
   | some p =>
    obtain ⟨h1,h2,h3,h4⟩:=ha
    by_cases hin:0≤p∧p < V.length
    ·have hv:Aw V p=true:=aT hin
     rw [hv] at h2
     obtain ⟨q,rfl⟩:∃ q:Nat,p=q:=⟨p.toNat,by omega⟩
     obtain ⟨e1,e2,e3,e4⟩:=h3 q rfl (by omega)
     rw [List.filter_cons_of_pos h2,List.filterMap_cons,yl (by omega)]
     simp only [List.map_cons]
     refine ⟨by rw [i1,wj e1 e2 e3],fun s hs => ?_⟩
     rcases al.1 hs with rfl | hs
     ·exact e4
     ·exact i2 s hs
    ·have hv:Aw V p=false:=aF hin
     rw [hv] at h2
     rw [List.filter_cons_of_neg (by simp [h2]),List.filterMap_cons,ue hin]
     exact ⟨i1,i2⟩
theorem uf (V:List Sp):(List.range V.length).map (fun p=>cW V[p]!)=V.map cW:=by
 refine List.ext_getElem (by simp) fun i h1 h2 => ?_
 rw [iV,iV,List.getElem_range,aH V i (by simpa using h2)]
end Go.E
end
section
namespace Go.E
open Go Go.Sort Go.Proofs
def mn (ks:List K):Prop:=(∀ x ∈ ks,(bL x.tr=19∨bL x.tr=20∨bL x.tr=21)∧(bL x.tr=19→x.suf=[])∧(bL x.tr≠21→x.val=[])) ∧
 ks.Pairwise fun x k=>¬ x.tr < k.tr∧¬ (x.tr / 256=k.tr / 256∧x.suf=k.suf∧(bL k.tr=19↔bL x.tr=19))
theorem mn.cd {ks:List K} (h:mn ks):Cd ks:=by
 refine ⟨h.2.imp fun {x y} hxy e e2=>hxy.2 ⟨by rw [e2],e,by rw [e2]⟩,fun x hx=>(h.1 x hx).1⟩
theorem Cd.perm {a b:List K} (h:Cd a) (p:a.Perm b):Cd b:=⟨(List.Perm.pairwise_iff (fun {x y} h e e2=>h e.symm e2.symm) p).1 h.dist,fun x hx=>h.kind x (p.mem_iff.2 hx)⟩
structure LvOk (Lv:List (List Sp)) (n:Nat):Prop where
 n6:Lv.length≤6
 sz:∀ L ∈ Lv,L.length≤n
 wf:∀ L ∈ Lv,Wf L
 ks:∀ L ∈ Lv,∀ s ∈ L,s.ks≠[]∧s.ks.length≤40
 rk:∀ f ∈ dt Lv.flatten,mn f.ks
theorem mE (b:List Bytes) (x:Bytes):(jU b x).length≤b.length+1:=by
 unfold jU
 split
 ·omega
 ·rw [wX]; exact aE _
theorem gI (l:List Sp):(cG l).length≤2 * l.length:=by
 have aux:∀ (l:List Sp) (b:List Bytes),(l.foldl (fun b s=>jU (jU b s.s) s.e) b).length≤b.length+2 * l.length:=by
  intro l
  induction l with
  | nil=>exact fun b=>aE _
  | cons s l ih =>
   intro b
   rw [List.foldl_cons,aX]
   have h1:=ih (jU (jU b s.s) s.e)
   have h2:=mE b s.s
   have h3:=mE (jU b s.s) s.e
   omega
 have:=aux l []
 simpa [cG] using this
theorem fZ {α:Type} {Lv:List (List α)} {n:Nat} (h:∀ L ∈ Lv,L.length≤n):Lv.flatten.length≤Lv.length * n:=by
 induction Lv with
 | nil=>simp
 | cons L Lv ih =>
  have h1:=h L aP
  have h2:=ih fun L hL=>h L (aj _ hL)
  rw [List.flatten_cons,aJ,aX,Nat.add_mul]
  omega
section
variable {Lv:List (List Sp)} {n:Nat}
theorem LvOk.cd (h:LvOk Lv n) (x:Bytes):Cd (gY Lv.flatten x):=by
 have hB:=ku h.wf
 have hf:=oY h.wf x (uE (cG Lv.flatten) x) fun i hi=>zU hB hi x
 rw [← hf]
 cases hcv:mN Lv.length (fW Lv) (cG Lv.flatten) (uE (cG Lv.flatten) x) with
 | true =>
  have hm:(⟨(cG Lv.flatten)[uE (cG Lv.flatten) x - 1]!,(cG Lv.flatten)[uE (cG Lv.flatten) x]!,eC (dL Lv.length (fW Lv) (cG Lv.flatten) (uE (cG Lv.flatten) x))⟩:Sp) ∈ dt Lv.flatten:=by
   rw [rZ h.wf fun L hL s hs=>(h.ks L hL s hs).1,br]
   exact ⟨_,dC.2 ⟨mh _ _,hcv⟩,rfl⟩
  exact (h.rk _ hm).cd.perm (ed _)
 | false =>
  have h0:dL Lv.length (fW Lv) (cG Lv.flatten) (uE (cG Lv.flatten) x)=[]:=by
   unfold dL
   refine List.flatMap_eq_nil_iff.2 fun i hi => ?_
   rw [if_neg fun h1 => ?_]
   rw [oG.2 ⟨i,List.mem_range.1 hi,h1⟩] at hcv
   cases hcv
  rw [h0]
  exact ⟨.nil,by simp⟩
theorem DD {Lv:List (List Sp)} {m:Nat} (h:∀ L ∈ Lv,∀ s ∈ L,s.ks.length≤m) (B:List Bytes) (u:Nat):(dL Lv.length (fW Lv) B u).length≤Lv.length * m:=by
 unfold dL
 have:∀ l:List Nat,(∀ i ∈ l,i < Lv.length)→(l.flatMap fun i=>if cp (fW Lv) B u i % 2=1 then (fW Lv i)[cp (fW Lv) B u i / 2]!.ks else []).length≤l.length * m:=by
  intro l
  induction l with
  | nil=>intro _; simp
  | cons i l ih =>
   intro hl
   have hi:=hl i aP
   have:=ih fun j hj=>hl j (aj _ hj)
   rw [av,aJ,aX,Nat.add_mul]
   have hh:(if cp (fW Lv) B u i % 2=1 then (fW Lv i)[cp (fW Lv) B u i / 2]!.ks else []).length≤m:=by
    split
    ·have hL:fW Lv i ∈ Lv:=by unfold fW; rw [aH Lv i hi]; exact ae hi
     have hlt:cp (fW Lv) B u i / 2 < (fW Lv i).length:=by have:=jR (L:=fW Lv) (B:=B) u i; omega
     rw [aH (fW Lv i) _ hlt]
     exact h _ hL _ (ae hlt)
    ·exact aO _
   omega
 simpa using this (List.range Lv.length) fun i hi=>List.mem_range.1 hi
theorem ug (G:List Sp):(Vw G).length≤G.length:=by
 rw [dB]
 unfold cY
 exact ai (bz _ _) (by simp)
theorem wv (Lv:List (List Sp)) (snap:Nat):(Vw (GL snap Lv.length (fW Lv) (cG Lv.flatten))).length≤2 * Lv.flatten.length+1:=by
 refine ai (ug _) ?_
 rw [cJ]
 unfold cM
 refine ai (bz _ _) ?_
 rw [List.length_range]
 have:=gI Lv.flatten
 omega
end
end Go.E
end
section
namespace Go.E
open Go Go.Sort Go.Proofs Go.Proofs.Tryz
theorem zj (x y:Bytes):Op.bytesLess x y=decide (x < y):=by
 induction x generalizing y with
 | nil=>cases y <;> simp [Op.bytesLess]
 | cons a x ih =>
  cases y with
  | nil=>simp [Op.bytesLess]
  | cons b y =>
   rw [bF]
   simp [Op.bytesLess,ih,List.cons_lt_cons_iff]
section
variable {a b:Bytes} {q:Value→Prop}
@[go_sem high] theorem IJ:jq .eql ⟨a.toArray⟩ ⟨b.toArray⟩ q=q (.bool (decide (a=b))):=by
 rw [CK,ByteArray.toList_mk,ByteArray.toList_mk]
 congr 2
 rw [bF]; simp
@[go_sem high] theorem IK:jq .neq ⟨a.toArray⟩ ⟨b.toArray⟩ q=q (.bool (decide (a≠b))):=by
 rw [CM,ByteArray.toList_mk,ByteArray.toList_mk]
 congr 2
 rw [bF]; simp
@[go_sem high] theorem IL:jq .lss ⟨a.toArray⟩ ⟨b.toArray⟩ q=q (.bool (decide (a < b))):=by
 rw [CN,ByteArray.toList_mk,ByteArray.toList_mk,zj]
theorem JD (a b:Bytes):(decide (a < b) || a == b)=decide (¬ b < a):=by
 rw [bF]
 simp only [Bool.or_eq_true,decide_eq_true_eq,beq_iff_eq]
 constructor
 ·rintro (h | rfl)
  ·exact fw h
  ·exact bB _
 ·intro h
  rcases gX a b with h1 | h1 | h1
  ·exact .inl h1
  ·exact .inr h1
  ·exact absurd h1 h
@[go_sem high] theorem IM:jq .leq ⟨a.toArray⟩ ⟨b.toArray⟩ q=q (.bool (decide (¬ b < a))):=by
 rw [CO,ByteArray.toList_mk,ByteArray.toList_mk,zj,JD]
@[go_sem high] theorem IN:jq .gtr ⟨a.toArray⟩ ⟨b.toArray⟩ q=q (.bool (decide (b < a))):=by
 rw [CQ,ByteArray.toList_mk,ByteArray.toList_mk,zj,JD]
 by_cases h:b < a
 ·rw [aT h,aF fun hn=>hn h]; rfl
 ·rw [aF h,aT h]; rfl
@[go_sem high] theorem IP:jq .geq ⟨a.toArray⟩ ⟨b.toArray⟩ q=q (.bool (decide (¬ a < b))):=by
 rw [CR,ByteArray.toList_mk,ByteArray.toList_mk,zj]
 by_cases h:a < b
 ·rw [aT h,aF fun hn=>hn h]; rfl
 ·rw [aF h,aT h]; rfl
end
theorem F4 {l:List Sp} (h1:∀ i (h:i < l.length),l[i].s < l[i].e) (h2:∀ i (h:i+1 < l.length),¬ l[i+1].s < l[i].e):Wf l:=by
 refine ⟨fun i hi=>by rw [aH l i hi]; exact h1 i hi,fun i j hij hj => ?_⟩
 have aux:∀ m,∀ (hm:i+1+m < l.length),¬ l[i+1+m].s < (l[i]'(by omega)).e:=by
  intro m
  induction m with
  | zero=>intro hm; exact h2 i (by omega)
  | succ m ih =>
   intro hm h3
   have a:=h1 (i+1+m) (by omega)
   have b:=h2 (i+1+m) (by omega)
   exact ih (by omega) (List.lt_trans (bp a b) h3)
 rw [aH l i (by omega),aH l j hj]
 have:=aux (j - (i+1)) (by omega)
 simp only [show i+1+(j - (i+1))=j by omega] at this
 grind
end Go.E
namespace Go.Proofs
open Go Go.E Go.Sort Go.Proofs.Tryz
section
variable {k:au} {d w:World}
theorem wx {t:Nat} (hk:k (.int .u8 (bL t)) w):aY prog 48 #[.int .u64 t] k w:=by
 refine ag [.tmp 2] func48 ?_
 refine an ?_
 have e8:IntKind.u8.wrap (t:Int)=(bL t:Nat):=by
  unfold bL
  simp [IntKind.wrap,IntKind.bits,IntKind.signed]
 rw [e8]
 exact hk
theorem zl {t:Nat} (hk:k (.int .u64 (t / 256:Nat)) w):aY prog 79 #[.int .u64 t] k w:=by
 have h8:(0:Int)≤8:=by decide
 have e:=AY (a:=t) (s:=8) (n:=8) (m:=256) rfl rfl
 refine ag [.tmp 2] func79 ?_
 simp (disch:=first | exact dZ | fail) only [go_sem,fT h8,e]
 exact hk
theorem uh {kv:Value} {x:Sp} {key:Bytes} (hf:∃ a n c,kv = .slice a n c) (hk:∀ w',bf w w'→k (.bool (ee key x)) w'):aY prog 27 #[.agg #[.string ⟨x.s.toArray⟩,.string ⟨x.e.toArray⟩,kv],.string ⟨key.toArray⟩] k w:=by
 obtain ⟨a,n,c,rfl⟩:=hf
 refine ag [.tmp 4] func27 ?_
 by_cases h1:key < x.s
 ·have e:ee key x=false:=aF fun h=>h.1 h1
  rw [e] at hk
  refine eA @aA @h1 @not_true_eq_false ?_
  exact hk _ (aM _)
 ·by_cases h2:key < x.e
  ·have e:ee key x=true:=aT ⟨h1,h2⟩
   rw [e] at hk
   refine fE @aA @h1 @h2 @not_false_eq_true ?_
   exact hk _ (aM _)
  ·have e:ee key x=false:=aF fun h=>h2 h.2
   rw [e] at hk
   refine fE @aA @h1 @h2 @not_false_eq_true ?_
   exact hk _ (aM _)
theorem wy {x y:K} (hk:∀ w',bf w w'→k (.bool (gU x y)) w'):aY prog 112 #[.agg #[.int .u64 x.tr,.string ⟨x.suf.toArray⟩,.string ⟨x.val.toArray⟩],.agg #[.int .u64 y.tr,.string ⟨y.suf.toArray⟩,.string ⟨y.val.toArray⟩]] k w:=by
 have x2:∀ a b,bf w ((w.alloc a).alloc b):=fun a b=>(aM _).trans (aM _)
 refine ag [.tmp 4] func112 ?_
 by_cases h1:x.tr=y.tr
 ·have h1':((x.tr:Int) != y.tr)=false:=by rw [h1]; simp
  by_cases h2:x.suf=y.suf
  ·have e:gU x y=decide (x.val < y.val):=by unfold gU; rw [if_neg (by simpa using h1),if_neg (by simpa using h2)]
   rw [e] at hk
   simp (disch:=first | exact dZ | fail) only [go_sem,aA,h1',h2,ne_eq,not_true_eq_false]
   exact hk _ (x2 _ _)
  ·have e:gU x y=decide (x.suf < y.suf):=by unfold gU; rw [if_neg (by simpa using h1),if_pos h2]
   rw [e] at hk
   simp (disch:=first | exact dZ | fail) only [go_sem,aA,h1',h2,ne_eq,not_false_eq_true]
   exact hk _ (x2 _ _)
 ·have h1':((x.tr:Int) != y.tr)=true:=by simp; omega
  have e:gU x y=decide ((y.tr:Int) < x.tr):=by unfold gU; rw [if_pos h1]; exact decide_eq_decide.2 (by omega)
  rw [e] at hk
  refine dY @aA @h1' ?_
  exact hk _ (x2 _ _)
end
end Go.Proofs
end
section
namespace Go.E
open Go Go.Sort Go.Proofs
structure OwnC {α:Type} (ce:α→List Value) (sz:Nat) (el:TypeId) (w:World) (v:Value) (l:List α):Prop where
 own:w.ownsRow 0 el sz v l.length (l.flatMap ce)
 sz:∀ x,(ce x).length=sz
section
variable {α:Type} {ce:α→List Value} {sz:Nat} {el:TypeId} {w w2:World} {v:Value} {l:List α}
theorem ic {a:Addr} (h:a.spot=none) (m:Nat):a.add m=⟨a.block,a.off+m,none⟩:=by
 obtain ⟨b,o,s⟩:=a
 simp only at h
 subst h
 cases m <;> rfl
theorem OwnC.nil (h:∀ x,(ce x).length=sz):OwnC ce sz el w (.slice none 0 0) []:=⟨dw,h⟩
theorem OwnC.keep {M:Nat→Nat→Prop} (h:OwnC ce sz el w v l) (hk:Keep M w w2) (hm:∀ g,v.ownBlock=some g→∀ o,¬ M g o):OwnC ce sz el w2 v l:=⟨aS h.own hk hm,h.sz⟩
theorem OwnC.ext (h:OwnC ce sz el w v l) (x:bf w w2):OwnC ce sz el w2 v l:=h.keep x fun _ _ _ h=>h
theorem OwnC.form (h:OwnC ce sz el w v l):∃ a c,v = .slice a l.length c∧l.length≤c∧c≤9223372036854775807:=by
 obtain ⟨a,c,h1,h2,h3⟩:=ar h.own
 exact ⟨a,c,h1,h2,h3⟩
theorem yn (h:∀ x,(ce x).length=sz) (l:List α):(l.flatMap ce).length=l.length * sz:=by
 induction l with
 | nil=>simp
 | cons x l ih=>rw [av,aJ,h,ih,aX,Nat.add_mul]; omega
theorem ui (h:∀ x,(ce x).length=sz) {l:List α} {i j:Nat} {x:α} {u:Value} (hi:l[i]? = some x) (hj:(ce x)[j]? = some u):(l.flatMap ce)[i * sz+j]? = some u:=by
 induction l generalizing i with
 | nil=>simp at hi
 | cons y l ih =>
  rw [av]
  cases i with
  | zero =>
   simp only [List.getElem?_cons_zero,aL] at hi
   subst hi
   rw [Nat.zero_mul,Nat.zero_add,bU (aR.1 hj).1]
   exact hj
  | succ i =>
   rw [List.getElem?_cons_succ] at hi
   rw [bA (by rw [h,Nat.add_mul]; omega),h,show (i+1) * sz+j - sz=i * sz+j by rw [Nat.add_mul]; omega]
   exact ih hi
theorem OwnC.block (h:OwnC ce sz el w v l) {i:Nat} (hi:i < l.length):∃ g c,v = .slice (some ⟨g,0,none⟩) l.length c∧g < w.heap.size:=by
 rcases cT h.own with ⟨rfl,h0,_⟩ | ⟨g,cap,rfl,_,hg⟩
 ·omega
 ·exact ⟨g,cap,rfl,hg⟩
theorem OwnC.cell {g c:Nat} (h:OwnC ce sz el w (.slice (some ⟨g,0,none⟩) l.length c) l) {i j:Nat} {x:α} {u:Value} (hi:l[i]? = some x) (hj:(ce x)[j]? = some u):w.cell? ⟨g,i * sz+j,none⟩=some u:=bN h.own (ui h.sz hi hj)
theorem OwnC.sl {R:iD α} (h:OwnC ce sz el w v l) (hR:∀ x ∈ l,R w (ce x) x):Sl R sz w v l:=by
 rcases cT h.own with ⟨rfl,h0,_⟩ | ⟨g,cap,rfl,hc,_⟩
 ·exact ⟨rfl,aZ.1 h0⟩
 ·refine ⟨fun _=>rfl,rfl,hc,fun i x hx=>⟨ce x,h.sz x,fun j u hu => ?_,hR x (aK hx)⟩⟩
  have:=h.cell hx hu
  rwa [show 0+i * sz+j=i * sz+j by omega]
theorem F5 (h:∀ x,(ce x).length=sz) {l:List α} {i:Nat} (hi:i < l.length) (y:α) (m:List Value) (hm:m.length=l.length * sz) (hs:∀ j,j < i * sz∨(i+1) * sz≤j→m[j]? = (l.flatMap ce)[j]?) (hy:∀ j u,(ce y)[j]? = some u→m[i * sz+j]? = some u):m=(l.set i y).flatMap ce:=by
 refine List.ext_getElem? fun p => ?_
 rcases aG p (l.length * sz) with hp | hp
 ·have hsz:0 < sz:=by rcases bE sz with h0 | h0; (rw [h0,Nat.mul_zero] at hp; omega); exact h0
  obtain ⟨q,r,hr,rfl⟩:∃ q r,r < sz∧p=q * sz+r:=⟨p / sz,p % sz,Nat.mod_lt _ hsz,by rw [Nat.mul_comm]; exact (Nat.div_add_mod p sz).symm⟩
  have hq:q < l.length:=by
   rcases aG q l.length with h1 | h1
   ·exact h1
   ·have:=bJ sz h1; omega
  by_cases hqi:q=i
  ·subst hqi
   have hl:(ce y)[r]? = some ((ce y)[r]'(by rw [h]; exact hr)):=aC _
   rw [hy r _ hl,ui h (l:=l.set q y) (i:=q) (by rw [List.getElem?_set_self hq]) hl]
  ·have hx:l[q]? = some l[q]:=aC hq
   have hl:(ce l[q])[r]? = some ((ce l[q])[r]'(by rw [h]; exact hr)):=aC _
   rw [hs _ ?_,ui h hx hl,ui h (l:=l.set i y) (i:=q) (by rw [List.getElem?_set_ne (Ne.symm hqi)]; exact hx) hl]
   rcases aG q i with h1 | h1
   ·left
    have:=bJ sz (show q+1≤i by omega)
    rw [Nat.add_mul] at this; omega
   ·right
    have:=bJ sz (show i+1≤q by omega)
    omega
 ·rw [List.getElem?_eq_none (by rw [hm]; exact hp),List.getElem?_eq_none (by rw [yn h,dR]; exact hp)]
theorem OwnC.set3 {g c:Nat} (h:OwnC ce 3 el w (.slice (some ⟨g,0,none⟩) l.length c) l) {i:Nat} (hi:i < l.length) (y:α) {a b e:Value} (hy:ce y=[a,b,e]):OwnC ce 3 el (((w.setCell ⟨g,i * 3,none⟩ a).setCell ⟨g,i * 3+1,none⟩ b).setCell ⟨g,i * 3+2,none⟩ e) (.slice (some ⟨g,0,none⟩) l.length c) (l.set i y):=by
 have o:=cR (cR (cR h.own (i * 3) a) (i * 3+1) b) (i * 3+2) e
 refine ⟨?_,h.sz⟩
 rw [dR]
 have hl:=yn h.sz l
 rw [← F5 (sz:=3) h.sz hi y (((l.flatMap ce).set (i * 3) a).set (i * 3+1) b |>.set (i * 3+2) e) (by simp [hl]) (fun j hj=>by rw [List.getElem?_set_ne (by omega),List.getElem?_set_ne (by omega),List.getElem?_set_ne (by omega)]) fun j u hj => ?_]
 ·exact o
 ·rw [hy] at hj
  match j,hj with
  | 0,hj=>rw [List.getElem?_set_ne (by omega),List.getElem?_set_ne (by omega),Nat.add_zero,List.getElem?_set_self (by rw [hl]; omega)]; exact hj
  | 1,hj=>rw [List.getElem?_set_ne (by omega),List.getElem?_set_self (by rw [dR,hl]; omega)]; exact hj
  | 2,hj=>rw [List.getElem?_set_self (by rw [dR,dR,hl]; omega)]; exact hj
theorem F6 {P:Program} {q:au} {t ty:TypeId} {by_:Nat} {m:List α} {u:Value} (row:gx P t=some (el,sz,by_)) (h:OwnC ce sz el w v l) (hu:rG w u m.length (m.flatMap ce)) (h1:∀ x ∈ m,∀ y ∈ ce x,y.oneCell'=true) (hb:(l.length+m.length) * (by_+1)≤140737488355328)
    (hk:∀ v2 w2,OwnC ce sz el w2 v2 (l++m)→Keep (fun b _=>v.ownBlock=some b) w w2→cP w v v2→q v2 w2):lQ P #[t,t] ty #[v,u] q w:=by
 refine lN row h.own (yn h.sz m) hu (fun y hy=>by obtain ⟨x,hx,h2⟩:=dV.1 hy; exact h1 x hx y h2) hb fun v2 w2 o2 k2 n2 _=>hk v2 w2 ⟨?_,h.sz⟩ (k2 _ fun b _ hb _=>hb) fun g hg => ?_
 ·rw [aJ,bP]; exact o2
 ·rcases n2 with h | ⟨g',h,h',_⟩
  ·left; rw [← h]; exact hg
  ·right; rw [h] at hg; cases hg; exact h'
theorem zm {P:Program} {q:au} {t ty:TypeId} {by_ n:Nat} {W:World} {C:Array Value} (x:α) (row:gx P t=some (el,sz,by_)) (h:OwnC ce sz el w v l) (hC:C=(ce x).toArray) (hW:W=w.alloc (.cells C el)∨W=(w.alloc (.cells C el)).drew) (hn:n=w.heap.size) (h1:∀ y ∈ ce x,y.oneCell'=true) (hb:(l.length+1) * (by_+1)≤140737488355328)
    (hk:∀ v2 w2,OwnC ce sz el w2 v2 (l++[x])→Keep (fun b _=>v.ownBlock=some b) w w2→cP w v v2→q v2 w2):lQ P #[t,t] ty #[v,.slice (some ⟨n,0,none⟩) 1 1] q W:=by
 subst hC hn
 have k4:bf w W:=by
  rcases hW with rfl | rfl
  ·exact aM _
  ·exact Keep.drew (aM _)
 have hc:∀ j u,(ce x)[j]? = some u→W.cell? ⟨w.heap.size,j,none⟩=some u:=fun j u hu=>by
  have:(w.alloc (.cells (ce x).toArray el)).cell? ⟨w.heap.size,j,none⟩=some u:=by rw [aA (aE _) (by omega)]; simpa using hu
  rcases hW with rfl | rfl
  ·exact this
  ·exact this
 refine F6 (m:=[x]) row (h.ext k4) ⟨rfl,fun j u hu => ?_⟩ (fun y hy=>by rw [aQ.1 hy]; exact h1) hb fun v2 w2 o2 k2 n2=>hk v2 w2 o2 (k4.keep.trans k2) fun g hg => ?_
 ·rw [ic rfl]
  have:=hc j u (by simpa using hu)
  simpa using this
 ·rcases n2 g hg with h | h
  ·exact .inl h
  ·exact .inr (ai k4.size h)
end
end Go.E
end
section
namespace Go.Proofs
open Go Go.E Go.Sort Go.Proofs.Tryz
section
variable {k:au} {d w:World}
theorem im {w:World} {g o:Nat} {x:K} (h:EZ KE 3 w g o x):w.cell? ⟨g,o,none⟩=some (.int .u64 x.tr)∧w.cell? ⟨g,o+1,none⟩=some (.string ⟨x.suf.toArray⟩)∧w.cell? ⟨g,o+2,none⟩=some (.string ⟨x.val.toArray⟩)∧x.tr < 18446744073709551616:=by
 obtain ⟨cs,_,hcs,rfl,h⟩:=h
 exact ⟨hcs 0 _ rfl,hcs 1 _ rfl,hcs 2 _ rfl,h⟩
theorem eT {w:World} {g o:Nat} {x:Sp} (h:EZ eN 3 w g o x):w.cell? ⟨g,o,none⟩=some (.string ⟨x.s.toArray⟩)∧w.cell? ⟨g,o+1,none⟩=some (.string ⟨x.e.toArray⟩)∧∃ a c,w.cell? ⟨g,o+2,none⟩=some (.slice a x.ks.length c)∧Sl KE 3 w (.slice a x.ks.length c) x.ks:=by
 obtain ⟨cs,_,hcs,v,rfl,h⟩:=h
 obtain ⟨a,c,rfl⟩:=h.form
 exact ⟨hcs 0 _ rfl,hcs 1 _ rfl,a,c,hcs 2 _ rfl,h⟩
theorem rr {v:Value} {l:List K} (hv:Sl KE 3 w v l) (hl:l.length≤2147483647) (hk:wV True k w):aY prog 159 #[v] k w:=by
 obtain ⟨ka,kc,rfl⟩:=hv.form
 refine ag [.tmp 2] func159 ?_
 refine an ?_
 refine bR (fun i:Nat=>[(0,.slice ka l.length kc),(2,.bool false),(3,.int .i64 i)])
  (fun i w'=>1≤i∧bf w w') (fun i _=>l.length - i) 1 (by kernel_rfl) ?_ ⟨aE _,bf.refl _⟩ ?_
 ·exact bK
 rintro K2 e i w1 ⟨i2,i3⟩ hK2
 rcases aG i l.length with hi | hi
 rotate_left
 ·have hi':¬ (i:Int) < l.length:=by omega
  refine bZ @hi' ?_
  exact hk.yes i3 trivial
 have hi':(i:Int) < l.length:=by omega
 obtain ⟨g,f,c,hv',hc,hat⟩:=(hv.inc KE.mono i3.inc).at (by omega)
 obtain ⟨rfl,rfl⟩:=sEq hv'
 obtain ⟨x,hx⟩:=gEl hi
 obtain ⟨y,hy⟩:∃ y,l[i - 1]? = some y:=⟨_,aC (by omega)⟩
 have h0:=(im (hat i x hx)).1
 have h1:=(im (hat (i - 1) y hy)).1
 have e1:(i:Int) - 1=((i - 1:Nat):Int):=by omega
 refine dY @hi' @e1 ?_
 refine ax (sq [0,1,2,3,4] (.read 5 (sq [6,7,8,9] (.read 10 (sq [11] .done))))) ?_
 refine eA @h0 @h1 @e1 ?_
 by_cases hlt:(y.tr:Int) < x.tr
 ·refine bZ @hlt ?_
  exact hk.no (Keep.drew i3)
 ·refine bZ @hlt ?_
  refine hK2 _ _ (i+1) ?_ ⟨by omega,Keep.drew i3⟩ (by omega)
  exact bK
theorem DE {kv:Value} {x:Sp} (hv:Sl KE 3 w kv x.ks) (hl:x.ks.length≤2147483647) (hk:wV (x.s < x.e∧x.ks≠[]) k w):aY prog 143 #[.agg #[.string ⟨x.s.toArray⟩,.string ⟨x.e.toArray⟩,kv]] k w:=by
 obtain ⟨ka,kc,rfl⟩:=hv.form
 refine ag [.tmp 2] func143 ?_
 by_cases h1:x.s < x.e
 ·by_cases h2:(0:Int) < x.ks.length
  ·refine eA @aA @h1 @h2 ?_
   refine rr (hv.inc KE.mono (aM _).inc) hl fun b w2 x2 _ => ?_
   have x3:=(aM _).trans x2
   refine an ?_
   exact hk _ _ x3 fun _=>⟨h1,List.length_pos_iff.1 (by omega)⟩
  ·refine eA @aA @h1 @h2 ?_
   exact hk.no (aM _)
 ·refine dY @aA @h1 ?_
  exact hk.no (aM _)
theorem DF {v:Value} {l:List Sp} {n:Nat} (hv:Sl eN 3 w v l) (hl:l.length≤2147483647) (hk:wV (l.length≤n∧∀ x ∈ l,x.ks.length≤40) k w):aY prog 128 #[v,.int .i64 n] k w:=by
 obtain ⟨ka,kc,rfl⟩:=hv.form
 refine ag [.tmp 4] func128 ?_
 refine an ?_
 refine bR (fun i:Nat=>[(0,.slice ka l.length kc),(1,.int .i64 n),(4,.bool false),(7,.slice ka l.length kc),(7+1,.int .i64 l.length),(7+2,.int .i64 i)])
  (fun i w'=>i≤l.length∧bf w w'∧∀ x ∈ l.take i,x.ks.length≤40) (fun i _=>l.length - i) 0 (by kernel_rfl) ?_ ⟨aO _,bf.refl _,by simp⟩ ?_
 ·exact bK
 rintro K2 e i w1 ⟨i2,i3,i4⟩ hK2
 rcases aG i l.length with hi | hi
 rotate_left
 ·have hi':¬ (i:Int) < l.length:=by omega
  obtain rfl:i=l.length:=by omega
  rw [ah] at i4
  by_cases hln:(l.length:Int)≤n; (simp (disch:=first | exact dZ | fail) only [go_sem,hi',hln]; exact hk.yes i3 ⟨by omega,i4⟩); (simp (disch:=first | exact dZ | fail) only [go_sem,hi',hln]; exact hk.no i3)
 have hi':(i:Int) < l.length:=by omega
 obtain ⟨g,f,c,hv',hc,hat⟩:=(hv.inc eN.mono i3.inc).at (by omega)
 obtain ⟨rfl,rfl⟩:=sEq hv'
 obtain ⟨x,hx⟩:=gEl hi
 obtain ⟨cs,_,hcs,hR⟩:=hat i x hx
 have hA:=hat i x hx
 obtain ⟨h0,h1,a,cc,h2,_⟩:=eT hA
 by_cases h40:40 < (x.ks.length:Int)
 ·refine oq @hi' @h0 @h1 @h2 @aA @h40 ?_
  exact hk.no (i3.trans (aM _))
 ·refine oq @hi' @h0 @h1 @h2 @aA @h40 ?_
  refine hK2 _ _ (i+1) ?_ ⟨hi,i3.trans (aM _),gT i4 hx (by omega)⟩ (by omega)
  exact bK
theorem DG {v:Value} {l:List Sp} (hv:Sl eN 3 w v l) (hl:l.length≤2147483647) (hks:∀ x ∈ l,x.ks.length≤2147483647) (hk:wV (Wf l∧∀ x ∈ l,x.ks≠[]) k w):aY prog 129 #[v] k w:=by
 obtain ⟨ka,kc,rfl⟩:=hv.form
 refine ag [.tmp 2] func129 ?_
 refine an ?_
 refine bR (fun i:Nat=>[(0,.slice ka l.length kc),(2,.bool false),(5,.slice ka l.length kc),(6,.int .i64 l.length),(7,.int .i64 i)])
  (fun i w'=>i≤l.length∧bf w w'∧(∀ j (h:j < l.length),j < i→l[j].s < l[j].e∧l[j].ks≠[])∧∀ j (h:j+1 < l.length),j+1 < i→¬ l[j+1].s < l[j].e) (fun i _=>l.length - i) 0 (by kernel_rfl) ?_ ⟨aO _,bf.refl _,fun _ _ h=>by omega,fun _ _ h=>by omega⟩ ?_
 ·exact bK
 rintro K2 e i w1 ⟨i2,i3,i4,i5⟩ hK2
 rcases aG i l.length with hi | hi
 rotate_left
 ·have hi':¬ (i:Int) < l.length:=by omega
  obtain rfl:i=l.length:=by omega
  refine bZ @hi' ?_
  refine hk.yes i3 ⟨F4 (fun j h=>(i4 j h h).1) fun j h=>i5 j h h,fun x hx => ?_⟩
  obtain ⟨j,hj,rfl⟩:=ao hx
  exact (i4 j hj hj).2
 have hi':(i:Int) < l.length:=by omega
 obtain ⟨g,f,c,hv',hc,hat⟩:=(hv.inc eN.mono i3.inc).at (by omega)
 obtain ⟨rfl,rfl⟩:=sEq hv'
 have hx:l[i]? = some l[i]:=aC hi
 obtain ⟨x,hxe⟩:∃ x,x=l[i]:=⟨_,rfl⟩
 rw [← hxe] at hx
 obtain ⟨h0,h1,a,cc,h2,hks2⟩:=eT (hat i x hx)
 refine fE @hi' @h0 @h1 @h2 ?_
 obtain ⟨O,hO⟩:∃ O,O=Obj.cells #[.string ⟨x.s.toArray⟩,.string ⟨x.e.toArray⟩,.slice a x.ks.length cc] 46:=⟨_,rfl⟩
 obtain ⟨B,hB⟩:∃ B,B=w1.heap.size:=⟨_,rfl⟩
 rw [← hO,← hB]
 have c0:(w1.alloc O).cell? ⟨B,0,none⟩=some (.string ⟨x.s.toArray⟩):=by rw [hO,hB]; exact bm @aA
 have c1:(w1.alloc O).cell? ⟨B,1,none⟩=some (.string ⟨x.e.toArray⟩):=by rw [hO,hB]; exact bm @aA
 have c2:(w1.alloc O).cell? ⟨B,2,none⟩=some (.slice a x.ks.length cc):=by rw [hO,hB]; exact bm @aA
 refine ax (.read 0 (.eff 1 [] (sq [2,3,4,5,6,7,8,9,10,11] (.read 12 (sq [13] (.read 14 (sq [15,16,17] .done))))))) ?_
 refine eA @c0 @c1 @c2 ?_
 refine DE (hks2.inc KE.mono (bf.drew' (aM O)).inc) (hks _ (aK hx)) fun b w2 x2 hb => ?_
 have x3:bf w1 w2:=(Keep.drew (aM O)).trans x2
 have x4:=i3.trans x3
 cases b with
 | false =>
  refine an ?_
  exact hk.no x4
 | true =>
  obtain ⟨f1,f2⟩:=hb rfl
  have c0:=x2.cell (show (w1.alloc O).drew.cell? _=_ from c0)
  rcases bE i with hz | hz
  ·have hz':¬ (0:Int) < (i:Int):=by omega
   refine bZ @hz' ?_
   refine hK2 _ _ (i+1) ?_ ⟨hi,x4,fun j h hj => ?_,fun j h hj=>by omega⟩ (by omega)
   ·exact bK
   ·obtain rfl:j=i:=by omega
    rw [← hxe]; exact ⟨f1,f2⟩
  ·have hz':(0:Int) < (i:Int):=by omega
   obtain ⟨y,hy⟩:∃ y,l[i - 1]? = some y:=⟨_,aC (by omega)⟩
   have e1:(i:Int) - 1=((i - 1:Nat):Int):=by omega
   have g1:=x3.cell (eT (hat (i - 1) y hy)).2.1
   have hye:y=l[i - 1]:=by rw [aC (by omega)] at hy; cases hy; rfl
   by_cases hlt:x.s < y.e
   ·refine gl @hz' @e1 @g1 @c0 @hlt ?_
    exact hk.no x4
   ·refine gl @hz' @e1 @g1 @c0 @hlt ?_
    refine hK2 _ _ (i+1) ?_ ⟨hi,x4,fun j h hj => ?_,fun j h hj => ?_⟩ (by omega)
    ·exact bK
    ·rcases aG j i with h3 | h3
     ·exact i4 j h h3
     ·obtain rfl:j=i:=by omega
      rw [← hxe]; exact ⟨f1,f2⟩
    ·rcases aG (j+1) i with h3 | h3
     ·exact i5 j h h3
     ·obtain rfl:j=i - 1:=by omega
      rw [← hye]
      simp only [show i - 1+1=i by omega]
      rw [← hxe]
      exact hlt
def Ir (n:Nat) (l:List Sp):Prop:=l.length≤n∧Wf l∧∀ x ∈ l,x.ks≠[]∧x.ks.length≤40
theorem uj {v:Value} {l:List Sp} {n:Nat} (hv:Sl eN 3 w v l) (hl:l.length≤2147483647) (hks:∀ x ∈ l,x.ks.length≤2147483647) (hk:wV (Ir n l) k w):aY prog 94 #[v,.int .i64 n] k w:=by
 obtain ⟨ka,kc,rfl⟩:=hv.form
 refine ag [.tmp 4] func94 ?_
 refine an ?_
 refine DF hv hl fun b w2 x2 hb => ?_
 cases b with
 | false =>
  refine an ?_
  exact hk.no x2
 | true =>
  refine an ?_
  refine DG (hv.inc eN.mono x2.inc) hl hks fun b w3 x3 hc => ?_
  refine an ?_
  exact hk _ _ (x2.trans x3) fun h=>⟨(hb rfl).1,(hc h).1,fun x hx=>⟨(hc h).2 x hx,(hb rfl).2 x hx⟩⟩
theorem ru {v:Value} {l:List (List Sp)} {n:Nat} (hv:Sl mS 1 w v l) (hl:l.length≤2147483647) (hs:∀ x ∈ l,x.length≤2147483647∧∀ y ∈ x,y.ks.length≤2147483647) (hk:wV (l.length≤6∧∀ x ∈ l,Ir n x) k w):aY prog 57 #[v,.int .i64 n] k w:=by
 obtain ⟨ka,kc,rfl⟩:=hv.form
 refine ag [.tmp 4] func57 ?_
 refine an ?_
 refine bR (fun i:Nat=>[(0,.slice ka l.length kc),(1,.int .i64 n),(4,.bool false),(7,.slice ka l.length kc),(7+1,.int .i64 l.length),(7+2,.int .i64 i)])
  (fun i w'=>i≤l.length∧bf w w'∧∀ x ∈ l.take i,Ir n x) (fun i _=>l.length - i) 0 (by kernel_rfl) ?_ ⟨aO _,bf.refl _,by simp⟩ ?_
 ·exact bK
 rintro K2 e i w1 ⟨i2,i3,i4⟩ hK2
 rcases aG i l.length with hi | hi
 rotate_left
 ·have hi':¬ (i:Int) < l.length:=by omega
  obtain rfl:i=l.length:=by omega
  rw [ah] at i4
  by_cases hln:(l.length:Int)≤6; (simp (disch:=first | exact dZ | fail) only [go_sem,hi',hln]; exact hk.yes i3 ⟨by omega,i4⟩); (simp (disch:=first | exact dZ | fail) only [go_sem,hi',hln]; exact hk.no i3)
 have hi':(i:Int) < l.length:=by omega
 obtain ⟨g,f,c,hv',hc,hat⟩:=(hv.inc mS.mono i3.inc).at (by omega)
 obtain ⟨rfl,rfl⟩:=sEq hv'
 obtain ⟨x,hx⟩:=gEl hi
 obtain ⟨cs,_,hcs,hR⟩:=hat i x hx
 obtain ⟨kv,rfl,hkv⟩:=hR
 obtain ⟨kva,kvc,rfl⟩:=hkv.form
 have h0:w1.cell? ⟨g,f+i * 1,none⟩=some (.slice kva x.length kvc):=hcs 0 _ rfl
 obtain ⟨s1,s2⟩:=hs x (aK hx)
 refine dY @hi' @h0 ?_
 refine uj hkv s1 s2 fun b w2 x2 hb => ?_
 have x3:=i3.trans x2
 cases b with
 | false =>
  refine an ?_
  exact hk.no (x3)
 | true =>
  refine an ?_
  refine hK2 _ _ (i+1) ?_ ⟨hi,x3,gT i4 hx (hb rfl)⟩ (by omega)
  exact bK
end
end Go.Proofs
end
section
namespace Go.E
open Go Go.Sort Go.Proofs Go.Proofs.Tryz
def xX (x:K):List Value:=[.int .u64 x.tr,str x.suf,str x.val]
theorem qi (x:K):(xX x).length=3:=rfl
theorem qj (x:K):∀ y ∈ xX x,y.oneCell'=true:=by simp [xX,Value.oneCell',str]
def fD {α:Type} (x:α) (a:List α) (j:Nat):List α:=a.take j++x :: a.drop j
theorem wz {α:Type} (x:α) {a:List α} {j:Nat} (h:j≤a.length):(fD x a j).length=a.length+1:=by unfold fD; simp; omega
theorem DH {α:Type} (x:α) (a:List α):a++[x]=fD x a a.length:=by unfold fD; simp
theorem BJ {α:Type} (x:α) {a:List α} {j:Nat} (h:j≤a.length):(fD x a j)[j]? = some x:=by
 unfold fD
 rw [bA (by rw [bC]; omega),bC,Nat.min_eq_left h,Nat.sub_self]
 rfl
theorem DI {α:Type} (x:α) {a:List α} {j i:Nat} (h:j≤a.length) (hi:i < j):(fD x a j)[i]? = a[i]? := by
 unfold fD
 rw [bU (by rw [bC]; omega),List.getElem?_take_of_lt hi]
theorem BK {α:Type} (x y:α) {a:List α} {j:Nat} (h:j+1≤a.length) (hy:a[j]? = some y):((fD x a (j+1)).set (j+1) y).set j x=fD x a j:=by
 have hj:j < a.length:=by omega
 have hy':a[j]=y:=by rw [aC hj] at hy; simpa using hy
 unfold fD
 rw [List.take_add_one,hy,cw hj,hy']
 have e1:(a.take j++(some y).toList++x :: a.drop (j+1))=a.take j++y :: x :: a.drop (j+1):=by simp
 have hl:(a.take j).length=j:=by rw [bC]; omega
 rw [e1,List.set_append_right _ _ (by omega),List.set_append_right _ _ (by omega),hl]
 simp
theorem jV {α:Type} {lt:α→α→Bool} {x y:α} {l:List α} {i:Nat} (hy:l[i]? = some y):gK lt x l (i+1)=if lt x y then gK lt x l i else i+1:=by
 conv=>lhs; unfold gK
 rw [hy]
theorem ry {α:Type} {lt:α→α→Bool} {l:List α} {i:Nat} {x:α} (h:l[i]? = some x):lL lt (l.take (i+1))=mV lt x (lL lt (l.take i)):=by
 rw [bw h]
 unfold lL
 rw [List.foldl_append]
 rfl
section
variable {α:Type} {ce:α→List Value} {el:TypeId} {w:World} {l:List α} {g n c i:Nat} {a b e:Value}
theorem OwnC.set3' (h:OwnC ce 3 el w (.slice (some ⟨g,0,none⟩) n c) l) (hn:l.length=n) (hi:i < l.length) (y:α) (hy:ce y=[a,b,e]):OwnC ce 3 el (((w.setCell ⟨g,i * 3,none⟩ a).setCell ⟨g,i * 3+1,none⟩ b).setCell ⟨g,i * 3+2,none⟩ e) (.slice (some ⟨g,0,none⟩) n c) (l.set i y):=by
 subst hn; exact h.set3 hi y hy
end
end Go.E
namespace Go.Proofs
open Go Go.E Go.Sort Go.Proofs.Tryz
section
variable {k:au} {d w:World}
set_option maxHeartbeats 1000000 in
theorem tf {v:Value} {l:List K} (hv:Sl KE 3 w v l) (hl:l.length < 100000) (hk:∀ v' w',bf w w'→OwnC xX 3 88 w' v' (eC l)→(∀ g,v'.ownBlock=some g→w.heap.size≤g)→k v' w'):aY prog 75 #[v] k w:=by
 obtain ⟨ka,kc,rfl⟩:=hv.form
 refine ag [.tmp 2] func75 ?_
 refine an ?_
 refine bR (fun b:Nat × Value=>[(3,b.2),(7,.slice ka l.length kc),(8,.int .i64 l.length),(9,.int .i64 b.1)])
  (fun b w'=>b.1≤l.length∧bf w w'∧OwnC xX 3 88 w' b.2 (lL gU (l.take b.1))∧∀ g,b.2.ownBlock=some g→w.heap.size≤g) (fun b _=>l.length - b.1) (0,.slice none 0 0) (by kernel_rfl) ?_ ⟨aO _,bf.refl _,OwnC.nil qi,by simp [Value.ownBlock]⟩ ?_
 ·exact bK
 rintro K2 e ⟨i,v⟩ w1 ⟨i2,i3,i4,i5⟩ hK2
 simp only at i2 i4 i5
 rcases aG i l.length with hi | hi
 rotate_left
 ·have hi':¬ (i:Int) < l.length:=by omega
  refine bZ @hi' ?_
  obtain rfl:i=l.length:=by omega
  rw [ah] at i4
  exact hk v w1 i3 i4 i5
 have hi':(i:Int) < l.length:=by omega
 obtain ⟨g,f,c,hv',hc,hat⟩:=(hv.inc KE.mono i3.inc).at (by omega)
 obtain ⟨rfl,rfl⟩:=sEq hv'
 obtain ⟨x,hx⟩:=gEl hi
 obtain ⟨h0,h1,h2,htr⟩:=im (hat i x hx)
 obtain ⟨a,ha⟩:∃ a,a=lL gU (l.take i):=⟨_,rfl⟩
 have hal:a.length=i:=by rw [ha,oX,dS i2]
 rw [← ha] at i4
 obtain ⟨va,vcap,rfl,_,hcm⟩:=i4.form
 refine gl @hi' @h0 @h1 @h2 @aA ?_
 refine zm x rw44 (i4.ext (aM _)) rfl (.inl rfl) (by rw [World.size_alloc]) (qj x) (by omega) fun v2 w2 o2 k2 n2 => ?_
 have x2:bf w w2:=(i3.trans (aM _)).tr k2 fun b o hb h=>by have:=i5 b h; omega
 have new2:∀ g,v2.ownBlock=some g→w.heap.size≤g:=fun g hg=>by
  rcases n2 g hg with h | h
  ·exact i5 g h
  ·rw [World.size_alloc] at h
   have:=i3.size
   omega
 rw [DH] at o2
 obtain ⟨g2,c2,rfl,_⟩:=o2.block (i:=0) (by rw [wz x (aE _)]; omega)
 have hlen:∀ j,j≤a.length→(fD x a j).length=a.length+1:=fun j hj=>wz x hj
 rw [hlen _ (aE _)] at o2 ⊢
 have e1:IntKind.i64.wrap ((a.length:Int)+1 - 1)=a.length:=by rw [iy (by omega) (by omega)]; omega
 have e2:((a.length+1:Nat):Int) - 1=a.length:=by omega
 refine bZ @e2 ?_
 refine bR (fun j:Nat=>[(3,.slice (some ⟨g2,0,none⟩) (a.length+1) c2),(6,.int .i64 j),(7,.slice (some ⟨g,f,none⟩) l.length kc),(8,.int .i64 l.length),(9,.int .i64 i)])
  (fun j w'=>j≤a.length∧bf w w'∧OwnC xX 3 88 w' (.slice (some ⟨g2,0,none⟩) (a.length+1) c2) (fD x a j)∧gK gU x a a.length=gK gU x a j) (fun j _=>j) a.length (by kernel_rfl) ?_ ⟨aE _,x2,o2,rfl⟩ ?_
 ·exact bK
 rintro K3 e3 j w3 ⟨j1,j2,j3,j4⟩ hK3
 have j3':OwnC xX 3 88 w3 (.slice (some ⟨g2,0,none⟩) (fD x a j).length c2) (fD x a j):=by rw [hlen _ j1]; exact j3
 rcases j with _ | j
 ·have hz:¬ (0:Int) < ((0:Nat):Int):=by omega
  refine an ?_
  refine ax (sq [0,1,2,3,4,5] (.read 6 (sq [7,8,9,10] (.read 11 (.eff 12 [] (sq [13] .done)))))) ?_
  refine bZ @hz ?_
  have j3:=j3.ext (bf.drew' (bf.refl w3))
  have j2:=bf.drew' j2
  have hj:gK gU x a a.length=0:=by
   rw [j4]
   first | rfl | (rw [jV hy,if_neg (by rw [hlt]; simp)])
  have hins:mV gU x a=fD x a (0):=by
   unfold mV fD
   rw [hj]
  refine hK2 _ _ (i+1,.slice (some ⟨g2,0,none⟩) (a.length+1) c2) ?_ ⟨hi,j2,?_,new2⟩ (by simp only; omega)
  ·exact bK
  ·simp only
   rw [ry hx,← ha,hins]
   exact j3
 have hz:(0:Int) < ((j+1:Nat):Int):=by omega
 have e3:((j+1:Nat):Int) - 1=(j:Nat):=by omega
 obtain ⟨y,hy⟩:∃ y,a[j]? = some y:=⟨_,aC (by omega)⟩
 have hx1:=BJ x j1
 have hy1:(fD x a (j+1))[j]? = some y:=by rw [DI x j1 (by omega)]; exact hy
 have p0:=j3'.cell hx1 (j:=0) rfl
 have p1:=j3'.cell hx1 (j:=1) rfl
 have p2:=j3'.cell hx1 (j:=2) rfl
 have q0:=j3'.cell hy1 (j:=0) rfl
 have q1:=j3'.cell hy1 (j:=1) rfl
 have q2:=j3'.cell hy1 (j:=2) rfl
 simp only [str,Nat.add_zero] at p0 p1 p2 q0 q1 q2
 refine an ?_
 refine ax (sq [0,1,2,3,4,5] (.read 6 (sq [7,8,9,10] (.read 11 (.eff 12 [] (sq [13] .done)))))) ?_
 refine xT @hz @e3 @p0 @p1 @p2 @q0 @q1 @q2 ?_
 refine wy (x:=x) (y:=y) fun w4 x4 => ?_
 have x5:bf w3 w4:=(Keep.refl _ w3).drew.trans x4
 cases hlt:gU x y with
 | false =>
  refine an ?_
  have j3:=j3.ext x5
  have j2:=j2.trans x5
  have hj:gK gU x a a.length=j+1:=by
   rw [j4]
   first | rfl | (rw [jV hy,if_neg (by rw [hlt]; simp)])
  have hins:mV gU x a=fD x a (j+1):=by
   unfold mV fD
   rw [hj]
  refine hK2 _ _ (i+1,.slice (some ⟨g2,0,none⟩) (a.length+1) c2) ?_ ⟨hi,j2,?_,new2⟩ (by simp only; omega)
  ·exact bK
  ·simp only
   rw [ry hx,← ha,hins]
   exact j3
 | true =>
  have o4:=j3.ext x5
  have p0:=x5.cell p0
  have p1:=x5.cell p1
  have p2:=x5.cell p2
  have q0:=x5.cell q0
  have q1:=x5.cell q1
  have q2:=x5.cell q2
  have f4:∀ o,w4.frozen? ⟨g2,o,none⟩=false:=fun o=>cl o4.own rfl o
  refine an ?_
  refine ax (sq [0,1,2,3,4,5,6,7,8] (.read 9 (sq [10,11,12] (.read 13 (sq [14] (.eff 15 [] (sq [16] (.eff 17 [] .done)))))))) ?_
  refine xT @e3 @p0 @p1 @p2 @q0 @q1 @q2 @f4 ?_
  have o6:=(o4.set3' (hlen _ j1) (i:=j+1) (by rw [hlen _ j1]; omega) y rfl).set3' (by rw [dR]; exact hlen _ j1) (i:=j) (by rw [dR,hlen _ j1]; omega) x rfl
  rw [BK x y j1 hy] at o6
  have hg2:=new2 g2 rfl
  refine hK3 _ _ j ?_ ⟨by omega,bf.drew' (cC (cC (cC (cC (cC (cC (j2.trans x5) hg2) hg2) hg2) hg2) hg2) hg2),o6.ext (bf.drew' (bf.refl _)),?_⟩ (by omega)
  ·exact bK
  ·rw [j4]
   rw [jV hy,if_pos hlt]
end
end Go.Proofs
end
