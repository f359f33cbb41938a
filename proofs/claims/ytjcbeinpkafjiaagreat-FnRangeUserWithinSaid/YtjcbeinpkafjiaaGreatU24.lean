/- Parts of the proof: Vf, Vg, Vh, Xb, Xd, Xc, Xe. -/
import Derived.Test.YtjcbeinpkafjiaaGreatU21
import Derived.Test.YtjcbeinpkafjiaaGreatU22
import Derived.Test.YtjcbeinpkafjiaaGreatU23
set_option linter.all false
section
namespace Go.E
open Go Go.Sort Go.Proofs
def nextK (s:Bytes) (keys:List Bytes) (e:Bytes):Bytes:=keys.foldl (fun a k=>if s < k∧k < a then k else a) e
def cutF (keys:List Bytes):Nat→Sp→List Sp
 | 0,s=>[s]
 | f+1,s=>if nextK s.s keys s.e=s.e then [s] else ⟨s.s,nextK s.s keys s.e,s.ks⟩ :: cutF keys f ⟨nextK s.s keys s.e,s.e,s.ks⟩
def cutP (keys:List Bytes) (l:List Sp):List Sp:=l.flatMap (cutF keys keys.length)
theorem nextK_spec (s:Bytes) (keys:List Bytes) (e:Bytes):(nextK s keys e=e∨nextK s keys e ∈ keys∧s < nextK s keys e∧nextK s keys e < e)∧∀ k ∈ keys,s < k→k < e→¬ k < nextK s keys e:=by
 unfold nextK
 induction keys generalizing e with
 | nil=>exact ⟨.inl rfl,by simp⟩
 | cons k keys ih =>
  rw [List.foldl_cons]
  by_cases h:s < k∧k < e
  ·rw [if_pos h]
   obtain ⟨h1,h2⟩:=ih k
   have hle:¬ k < keys.foldl (fun a k=>if s < k∧k < a then k else a) k:=by
    rcases h1 with h1 | ⟨_,_,h1⟩
    ·rw [h1]; exact List.lt_irrefl _
    ·exact ble_of h1
   refine ⟨.inr ?_,fun k' hk' h3 h4 => ?_⟩
   ·rcases h1 with h1 | ⟨h5,h6,h7⟩
    ·rw [h1]; exact ⟨List.mem_cons_self,h⟩
    ·exact ⟨List.mem_cons_of_mem _ h5,h6,List.lt_trans h7 h.2⟩
   ·rcases List.mem_cons.1 hk' with rfl | hk'
    ·exact hle
    ·by_cases h5:k' < k
     ·exact h2 k' hk' h3 h5
     ·exact fun h6=>hle (bytes_lt_of h5 h6)
  ·rw [if_neg h]
   obtain ⟨h1,h2⟩:=ih e
   refine ⟨?_,fun k' hk' h3 h4 => ?_⟩
   ·rcases h1 with h1 | ⟨h5,h6⟩
    ·exact .inl h1
    ·exact .inr ⟨List.mem_cons_of_mem _ h5,h6⟩
   ·rcases List.mem_cons.1 hk' with rfl | hk'
    ·exact absurd ⟨h3,h4⟩ h
    ·exact h2 k' hk' h3 h4
def Ch (V:List Sp):Prop:=(∀ s ∈ V,s.s < s.e)∧V.Pairwise fun a b=>¬ b.s < a.e
theorem ch_wf {V:List Sp}:Wf V↔Ch V:=by
 unfold Wf Ch
 rw [List.pairwise_iff_getElem]
 constructor
 ·rintro ⟨h1,h2⟩
  refine ⟨fun s hs => ?_,fun i j hi hj hij => ?_⟩
  ·obtain ⟨j,hj,rfl⟩:=List.getElem_of_mem hs
   have:=h1 j hj
   rwa [getElem!_pos V j hj] at this
  ·have:=h2 i j hij hj
   rw [getElem!_pos V i hi,getElem!_pos V j hj] at this
   grind
 ·rintro ⟨h1,h2⟩
  refine ⟨fun i hi => ?_,fun i j hij hj => ?_⟩
  ·rw [getElem!_pos V i hi]; exact h1 _ (List.getElem_mem hi)
  ·have:=h2 i j (by omega) hj hij
   rw [getElem!_pos V i (by omega),getElem!_pos V j hj]
   grind
theorem cutF_spec (keys:List Bytes) (f:Nat) (s:Sp) (h:s.s < s.e):Ch (cutF keys f s)∧(∀ t ∈ cutF keys f s,¬ t.s < s.s∧¬ s.e < t.e∧t.ks=s.ks)∧∀ x,ptK (cutF keys f s) x=if hasK x s then s.ks else []:=by
 induction f generalizing s with
 | zero=>exact ⟨⟨by simpa [cutF] using h,by simp [cutF]⟩,by simp [cutF,List.lt_irrefl],fun x=>by simp [cutF,ptK]⟩
 | succ f ih =>
  unfold cutF
  obtain ⟨h1,h2⟩:=nextK_spec s.s keys s.e
  split
  ·exact ⟨⟨by simpa using h,by simp⟩,by simp [List.lt_irrefl],fun x=>by simp [ptK]⟩
  ·rename_i hne
   obtain ⟨_,h3,h4⟩:=h1.resolve_left hne
   obtain ⟨a,b,c⟩:=ih ⟨nextK s.s keys s.e,s.e,s.ks⟩ h4
   simp only at a b c
   refine ⟨⟨fun t ht => ?_,List.pairwise_cons.2 ⟨fun t ht=>(b t ht).1,a.2⟩⟩,fun t ht => ?_,fun x => ?_⟩
   ·rcases List.mem_cons.1 ht with rfl | ht
    ·exact h3
    ·exact a.1 t ht
   ·rcases List.mem_cons.1 ht with rfl | ht
    ·exact ⟨List.lt_irrefl _,ble_of h4,rfl⟩
    ·obtain ⟨b1,b2,b3⟩:=b t ht
     exact ⟨fun h5=>b1 (List.lt_trans h5 h3),b2,b3⟩
   ·show (if hasK x ⟨s.s,nextK s.s keys s.e,s.ks⟩ then s.ks else [])++ptK _ x=_
    rw [c]
    have A:hasK x ⟨s.s,nextK s.s keys s.e,s.ks⟩=true↔¬ x < s.s∧x < nextK s.s keys s.e:=hasK_iff
    have B:hasK x ⟨nextK s.s keys s.e,s.e,s.ks⟩=true↔¬ x < nextK s.s keys s.e∧x < s.e:=hasK_iff
    have C:hasK x s=true↔¬ x < s.s∧x < s.e:=hasK_iff
    by_cases h5:hasK x s=true
    ·rw [if_pos h5]
     have h5:=C.1 h5
     by_cases h6:x < nextK s.s keys s.e
     ·rw [if_pos (A.2 ⟨h5.1,h6⟩),if_neg fun h7=>(B.1 h7).1 h6,List.append_nil]
     ·rw [if_neg fun h7=>h6 (A.1 h7).2,if_pos (B.2 ⟨h6,h5.2⟩),List.nil_append]
    ·rw [if_neg h5,if_neg fun h6=>h5 (C.2 ⟨(A.1 h6).1,List.lt_trans (A.1 h6).2 h4⟩),if_neg fun h6=>h5 (C.2 ⟨fun h7=>(B.1 h6).1 (List.lt_trans h7 h3),(B.1 h6).2⟩)]
     rfl
theorem cutF_length (keys:List Bytes) (f:Nat) (s:Sp):(cutF keys f s).length≤f+1:=by
 induction f generalizing s with
 | zero=>simp [cutF]
 | succ f ih =>
  unfold cutF
  split
  ·simp
  ·rw [List.length_cons]
   have:=ih ⟨nextK s.s keys s.e,s.e,s.ks⟩
   omega
theorem cutP_spec (keys:List Bytes) {l:List Sp} (h:Wf l):Wf (cutP keys l)∧(∀ x,ptK (cutP keys l) x=ptK l x)∧(∀ t ∈ cutP keys l,∃ s ∈ l,t.ks=s.ks):=by
 rw [ch_wf] at h ⊢
 induction l with
 | nil=>exact ⟨⟨by simp [cutP],by simp [cutP]⟩,fun x=>rfl,by simp [cutP]⟩
 | cons s l ih =>
  obtain ⟨a,b,c⟩:=ih ⟨fun t ht=>h.1 t (List.mem_cons_of_mem _ ht),h.2.of_cons⟩
  have hs:=h.1 s List.mem_cons_self
  obtain ⟨p,q,r⟩:=cutF_spec keys keys.length s hs
  have e:cutP keys (s :: l)=cutF keys keys.length s++cutP keys l:=by unfold cutP; rw [List.flatMap_cons]
  rw [e]
  refine ⟨⟨fun t ht => ?_,List.pairwise_append.2 ⟨p.2,a.2,fun t ht u hu => ?_⟩⟩,fun x => ?_,fun t ht => ?_⟩
  ·rcases List.mem_append.1 ht with ht | ht
   ·exact p.1 t ht
   ·exact a.1 t ht
  ·unfold cutP at hu
   obtain ⟨v,hv,hu⟩:=List.mem_flatMap.1 hu
   have h1:=List.rel_of_pairwise_cons h.2 hv
   obtain ⟨_,q2,_⟩:=cutF_spec keys keys.length v (h.1 v (List.mem_cons_of_mem _ hv))
   have h2:=(q2 u hu).1
   have h3:=(q t ht).2.1
   exact fun h4=>h1 (bytes_trans (bytes_lt_of h2 h4) h3)
  ·rw [ptK_append,r,b]
   rfl
  ·rcases List.mem_append.1 ht with ht | ht
   ·exact ⟨s,List.mem_cons_self,(q t ht).2.2⟩
   ·obtain ⟨u,hu,e⟩:=c t ht
    exact ⟨u,List.mem_cons_of_mem _ hu,e⟩
end Go.E
end
section
namespace Go.E
open Go Go.Sort Go.Proofs
def okP (V:List Sp) (o:Option Int):Option Nat:=match o with
 | some p=>if 0≤p∧p < V.length then some p.toNat else none
 | none=>none
theorem okP_in {V:List Sp} {p:Nat} (h:p < V.length):okP V (some (p:Int))=some p:=(if_pos ⟨by omega,by omega⟩).trans (by simp)
theorem okP_out {V:List Sp} {p:Int} (h:¬ (0≤p∧p < V.length)):okP V (some p)=none:=if_neg h
theorem forth_none (V:List Sp) (p:Int) {last:Nat} (hl:last≠5∧last≠3) (m:Nat):(wlk V p false last (List.replicate m (2,[]))).filterMap (okP V)=[]:=by
 induction m with
 | zero=>rfl
 | succ m ih =>
  rw [List.replicate_succ]
  unfold wlk
  have:tkn 2 false last=false:=by simp [tkn,hl]
  rw [this,if_neg (by simp)]
  exact ih
theorem forth_some (V:List Sp) {last:Nat} (m p:Nat) (hp:p < V.length) (hm:V.length≤p+m+1):(wlk V p true last (List.replicate m (2,[]))).filterMap (okP V)=List.range' (p+1) (V.length - (p+1)):=by
 induction m generalizing p last with
 | zero =>
  rw [show V.length - (p+1)=0 by omega]
  rfl
 | succ m ih =>
  rw [List.replicate_succ]
  unfold wlk
  have:tkn 2 true last=true:=by simp [tkn]
  rw [this,if_pos rfl]
  have hmv:mv V p 2 []=((p+1:Nat):Int):=by simp [mv]
  rw [hmv]
  rcases Nat.lt_or_ge (p+1) V.length with h | h
  ·have hi:inV V ((p+1:Nat):Int)=true:=decide_eq_true (by omega)
   rw [hi,List.filterMap_cons,okP_in h,ih (p+1) h (by omega)]
   simp only
   rw [show V.length - (p+1)=V.length - (p+1+1)+1 by omega,List.range'_succ]
  ·have hi:inV V ((p+1:Nat):Int)=false:=decide_eq_false (by omega)
   rw [hi,List.filterMap_cons,okP_out (by omega),forth_none V _ (by decide)]
   rw [show V.length - (p+1)=0 by omega]
   rfl
theorem forth_all (V:List Sp) (m:Nat) (hm:V.length≤m+1):(wlk V (-2) false 0 ((0,[]) :: List.replicate m (2,[]))).filterMap (okP V)=List.range V.length:=by
 unfold wlk
 have:tkn 0 false 0=true:=rfl
 rw [this,if_pos rfl]
 have hmv:mv V (-2) 0 []=((0:Nat):Int):=rfl
 rw [hmv]
 rcases Nat.eq_zero_or_pos V.length with h | h
 ·have hi:inV V ((0:Nat):Int)=false:=decide_eq_false (by omega)
  rw [hi,List.filterMap_cons,okP_out (by omega),forth_none V _ (by decide),h]
  rfl
 ·have hi:inV V ((0:Nat):Int)=true:=decide_eq_true (by omega)
  rw [hi,List.filterMap_cons,okP_in h,forth_some V m 0 h (by omega)]
  simp only
  rw [List.range_eq_range',← List.range'_succ,show V.length - (0+1)+1=V.length by omega]
theorem back_none (V:List Sp) (p:Int) {last:Nat} (hl:last≠4∧last≠2) (m:Nat):(wlk V p false last (List.replicate m (3,[]))).filterMap (okP V)=[]:=by
 induction m with
 | zero=>rfl
 | succ m ih =>
  rw [List.replicate_succ]
  unfold wlk
  have:tkn 3 false last=false:=by simp [tkn,hl]
  rw [this,if_neg (by simp)]
  exact ih
theorem back_some (V:List Sp) {last:Nat} (m p:Nat) (hp:p < V.length) (hm:p≤m):(wlk V p true last (List.replicate m (3,[]))).filterMap (okP V)=(List.range p).reverse:=by
 induction m generalizing p last with
 | zero =>
  obtain rfl:p=0:=by omega
  rfl
 | succ m ih =>
  rw [List.replicate_succ]
  unfold wlk
  have:tkn 3 true last=true:=by simp [tkn]
  rw [this,if_pos rfl]
  have hmv:mv V p 3 []=(p:Int) - 1:=by simp [mv]
  rw [hmv]
  rcases Nat.eq_zero_or_pos p with h | h
  ·have hi:inV V ((p:Int) - 1)=false:=decide_eq_false (by omega)
   rw [hi,List.filterMap_cons,okP_out (by omega),back_none V _ (by decide),h]
   rfl
  ·have hi:inV V ((p:Int) - 1)=true:=decide_eq_true (by omega)
   rw [hi,List.filterMap_cons,show ((p:Int) - 1)=((p - 1:Nat):Int) by omega,okP_in (by omega),ih (p - 1) (by omega) (by omega)]
   simp only
   obtain ⟨q,rfl⟩:∃ q,p=q+1:=⟨p - 1,by omega⟩
   rw [Nat.add_sub_cancel,List.range_succ,List.reverse_append]
   rfl
theorem back_all (V:List Sp) (m:Nat) (hm:V.length≤m+1):(wlk V (-2) false 0 ((1,[]) :: List.replicate m (3,[]))).filterMap (okP V)=(List.range V.length).reverse:=by
 unfold wlk
 have:tkn 1 false 0=true:=rfl
 rw [this,if_pos rfl]
 have hmv:mv V (-2) 1 []=(V.length:Int) - 1:=rfl
 rw [hmv]
 rcases Nat.eq_zero_or_pos V.length with h | h
 ·have hi:inV V ((V.length:Int) - 1)=false:=decide_eq_false (by omega)
  rw [hi,List.filterMap_cons,okP_out (by omega),back_none V _ (by decide),h]
  rfl
 ·have hi:inV V ((V.length:Int) - 1)=true:=decide_eq_true (by omega)
  obtain ⟨q,hq⟩:∃ q,V.length=q+1:=⟨V.length - 1,by omega⟩
  rw [hi,List.filterMap_cons,show ((V.length:Int) - 1)=((q:Nat):Int) by omega,okP_in (by omega)]
  simp only
  rw [back_some V m q (by omega) (by omega),hq,List.range_succ,List.reverse_append]
  rfl
def fndP (l:List An):List Sp:=(l.filter fun a=>a.ok).map An.sp
theorem fnd_bare {V:List Sp} {KS:List K→Prop} {outs:List (Option Int)} {l:List An} (h:Pw (AnsOk V KS) outs l):(fndP l).map bareS=((outs.filterMap (okP V)).map fun p=>bareS V[p]!)∧∀ s ∈ fndP l,KS s.ks:=by
 induction outs generalizing l with
 | nil =>
  obtain rfl:l=[]:=List.length_eq_zero_iff.1 h.1.symm
  exact ⟨rfl,by simp [fndP]⟩
 | cons o outs ih =>
  cases l with
  | nil=>simp [Pw] at h
  | cons a l =>
   have hp:Pw (AnsOk V KS) outs l:=⟨by simpa using h.1,fun i x y hx hy=>h.2 (i+1) x y (by simpa using hx) (by simpa using hy)⟩
   obtain ⟨i1,i2⟩:=ih hp
   have ha:AnsOk V KS o a:=h.2 0 o a rfl rfl
   unfold fndP at i1 i2 ⊢
   cases o with
   | none =>
    have ha:a=⟨false,false,⟨[],[],[]⟩⟩:=ha
    rw [ha,List.filter_cons_of_neg (by simp),List.filterMap_cons]
    exact ⟨i1,i2⟩
   | some p =>
    obtain ⟨h1,h2,h3,h4⟩:=ha
    by_cases hin:0≤p∧p < V.length
    ·have hv:inV V p=true:=decide_eq_true hin
     rw [hv] at h2
     obtain ⟨q,rfl⟩:∃ q:Nat,p=q:=⟨p.toNat,by omega⟩
     obtain ⟨e1,e2,e3,e4⟩:=h3 q rfl (by omega)
     rw [List.filter_cons_of_pos h2,List.filterMap_cons,okP_in (by omega)]
     simp only [List.map_cons]
     refine ⟨by rw [i1,bareS_eq e1 e2 e3],fun s hs => ?_⟩
     rcases List.mem_cons.1 hs with rfl | hs
     ·exact e4
     ·exact i2 s hs
    ·have hv:inV V p=false:=decide_eq_false hin
     rw [hv] at h2
     rw [List.filter_cons_of_neg (by simp [h2]),List.filterMap_cons,okP_out hin]
     exact ⟨i1,i2⟩
theorem map_range_at (V:List Sp):(List.range V.length).map (fun p=>bareS V[p]!)=V.map bareS:=by
 refine List.ext_getElem (by simp) fun i h1 h2 => ?_
 rw [List.getElem_map,List.getElem_map,List.getElem_range,getElem!_pos V i (by simpa using h2)]
end Go.E
end
section
namespace Go.E
open Go Go.Sort Go.Proofs
def RKeys (ks:List K):Prop:=(∀ x ∈ ks,(kindT x.tr=19∨kindT x.tr=20∨kindT x.tr=21)∧(kindT x.tr=19→x.suf=[])∧(kindT x.tr≠21→x.val=[])) ∧
 ks.Pairwise fun x k=>¬ x.tr < k.tr∧¬ (x.tr / 256=k.tr / 256∧x.suf=k.suf∧(kindT k.tr=19↔kindT x.tr=19))
theorem RKeys.cd {ks:List K} (h:RKeys ks):Cd ks:=by
 refine ⟨h.2.imp fun {x y} hxy e e2=>hxy.2 ⟨by rw [e2],e,by rw [e2]⟩,fun x hx=>(h.1 x hx).1⟩
theorem Cd.perm {a b:List K} (h:Cd a) (p:a.Perm b):Cd b:=⟨(List.Perm.pairwise_iff (fun {x y} h e e2=>h e.symm e2.symm) p).1 h.dist,fun x hx=>h.kind x (p.mem_iff.2 hx)⟩
structure LvOk (Lv:List (List Sp)) (n:Nat):Prop where
 n6:Lv.length≤6
 sz:∀ L ∈ Lv,L.length≤n
 wf:∀ L ∈ Lv,Wf L
 ks:∀ L ∈ Lv,∀ s ∈ L,s.ks≠[]∧s.ks.length≤40
 rk:∀ f ∈ fragsP Lv.flatten,RKeys f.ks
theorem addB_length (b:List Bytes) (x:Bytes):(addB b x).length≤b.length+1:=by
 unfold addB
 split
 ·omega
 ·rw [insL_length]; exact Nat.le_refl _
theorem bndsP_length (l:List Sp):(bndsP l).length≤2 * l.length:=by
 have aux:∀ (l:List Sp) (b:List Bytes),(l.foldl (fun b s=>addB (addB b s.s) s.e) b).length≤b.length+2 * l.length:=by
  intro l
  induction l with
  | nil=>exact fun b=>Nat.le_refl _
  | cons s l ih =>
   intro b
   rw [List.foldl_cons,List.length_cons]
   have h1:=ih (addB (addB b s.s) s.e)
   have h2:=addB_length b s.s
   have h3:=addB_length (addB b s.s) s.e
   omega
 have:=aux l []
 simpa [bndsP] using this
theorem flatten_length_le {α:Type} {Lv:List (List α)} {n:Nat} (h:∀ L ∈ Lv,L.length≤n):Lv.flatten.length≤Lv.length * n:=by
 induction Lv with
 | nil=>simp
 | cons L Lv ih =>
  have h1:=h L List.mem_cons_self
  have h2:=ih fun L hL=>h L (List.mem_cons_of_mem _ hL)
  rw [List.flatten_cons,List.length_append,List.length_cons,Nat.add_mul]
  omega
section
variable {Lv:List (List Sp)} {n:Nat}
theorem LvOk.cd (h:LvOk Lv n) (x:Bytes):Cd (ptK Lv.flatten x):=by
 have hB:=bds_of h.wf
 have hf:=fragK_cE h.wf x (uE (bndsP Lv.flatten) x) fun i hi=>cp_uE hB hi x
 rw [← hf]
 cases hcv:cov Lv.length (Lat Lv) (bndsP Lv.flatten) (uE (bndsP Lv.flatten) x) with
 | true =>
  have hm:(⟨(bndsP Lv.flatten)[uE (bndsP Lv.flatten) x - 1]!,(bndsP Lv.flatten)[uE (bndsP Lv.flatten) x]!,canonP (fragK Lv.length (Lat Lv) (bndsP Lv.flatten) (uE (bndsP Lv.flatten) x))⟩:Sp) ∈ fragsP Lv.flatten:=by
   rw [frags_eq h.wf fun L hL s hs=>(h.ks L hL s hs).1,List.mem_map]
   exact ⟨_,mem_covs.2 ⟨uE_le _ _,hcv⟩,rfl⟩
  exact (h.rk _ hm).cd.perm (canonP_perm _)
 | false =>
  have h0:fragK Lv.length (Lat Lv) (bndsP Lv.flatten) (uE (bndsP Lv.flatten) x)=[]:=by
   unfold fragK
   refine List.flatMap_eq_nil_iff.2 fun i hi => ?_
   rw [if_neg fun h1 => ?_]
   rw [cov_iff.2 ⟨i,List.mem_range.1 hi,h1⟩] at hcv
   cases hcv
  rw [h0]
  exact ⟨.nil,by simp⟩
theorem frag_len {Lv:List (List Sp)} {m:Nat} (h:∀ L ∈ Lv,∀ s ∈ L,s.ks.length≤m) (B:List Bytes) (u:Nat):(fragK Lv.length (Lat Lv) B u).length≤Lv.length * m:=by
 unfold fragK
 have:∀ l:List Nat,(∀ i ∈ l,i < Lv.length)→(l.flatMap fun i=>if cp (Lat Lv) B u i % 2=1 then (Lat Lv i)[cp (Lat Lv) B u i / 2]!.ks else []).length≤l.length * m:=by
  intro l
  induction l with
  | nil=>intro _; simp
  | cons i l ih =>
   intro hl
   have hi:=hl i List.mem_cons_self
   have:=ih fun j hj=>hl j (List.mem_cons_of_mem _ hj)
   rw [List.flatMap_cons,List.length_append,List.length_cons,Nat.add_mul]
   have hh:(if cp (Lat Lv) B u i % 2=1 then (Lat Lv i)[cp (Lat Lv) B u i / 2]!.ks else []).length≤m:=by
    split
    ·have hL:Lat Lv i ∈ Lv:=by unfold Lat; rw [getElem!_pos Lv i hi]; exact List.getElem_mem hi
     have hlt:cp (Lat Lv) B u i / 2 < (Lat Lv i).length:=by have:=cp_le (L:=Lat Lv) (B:=B) u i; omega
     rw [getElem!_pos (Lat Lv i) _ hlt]
     exact h _ hL _ (List.getElem_mem hlt)
    ·exact Nat.zero_le _
   omega
 simpa using this (List.range Lv.length) fun i hi=>List.mem_range.1 hi
theorem Vw_length_le (G:List Sp):(Vw G).length≤G.length:=by
 rw [Vw_length]
 unfold sts
 exact Nat.le_trans (List.length_filter_le _ _) (by simp)
theorem view_length (Lv:List (List Sp)) (snap:Nat):(Vw (GL snap Lv.length (Lat Lv) (bndsP Lv.flatten))).length≤2 * Lv.flatten.length+1:=by
 refine Nat.le_trans (Vw_length_le _) ?_
 rw [GL_length]
 unfold covs
 refine Nat.le_trans (List.length_filter_le _ _) ?_
 rw [List.length_range]
 have:=bndsP_length Lv.flatten
 omega
end
end Go.E
end
section
set_option maxRecDepth 10000
namespace Go.E
open Go Go.Sort Go.Proofs Go.Proofs.Tryz
theorem bLess (x y:Bytes):Op.bytesLess x y=decide (x < y):=by
 induction x generalizing y with
 | nil=>cases y <;> simp [Op.bytesLess]
 | cons a x ih =>
  cases y with
  | nil=>simp [Op.bytesLess]
  | cons b y =>
   rw [Bool.eq_iff_iff]
   simp [Op.bytesLess,ih,List.cons_lt_cons_iff]
section
variable {a b:Bytes} {q:Value→Prop}
@[go_sem high] theorem str_eql:strE .eql ⟨a.toArray⟩ ⟨b.toArray⟩ q=q (.bool (decide (a=b))):=by
 rw [strE_eql,ByteArray.toList_mk,ByteArray.toList_mk]
 congr 2
 rw [Bool.eq_iff_iff]; simp
@[go_sem high] theorem str_neq:strE .neq ⟨a.toArray⟩ ⟨b.toArray⟩ q=q (.bool (decide (a≠b))):=by
 rw [strE_neq,ByteArray.toList_mk,ByteArray.toList_mk]
 congr 2
 rw [Bool.eq_iff_iff]; simp
@[go_sem high] theorem str_lss:strE .lss ⟨a.toArray⟩ ⟨b.toArray⟩ q=q (.bool (decide (a < b))):=by
 rw [strE_lss,ByteArray.toList_mk,ByteArray.toList_mk,bLess]
theorem leB (a b:Bytes):(decide (a < b) || a == b)=decide (¬ b < a):=by
 rw [Bool.eq_iff_iff]
 simp only [Bool.or_eq_true,decide_eq_true_eq,beq_iff_eq]
 constructor
 ·rintro (h | rfl)
  ·exact ble_of h
  ·exact List.lt_irrefl _
 ·intro h
  rcases blt_tri a b with h1 | h1 | h1
  ·exact .inl h1
  ·exact .inr h1
  ·exact absurd h1 h
@[go_sem high] theorem str_leq:strE .leq ⟨a.toArray⟩ ⟨b.toArray⟩ q=q (.bool (decide (¬ b < a))):=by
 rw [strE_leq,ByteArray.toList_mk,ByteArray.toList_mk,bLess,leB]
@[go_sem high] theorem str_gtr:strE .gtr ⟨a.toArray⟩ ⟨b.toArray⟩ q=q (.bool (decide (b < a))):=by
 rw [strE_gtr,ByteArray.toList_mk,ByteArray.toList_mk,bLess,leB]
 by_cases h:b < a
 ·rw [decide_eq_true h,decide_eq_false fun hn=>hn h]; rfl
 ·rw [decide_eq_false h,decide_eq_true h]; rfl
@[go_sem high] theorem str_geq:strE .geq ⟨a.toArray⟩ ⟨b.toArray⟩ q=q (.bool (decide (¬ a < b))):=by
 rw [strE_geq,ByteArray.toList_mk,ByteArray.toList_mk,bLess]
 by_cases h:a < b
 ·rw [decide_eq_true h,decide_eq_false fun hn=>hn h]; rfl
 ·rw [decide_eq_false h,decide_eq_true h]; rfl
end
theorem wfl_of {l:List Sp} (h1:∀ i (h:i < l.length),l[i].s < l[i].e) (h2:∀ i (h:i+1 < l.length),¬ l[i+1].s < l[i].e):Wf l:=by
 refine ⟨fun i hi=>by rw [getElem!_pos l i hi]; exact h1 i hi,fun i j hij hj => ?_⟩
 have aux:∀ m,∀ (hm:i+1+m < l.length),¬ l[i+1+m].s < (l[i]'(by omega)).e:=by
  intro m
  induction m with
  | zero=>intro hm; exact h2 i (by omega)
  | succ m ih =>
   intro hm h3
   have a:=h1 (i+1+m) (by omega)
   have b:=h2 (i+1+m) (by omega)
   exact ih (by omega) (List.lt_trans (bytes_trans a b) h3)
 rw [getElem!_pos l i (by omega),getElem!_pos l j hj]
 have:=aux (j - (i+1)) (by omega)
 simp only [show i+1+(j - (i+1))=j by omega] at this
 grind
end Go.E
namespace Go.Proofs
open Go Go.E Go.Sort Go.Proofs.Tryz
section
variable {k:Kont} {d w:World}
theorem kind_run {t:Nat} (hk:k (.int .u8 (kindT t)) w):callK prog 48 #[.int .u64 t] k w:=by
 refine callZ [.tmp 2] func48 ?_
 refine goZ ?_
 have e8:IntKind.u8.wrap (t:Int)=(kindT t:Nat):=by
  unfold kindT
  simp [IntKind.wrap,IntKind.bits,IntKind.signed]
 rw [e8]
 exact hk
theorem seq_run {t:Nat} (hk:k (.int .u64 (t / 256:Nat)) w):callK prog 79 #[.int .u64 t] k w:=by
 have h8:(0:Int)≤8:=by decide
 have e:=shrV (a:=t) (s:=8) (n:=8) (m:=256) rfl rfl
 refine callZ [.tmp 2] func79 ?_
 simp (disch:=first | exact dZ | fail) only [go_sem,↓reduceIte,Nat.reduceEqDiff,Nat.reduceAdd,binE_shr h8,e]
 exact hk
theorem keyVisible_run {t snap:Nat} (ht:t < 18446744073709551616) (hk:k (.bool (visT snap t)) w):callK prog 74 #[.int .u64 t,.int .u64 snap] k w:=by
 have e:∀ {ty:TypeId} {xo yo:Operand} {q:Value→Prop},binE prog .and ty xo yo (.int .u64 (t / 256:Nat)) (.int .u64 36028797018963968) q=q (.int .u64 (t / 256 &&& 36028797018963968:Nat)):=by
  intro ty xo yo q
  exact binE_andN (P:=prog) (t:=ty) (xo:=xo) (yo:=yo) (q:=q) (a:=t / 256) (b:=36028797018963968) (by omega) (by decide)
 refine callZ [.tmp 4] func74 ?_
 refine goZ ?_
 refine seq_run ?_
 by_cases hl:t / 256 < snap
 ·have hl':((t / 256:Nat):Int) < snap:=by omega
  refine gY1 @hl' ?_
  have hv:visT snap t=true:=by unfold visT; simp [hl]
  rw [hv] at hk
  exact hk
 ·have hl':¬ ((t / 256:Nat):Int) < snap:=by omega
  refine gY2 @hl' @e ?_
  have hv:visT snap t=(((t / 256 &&& 36028797018963968:Nat):Int) != 0):=by
   unfold visT
   rw [Bool.eq_iff_iff]
   simp [hl]
  rw [hv] at hk
  exact hk
theorem contains_run {kv:Value} {x:Sp} {key:Bytes} (hf:∃ a n c,kv = .slice a n c) (hk:∀ w',Ext w w'→k (.bool (hasK key x)) w'):callK prog 27 #[.agg #[.string ⟨x.s.toArray⟩,.string ⟨x.e.toArray⟩,kv],.string ⟨key.toArray⟩] k w:=by
 obtain ⟨a,n,c,rfl⟩:=hf
 refine callZ [.tmp 4] func27 ?_
 by_cases h1:key < x.s
 ·have e:hasK key x=false:=decide_eq_false fun h=>h.1 h1
  rw [e] at hk
  refine gY3 @cell_newN @h1 @not_true_eq_false ?_
  exact hk _ (ext_alloc _)
 ·by_cases h2:key < x.e
  ·have e:hasK key x=true:=decide_eq_true ⟨h1,h2⟩
   rw [e] at hk
   refine gY4 @cell_newN @h1 @h2 @not_false_eq_true ?_
   exact hk _ (ext_alloc _)
  ·have e:hasK key x=false:=decide_eq_false fun h=>h2 h.2
   rw [e] at hk
   refine gY4 @cell_newN @h1 @h2 @not_false_eq_true ?_
   exact hk _ (ext_alloc _)
theorem keyLess_run {x y:K} (hk:∀ w',Ext w w'→k (.bool (kLess x y)) w'):callK prog 112 #[.agg #[.int .u64 x.tr,.string ⟨x.suf.toArray⟩,.string ⟨x.val.toArray⟩],.agg #[.int .u64 y.tr,.string ⟨y.suf.toArray⟩,.string ⟨y.val.toArray⟩]] k w:=by
 have x2:∀ a b,Ext w ((w.alloc a).alloc b):=fun a b=>(ext_alloc _).trans (ext_alloc _)
 refine callZ [.tmp 4] func112 ?_
 by_cases h1:x.tr=y.tr
 ·have h1':((x.tr:Int) != y.tr)=false:=by rw [h1]; simp
  by_cases h2:x.suf=y.suf
  ·have e:kLess x y=decide (x.val < y.val):=by unfold kLess; rw [if_neg (by simpa using h1),if_neg (by simpa using h2)]
   rw [e] at hk
   simp (disch:=first | exact dZ | fail) only [go_sem,↓reduceIte,Nat.reduceEqDiff,Nat.reduceAdd,cell_newN,h1',h2,ne_eq,not_true_eq_false]
   exact hk _ (x2 _ _)
  ·have e:kLess x y=decide (x.suf < y.suf):=by unfold kLess; rw [if_neg (by simpa using h1),if_pos h2]
   rw [e] at hk
   simp (disch:=first | exact dZ | fail) only [go_sem,↓reduceIte,Nat.reduceEqDiff,Nat.reduceAdd,cell_newN,h1',h2,ne_eq,not_false_eq_true]
   exact hk _ (x2 _ _)
 ·have h1':((x.tr:Int) != y.tr)=true:=by simp; omega
  have e:kLess x y=decide ((y.tr:Int) < x.tr):=by unfold kLess; rw [if_pos h1]; exact decide_eq_decide.2 (by omega)
  rw [e] at hk
  refine gY2 @cell_newN @h1' ?_
  exact hk _ (x2 _ _)
end
end Go.Proofs
end
section
set_option maxRecDepth 10000
namespace Go.E
open Go Go.Sort Go.Proofs
structure OwnC {α:Type} (ce:α→List Value) (sz:Nat) (el:TypeId) (w:World) (v:Value) (l:List α):Prop where
 own:w.ownsRow 0 el sz v l.length (l.flatMap ce)
 sz:∀ x,(ce x).length=sz
section
variable {α:Type} {ce:α→List Value} {sz:Nat} {el:TypeId} {w w2:World} {v:Value} {l:List α}
theorem addr_at {a:Addr} (h:a.spot=none) (m:Nat):a.add m=⟨a.block,a.off+m,none⟩:=by
 obtain ⟨b,o,s⟩:=a
 simp only at h
 subst h
 cases m <;> rfl
theorem OwnC.nil (h:∀ x,(ce x).length=sz):OwnC ce sz el w (.slice none 0 0) []:=⟨own_none,h⟩
theorem OwnC.keep {M:Nat→Nat→Prop} (h:OwnC ce sz el w v l) (hk:Keep M w w2) (hm:∀ g,v.ownBlock=some g→∀ o,¬ M g o):OwnC ce sz el w2 v l:=⟨own_keep h.own hk hm,h.sz⟩
theorem OwnC.ext (h:OwnC ce sz el w v l) (x:Ext w w2):OwnC ce sz el w2 v l:=h.keep x fun _ _ _ h=>h
theorem OwnC.form (h:OwnC ce sz el w v l):∃ a c,v = .slice a l.length c∧l.length≤c∧c≤9223372036854775807:=by
 obtain ⟨a,c,h1,h2,h3⟩:=own_slice h.own
 exact ⟨a,c,h1,h2,h3⟩
theorem fm_len (h:∀ x,(ce x).length=sz) (l:List α):(l.flatMap ce).length=l.length * sz:=by
 induction l with
 | nil=>simp
 | cons x l ih=>rw [List.flatMap_cons,List.length_append,h,ih,List.length_cons,Nat.add_mul]; omega
theorem fm_get (h:∀ x,(ce x).length=sz) {l:List α} {i j:Nat} {x:α} {u:Value} (hi:l[i]? = some x) (hj:(ce x)[j]? = some u):(l.flatMap ce)[i * sz+j]? = some u:=by
 induction l generalizing i with
 | nil=>simp at hi
 | cons y l ih =>
  rw [List.flatMap_cons]
  cases i with
  | zero =>
   simp only [List.getElem?_cons_zero,Option.some.injEq] at hi
   subst hi
   rw [Nat.zero_mul,Nat.zero_add,List.getElem?_append_left (List.getElem?_eq_some_iff.1 hj).1]
   exact hj
  | succ i =>
   rw [List.getElem?_cons_succ] at hi
   rw [List.getElem?_append_right (by rw [h,Nat.add_mul]; omega),h,show (i+1) * sz+j - sz=i * sz+j by rw [Nat.add_mul]; omega]
   exact ih hi
theorem OwnC.block (h:OwnC ce sz el w v l) {i:Nat} (hi:i < l.length):∃ g c,v = .slice (some ⟨g,0,none⟩) l.length c∧g < w.heap.size:=by
 rcases own_form h.own with ⟨rfl,h0,_⟩ | ⟨g,cap,rfl,_,hg⟩
 ·omega
 ·exact ⟨g,cap,rfl,hg⟩
theorem OwnC.cell {g c:Nat} (h:OwnC ce sz el w (.slice (some ⟨g,0,none⟩) l.length c) l) {i j:Nat} {x:α} {u:Value} (hi:l[i]? = some x) (hj:(ce x)[j]? = some u):w.cell? ⟨g,i * sz+j,none⟩=some u:=own_cell h.own (fm_get h.sz hi hj)
theorem OwnC.sl {R:Elem α} (h:OwnC ce sz el w v l) (hR:∀ x ∈ l,R w (ce x) x):Sl R sz w v l:=by
 rcases own_form h.own with ⟨rfl,h0,_⟩ | ⟨g,cap,rfl,hc,_⟩
 ·exact ⟨rfl,List.length_eq_zero_iff.1 h0⟩
 ·refine ⟨fun _=>rfl,rfl,hc,fun i x hx=>⟨ce x,h.sz x,fun j u hu => ?_,hR x (List.mem_of_getElem? hx)⟩⟩
  have:=h.cell hx hu
  rwa [show 0+i * sz+j=i * sz+j by omega]
theorem fm_set (h:∀ x,(ce x).length=sz) {l:List α} {i:Nat} (hi:i < l.length) (y:α) (m:List Value) (hm:m.length=l.length * sz) (hs:∀ j,j < i * sz∨(i+1) * sz≤j→m[j]? = (l.flatMap ce)[j]?) (hy:∀ j u,(ce y)[j]? = some u→m[i * sz+j]? = some u):m=(l.set i y).flatMap ce:=by
 refine List.ext_getElem? fun p => ?_
 rcases Nat.lt_or_ge p (l.length * sz) with hp | hp
 ·have hsz:0 < sz:=by rcases Nat.eq_zero_or_pos sz with h0 | h0; (rw [h0,Nat.mul_zero] at hp; omega); exact h0
  obtain ⟨q,r,hr,rfl⟩:∃ q r,r < sz∧p=q * sz+r:=⟨p / sz,p % sz,Nat.mod_lt _ hsz,by rw [Nat.mul_comm]; exact (Nat.div_add_mod p sz).symm⟩
  have hq:q < l.length:=by
   rcases Nat.lt_or_ge q l.length with h1 | h1
   ·exact h1
   ·have:=Nat.mul_le_mul_right sz h1; omega
  by_cases hqi:q=i
  ·subst hqi
   have hl:(ce y)[r]? = some ((ce y)[r]'(by rw [h]; exact hr)):=List.getElem?_eq_getElem _
   rw [hy r _ hl,fm_get h (l:=l.set q y) (i:=q) (by rw [List.getElem?_set_self hq]) hl]
  ·have hx:l[q]? = some l[q]:=List.getElem?_eq_getElem hq
   have hl:(ce l[q])[r]? = some ((ce l[q])[r]'(by rw [h]; exact hr)):=List.getElem?_eq_getElem _
   rw [hs _ ?_,fm_get h hx hl,fm_get h (l:=l.set i y) (i:=q) (by rw [List.getElem?_set_ne (Ne.symm hqi)]; exact hx) hl]
   rcases Nat.lt_or_ge q i with h1 | h1
   ·left
    have:=Nat.mul_le_mul_right sz (show q+1≤i by omega)
    rw [Nat.add_mul] at this; omega
   ·right
    have:=Nat.mul_le_mul_right sz (show i+1≤q by omega)
    omega
 ·rw [List.getElem?_eq_none (by rw [hm]; exact hp),List.getElem?_eq_none (by rw [fm_len h,List.length_set]; exact hp)]
theorem OwnC.set3 {g c:Nat} (h:OwnC ce 3 el w (.slice (some ⟨g,0,none⟩) l.length c) l) {i:Nat} (hi:i < l.length) (y:α) {a b e:Value} (hy:ce y=[a,b,e]):OwnC ce 3 el (((w.setCell ⟨g,i * 3,none⟩ a).setCell ⟨g,i * 3+1,none⟩ b).setCell ⟨g,i * 3+2,none⟩ e) (.slice (some ⟨g,0,none⟩) l.length c) (l.set i y):=by
 have o:=own_set (own_set (own_set h.own (i * 3) a) (i * 3+1) b) (i * 3+2) e
 refine ⟨?_,h.sz⟩
 rw [List.length_set]
 have hl:=fm_len h.sz l
 rw [← fm_set (sz:=3) h.sz hi y (((l.flatMap ce).set (i * 3) a).set (i * 3+1) b |>.set (i * 3+2) e) (by simp [hl]) (fun j hj=>by rw [List.getElem?_set_ne (by omega),List.getElem?_set_ne (by omega),List.getElem?_set_ne (by omega)]) fun j u hj => ?_]
 ·exact o
 ·rw [hy] at hj
  match j,hj with
  | 0,hj=>rw [List.getElem?_set_ne (by omega),List.getElem?_set_ne (by omega),Nat.add_zero,List.getElem?_set_self (by rw [hl]; omega)]; exact hj
  | 1,hj=>rw [List.getElem?_set_ne (by omega),List.getElem?_set_self (by rw [List.length_set,hl]; omega)]; exact hj
  | 2,hj=>rw [List.getElem?_set_self (by rw [List.length_set,List.length_set,hl]; omega)]; exact hj
theorem OwnC.set2 {g c:Nat} (h:OwnC ce 2 el w (.slice (some ⟨g,0,none⟩) l.length c) l) {i:Nat} (hi:i < l.length) (y:α) {a b:Value} (hy:ce y=[a,b]):OwnC ce 2 el ((w.setCell ⟨g,i * 2,none⟩ a).setCell ⟨g,i * 2+1,none⟩ b) (.slice (some ⟨g,0,none⟩) l.length c) (l.set i y):=by
 have o:=own_set (own_set h.own (i * 2) a) (i * 2+1) b
 refine ⟨?_,h.sz⟩
 rw [List.length_set]
 have hl:=fm_len h.sz l
 rw [← fm_set (sz:=2) h.sz hi y (((l.flatMap ce).set (i * 2) a).set (i * 2+1) b) (by simp [hl]) (fun j hj=>by rw [List.getElem?_set_ne (by omega),List.getElem?_set_ne (by omega)]) fun j u hj => ?_]
 ·exact o
 ·rw [hy] at hj
  match j,hj with
  | 0,hj=>rw [List.getElem?_set_ne (by omega),Nat.add_zero,List.getElem?_set_self (by rw [hl]; omega)]; exact hj
  | 1,hj=>rw [List.getElem?_set_self (by rw [List.length_set,hl]; omega)]; exact hj
theorem appC {P:Program} {q:Kont} {t ty:TypeId} {by_:Nat} {m:List α} {u:Value} (row:rowP P t=some (el,sz,by_)) (h:OwnC ce sz el w v l) (hu:Lies w u m.length (m.flatMap ce)) (h1:∀ x ∈ m,∀ y ∈ ce x,y.oneCell'=true) (hb:(l.length+m.length) * (by_+1)≤140737488355328)
    (hk:∀ v2 w2,OwnC ce sz el w2 v2 (l++m)→Keep (fun b _=>v.ownBlock=some b) w w2→Newer w v v2→q v2 w2):apX P #[t,t] ty #[v,u] q w:=by
 refine appE row h.own (fm_len h.sz m) hu (fun y hy=>by obtain ⟨x,hx,h2⟩:=List.mem_flatMap.1 hy; exact h1 x hx y h2) hb fun v2 w2 o2 k2 n2 _=>hk v2 w2 ⟨?_,h.sz⟩ (k2 _ fun b _ hb _=>hb) fun g hg => ?_
 ·rw [List.length_append,List.flatMap_append]; exact o2
 ·rcases n2 with h | ⟨g',h,h',_⟩
  ·left; rw [← h]; exact hg
  ·right; rw [h] at hg; cases hg; exact h'
theorem appC1 {P:Program} {q:Kont} {t ty:TypeId} {by_ n:Nat} {W:World} {C:Array Value} (x:α) (row:rowP P t=some (el,sz,by_)) (h:OwnC ce sz el w v l) (hC:C=(ce x).toArray) (hW:W=w.alloc (.cells C el)∨W=(w.alloc (.cells C el)).drew) (hn:n=w.heap.size) (h1:∀ y ∈ ce x,y.oneCell'=true) (hb:(l.length+1) * (by_+1)≤140737488355328)
    (hk:∀ v2 w2,OwnC ce sz el w2 v2 (l++[x])→Keep (fun b _=>v.ownBlock=some b) w w2→Newer w v v2→q v2 w2):apX P #[t,t] ty #[v,.slice (some ⟨n,0,none⟩) 1 1] q W:=by
 subst hC hn
 have k4:Ext w W:=by
  rcases hW with rfl | rfl
  ·exact ext_alloc _
  ·exact Keep.drew (ext_alloc _)
 have hc:∀ j u,(ce x)[j]? = some u→W.cell? ⟨w.heap.size,j,none⟩=some u:=fun j u hu=>by
  have:(w.alloc (.cells (ce x).toArray el)).cell? ⟨w.heap.size,j,none⟩=some u:=by rw [cell_newN (Nat.le_refl _) (by omega)]; simpa using hu
  rcases hW with rfl | rfl
  ·exact this
  ·exact this
 refine appC (m:=[x]) row (h.ext k4) ⟨rfl,fun j u hu => ?_⟩ (fun y hy=>by rw [List.mem_singleton.1 hy]; exact h1) hb fun v2 w2 o2 k2 n2=>hk v2 w2 o2 (k4.keep.trans k2) fun g hg => ?_
 ·rw [addr_at rfl]
  have:=hc j u (by simpa using hu)
  simpa using this
 ·rcases n2 g hg with h | h
  ·exact .inl h
  ·exact .inr (Nat.le_trans k4.size h)
end
end Go.E
end
section
set_option maxRecDepth 10000
namespace Go.Proofs
open Go Go.E Go.Sort Go.Proofs.Tryz
section
variable {k:Kont} {d w:World}
theorem cells_ke {w:World} {g o:Nat} {x:K} (h:AtC KE 3 w g o x):w.cell? ⟨g,o,none⟩=some (.int .u64 x.tr)∧w.cell? ⟨g,o+1,none⟩=some (.string ⟨x.suf.toArray⟩)∧w.cell? ⟨g,o+2,none⟩=some (.string ⟨x.val.toArray⟩)∧x.tr < 18446744073709551616:=by
 obtain ⟨cs,_,hcs,rfl,h⟩:=h
 exact ⟨hcs 0 _ rfl,hcs 1 _ rfl,hcs 2 _ rfl,h⟩
theorem cells_spe {w:World} {g o:Nat} {x:Sp} (h:AtC SpE 3 w g o x):w.cell? ⟨g,o,none⟩=some (.string ⟨x.s.toArray⟩)∧w.cell? ⟨g,o+1,none⟩=some (.string ⟨x.e.toArray⟩)∧∃ a c,w.cell? ⟨g,o+2,none⟩=some (.slice a x.ks.length c)∧Sl KE 3 w (.slice a x.ks.length c) x.ks:=by
 obtain ⟨cs,_,hcs,v,rfl,h⟩:=h
 obtain ⟨a,c,rfl⟩:=h.form
 exact ⟨hcs 0 _ rfl,hcs 1 _ rfl,a,c,hcs 2 _ rfl,h⟩
theorem descending_run {v:Value} {l:List K} (hv:Sl KE 3 w v l) (hl:l.length≤2147483647) (hk:Chk True k w):callK prog 159 #[v] k w:=by
 obtain ⟨ka,kc,rfl⟩:=hv.form
 refine callZ [.tmp 2] func159 ?_
 refine goZ ?_
 refine loopC (fun i:Nat=>[(0,.slice ka l.length kc),(2,.bool false),(3,.int .i64 i)])
  (fun i w'=>1≤i∧Ext w w') (fun i _=>l.length - i) 1 (by kernel_rfl) ?_ ⟨Nat.le_refl _,Ext.refl _⟩ ?_
 ·exact agZ
 rintro K2 e i w1 ⟨i2,i3⟩ hK2
 rcases Nat.lt_or_ge i l.length with hi | hi
 rotate_left
 ·have hi':¬ (i:Int) < l.length:=by omega
  refine gY1 @hi' ?_
  exact hk.yes i3 trivial
 have hi':(i:Int) < l.length:=by omega
 obtain ⟨g,f,c,hv',hc,hat⟩:=(hv.inc KE.mono i3.inc).at (by omega)
 obtain ⟨rfl,rfl⟩:ka=some ⟨g,f,none⟩∧kc=c:=by simpa using hv'
 obtain ⟨x,hx⟩:∃ x,l[i]? = some x:=⟨_,List.getElem?_eq_getElem hi⟩
 obtain ⟨y,hy⟩:∃ y,l[i - 1]? = some y:=⟨_,List.getElem?_eq_getElem (by omega)⟩
 have h0:=(cells_ke (hat i x hx)).1
 have h1:=(cells_ke (hat (i - 1) y hy)).1
 have e1:(i:Int) - 1=((i - 1:Nat):Int):=by omega
 refine gY2 @hi' @e1 ?_
 refine drawZ (sq [0,1,2,3,4] (.read 5 (sq [6,7,8,9] (.read 10 (sq [11] .done))))) ?_
 refine gY3 @h0 @h1 @e1 ?_
 by_cases hlt:(y.tr:Int) < x.tr
 ·refine gY1 @hlt ?_
  exact hk.no (Keep.drew i3)
 ·refine gY1 @hlt ?_
  refine hK2 _ _ (i+1) ?_ ⟨by omega,Keep.drew i3⟩ (by omega)
  exact agZ
theorem full_run {kv:Value} {x:Sp} (hv:Sl KE 3 w kv x.ks) (hl:x.ks.length≤2147483647) (hk:Chk (x.s < x.e∧x.ks≠[]) k w):callK prog 143 #[.agg #[.string ⟨x.s.toArray⟩,.string ⟨x.e.toArray⟩,kv]] k w:=by
 obtain ⟨ka,kc,rfl⟩:=hv.form
 refine callZ [.tmp 2] func143 ?_
 by_cases h1:x.s < x.e
 ·by_cases h2:(0:Int) < x.ks.length
  ·refine gY3 @cell_newN @h1 @h2 ?_
   refine descending_run (hv.inc KE.mono (ext_alloc _).inc) hl fun b w2 x2 _ => ?_
   have x3:=(ext_alloc _).trans x2
   refine goZ ?_
   exact hk _ _ x3 fun _=>⟨h1,List.length_pos_iff.1 (by omega)⟩
  ·refine gY3 @cell_newN @h1 @h2 ?_
   exact hk.no (ext_alloc _)
 ·refine gY2 @cell_newN @h1 ?_
  exact hk.no (ext_alloc _)
theorem most_run {v:Value} {l:List Sp} {n:Nat} (hv:Sl SpE 3 w v l) (hl:l.length≤2147483647) (hk:Chk (l.length≤n∧∀ x ∈ l,x.ks.length≤40) k w):callK prog 128 #[v,.int .i64 n] k w:=by
 obtain ⟨ka,kc,rfl⟩:=hv.form
 refine callZ [.tmp 4] func128 ?_
 refine goZ ?_
 refine loopC (fun i:Nat=>[(0,.slice ka l.length kc),(1,.int .i64 n),(4,.bool false),(7,.slice ka l.length kc),(7+1,.int .i64 l.length),(7+2,.int .i64 i)])
  (fun i w'=>i≤l.length∧Ext w w'∧∀ x ∈ l.take i,x.ks.length≤40) (fun i _=>l.length - i) 0 (by kernel_rfl) ?_ ⟨Nat.zero_le _,Ext.refl _,by simp⟩ ?_
 ·exact agZ
 rintro K2 e i w1 ⟨i2,i3,i4⟩ hK2
 rcases Nat.lt_or_ge i l.length with hi | hi
 rotate_left
 ·have hi':¬ (i:Int) < l.length:=by omega
  obtain rfl:i=l.length:=by omega
  rw [List.take_length] at i4
  by_cases hln:(l.length:Int)≤n; (simp (disch:=first | exact dZ | fail) only [go_sem,↓reduceIte,Nat.reduceEqDiff,Nat.reduceAdd,hi',hln]; exact hk.yes i3 ⟨by omega,i4⟩); (simp (disch:=first | exact dZ | fail) only [go_sem,↓reduceIte,Nat.reduceEqDiff,Nat.reduceAdd,hi',hln]; exact hk.no i3)
 have hi':(i:Int) < l.length:=by omega
 obtain ⟨g,f,c,hv',hc,hat⟩:=(hv.inc SpE.mono i3.inc).at (by omega)
 obtain ⟨rfl,rfl⟩:ka=some ⟨g,f,none⟩∧kc=c:=by simpa using hv'
 obtain ⟨x,hx⟩:∃ x,l[i]? = some x:=⟨_,List.getElem?_eq_getElem hi⟩
 obtain ⟨cs,_,hcs,hR⟩:=hat i x hx
 have hA:=hat i x hx
 obtain ⟨h0,h1,a,cc,h2,_⟩:=cells_spe hA
 by_cases h40:40 < (x.ks.length:Int)
 ·refine gY6 @hi' @h0 @h1 @h2 @cell_newN @h40 ?_
  exact hk.no (i3.trans (ext_alloc _))
 ·refine gY6 @hi' @h0 @h1 @h2 @cell_newN @h40 ?_
  refine hK2 _ _ (i+1) ?_ ⟨hi,i3.trans (ext_alloc _),all_more i4 hx (by omega)⟩ (by omega)
  exact agZ
theorem well_run {v:Value} {l:List Sp} (hv:Sl SpE 3 w v l) (hl:l.length≤2147483647) (hks:∀ x ∈ l,x.ks.length≤2147483647) (hk:Chk (Wf l∧∀ x ∈ l,x.ks≠[]) k w):callK prog 129 #[v] k w:=by
 obtain ⟨ka,kc,rfl⟩:=hv.form
 refine callZ [.tmp 2] func129 ?_
 refine goZ ?_
 refine loopC (fun i:Nat=>[(0,.slice ka l.length kc),(2,.bool false),(5,.slice ka l.length kc),(6,.int .i64 l.length),(7,.int .i64 i)])
  (fun i w'=>i≤l.length∧Ext w w'∧(∀ j (h:j < l.length),j < i→l[j].s < l[j].e∧l[j].ks≠[])∧∀ j (h:j+1 < l.length),j+1 < i→¬ l[j+1].s < l[j].e) (fun i _=>l.length - i) 0 (by kernel_rfl) ?_ ⟨Nat.zero_le _,Ext.refl _,fun _ _ h=>by omega,fun _ _ h=>by omega⟩ ?_
 ·exact agZ
 rintro K2 e i w1 ⟨i2,i3,i4,i5⟩ hK2
 rcases Nat.lt_or_ge i l.length with hi | hi
 rotate_left
 ·have hi':¬ (i:Int) < l.length:=by omega
  obtain rfl:i=l.length:=by omega
  refine gY1 @hi' ?_
  refine hk.yes i3 ⟨wfl_of (fun j h=>(i4 j h h).1) fun j h=>i5 j h h,fun x hx => ?_⟩
  obtain ⟨j,hj,rfl⟩:=List.getElem_of_mem hx
  exact (i4 j hj hj).2
 have hi':(i:Int) < l.length:=by omega
 obtain ⟨g,f,c,hv',hc,hat⟩:=(hv.inc SpE.mono i3.inc).at (by omega)
 obtain ⟨rfl,rfl⟩:ka=some ⟨g,f,none⟩∧kc=c:=by simpa using hv'
 have hx:l[i]? = some l[i]:=List.getElem?_eq_getElem hi
 obtain ⟨x,hxe⟩:∃ x,x=l[i]:=⟨_,rfl⟩
 rw [← hxe] at hx
 obtain ⟨h0,h1,a,cc,h2,hks2⟩:=cells_spe (hat i x hx)
 refine gY4 @hi' @h0 @h1 @h2 ?_
 obtain ⟨O,hO⟩:∃ O,O=Obj.cells #[.string ⟨x.s.toArray⟩,.string ⟨x.e.toArray⟩,.slice a x.ks.length cc] 46:=⟨_,rfl⟩
 obtain ⟨B,hB⟩:∃ B,B=w1.heap.size:=⟨_,rfl⟩
 rw [← hO,← hB]
 have c0:(w1.alloc O).cell? ⟨B,0,none⟩=some (.string ⟨x.s.toArray⟩):=by rw [hO,hB]; exact eY1 @cell_newN
 have c1:(w1.alloc O).cell? ⟨B,1,none⟩=some (.string ⟨x.e.toArray⟩):=by rw [hO,hB]; exact eY1 @cell_newN
 have c2:(w1.alloc O).cell? ⟨B,2,none⟩=some (.slice a x.ks.length cc):=by rw [hO,hB]; exact eY1 @cell_newN
 refine drawZ (.read 0 (.eff 1 [] (sq [2,3,4,5,6,7,8,9,10,11] (.read 12 (sq [13] (.read 14 (sq [15,16,17] .done))))))) ?_
 refine gY3 @c0 @c1 @c2 ?_
 refine full_run (hks2.inc KE.mono (Ext.drew' (ext_alloc O)).inc) (hks _ (List.mem_of_getElem? hx)) fun b w2 x2 hb => ?_
 have x3:Ext w1 w2:=(Keep.drew (ext_alloc O)).trans x2
 have x4:=i3.trans x3
 cases b with
 | false =>
  refine goZ ?_
  exact hk.no x4
 | true =>
  obtain ⟨f1,f2⟩:=hb rfl
  have c0:=x2.cell (show (w1.alloc O).drew.cell? _=_ from c0)
  rcases Nat.eq_zero_or_pos i with hz | hz
  ·have hz':¬ (0:Int) < (i:Int):=by omega
   refine gY1 @hz' ?_
   refine hK2 _ _ (i+1) ?_ ⟨hi,x4,fun j h hj => ?_,fun j h hj=>by omega⟩ (by omega)
   ·exact agZ
   ·obtain rfl:j=i:=by omega
    rw [← hxe]; exact ⟨f1,f2⟩
  ·have hz':(0:Int) < (i:Int):=by omega
   obtain ⟨y,hy⟩:∃ y,l[i - 1]? = some y:=⟨_,List.getElem?_eq_getElem (by omega)⟩
   have e1:(i:Int) - 1=((i - 1:Nat):Int):=by omega
   have g1:=x3.cell (cells_spe (hat (i - 1) y hy)).2.1
   have hye:y=l[i - 1]:=by rw [List.getElem?_eq_getElem (by omega)] at hy; cases hy; rfl
   by_cases hlt:x.s < y.e
   ·refine gY5 @hz' @e1 @g1 @c0 @hlt ?_
    exact hk.no x4
   ·refine gY5 @hz' @e1 @g1 @c0 @hlt ?_
    refine hK2 _ _ (i+1) ?_ ⟨hi,x4,fun j h hj => ?_,fun j h hj => ?_⟩ (by omega)
    ·exact agZ
    ·rcases Nat.lt_or_ge j i with h3 | h3
     ·exact i4 j h h3
     ·obtain rfl:j=i:=by omega
      rw [← hxe]; exact ⟨f1,f2⟩
    ·rcases Nat.lt_or_ge (j+1) i with h3 | h3
     ·exact i5 j h h3
     ·obtain rfl:j=i - 1:=by omega
      rw [← hye]
      simp only [show i - 1+1=i by omega]
      rw [← hxe]
      exact hlt
def LOk (n:Nat) (l:List Sp):Prop:=l.length≤n∧Wf l∧∀ x ∈ l,x.ks≠[]∧x.ks.length≤40
theorem spanWell_run {v:Value} {l:List Sp} {n:Nat} (hv:Sl SpE 3 w v l) (hl:l.length≤2147483647) (hks:∀ x ∈ l,x.ks.length≤2147483647) (hk:Chk (LOk n l) k w):callK prog 94 #[v,.int .i64 n] k w:=by
 obtain ⟨ka,kc,rfl⟩:=hv.form
 refine callZ [.tmp 4] func94 ?_
 refine goZ ?_
 refine most_run hv hl fun b w2 x2 hb => ?_
 cases b with
 | false =>
  refine goZ ?_
  exact hk.no x2
 | true =>
  refine goZ ?_
  refine well_run (hv.inc SpE.mono x2.inc) hl hks fun b w3 x3 hc => ?_
  refine goZ ?_
  exact hk _ _ (x2.trans x3) fun h=>⟨(hb rfl).1,(hc h).1,fun x hx=>⟨(hc h).2 x hx,(hb rfl).2 x hx⟩⟩
theorem spanLevels_run {v:Value} {l:List (List Sp)} {n:Nat} (hv:Sl LvE 1 w v l) (hl:l.length≤2147483647) (hs:∀ x ∈ l,x.length≤2147483647∧∀ y ∈ x,y.ks.length≤2147483647) (hk:Chk (l.length≤6∧∀ x ∈ l,LOk n x) k w):callK prog 57 #[v,.int .i64 n] k w:=by
 obtain ⟨ka,kc,rfl⟩:=hv.form
 refine callZ [.tmp 4] func57 ?_
 refine goZ ?_
 refine loopC (fun i:Nat=>[(0,.slice ka l.length kc),(1,.int .i64 n),(4,.bool false),(7,.slice ka l.length kc),(7+1,.int .i64 l.length),(7+2,.int .i64 i)])
  (fun i w'=>i≤l.length∧Ext w w'∧∀ x ∈ l.take i,LOk n x) (fun i _=>l.length - i) 0 (by kernel_rfl) ?_ ⟨Nat.zero_le _,Ext.refl _,by simp⟩ ?_
 ·exact agZ
 rintro K2 e i w1 ⟨i2,i3,i4⟩ hK2
 rcases Nat.lt_or_ge i l.length with hi | hi
 rotate_left
 ·have hi':¬ (i:Int) < l.length:=by omega
  obtain rfl:i=l.length:=by omega
  rw [List.take_length] at i4
  by_cases hln:(l.length:Int)≤6; (simp (disch:=first | exact dZ | fail) only [go_sem,↓reduceIte,Nat.reduceEqDiff,Nat.reduceAdd,hi',hln]; exact hk.yes i3 ⟨by omega,i4⟩); (simp (disch:=first | exact dZ | fail) only [go_sem,↓reduceIte,Nat.reduceEqDiff,Nat.reduceAdd,hi',hln]; exact hk.no i3)
 have hi':(i:Int) < l.length:=by omega
 obtain ⟨g,f,c,hv',hc,hat⟩:=(hv.inc LvE.mono i3.inc).at (by omega)
 obtain ⟨rfl,rfl⟩:ka=some ⟨g,f,none⟩∧kc=c:=by simpa using hv'
 obtain ⟨x,hx⟩:∃ x,l[i]? = some x:=⟨_,List.getElem?_eq_getElem hi⟩
 obtain ⟨cs,_,hcs,hR⟩:=hat i x hx
 obtain ⟨kv,rfl,hkv⟩:=hR
 obtain ⟨kva,kvc,rfl⟩:=hkv.form
 have h0:w1.cell? ⟨g,f+i * 1,none⟩=some (.slice kva x.length kvc):=hcs 0 _ rfl
 obtain ⟨s1,s2⟩:=hs x (List.mem_of_getElem? hx)
 refine gY2 @hi' @h0 ?_
 refine spanWell_run hkv s1 s2 fun b w2 x2 hb => ?_
 have x3:=i3.trans x2
 cases b with
 | false =>
  refine goZ ?_
  exact hk.no (x3)
 | true =>
  refine goZ ?_
  refine hK2 _ _ (i+1) ?_ ⟨hi,x3,all_more i4 hx (hb rfl)⟩ (by omega)
  exact agZ
end
end Go.Proofs
end
section
set_option maxRecDepth 10000
namespace Go.E
open Go Go.Sort Go.Proofs Go.Proofs.Tryz
def kce (x:K):List Value:=[.int .u64 x.tr,str x.suf,str x.val]
theorem kce_len (x:K):(kce x).length=3:=rfl
theorem kce_one (x:K):∀ y ∈ kce x,y.oneCell'=true:=by simp [kce,Value.oneCell',str]
def insAtJ {α:Type} (x:α) (a:List α) (j:Nat):List α:=a.take j++x :: a.drop j
theorem insJ_len {α:Type} (x:α) {a:List α} {j:Nat} (h:j≤a.length):(insAtJ x a j).length=a.length+1:=by unfold insAtJ; simp; omega
theorem insJ_end {α:Type} (x:α) (a:List α):a++[x]=insAtJ x a a.length:=by unfold insAtJ; simp
theorem insJ_self {α:Type} (x:α) {a:List α} {j:Nat} (h:j≤a.length):(insAtJ x a j)[j]? = some x:=by
 unfold insAtJ
 rw [List.getElem?_append_right (by rw [List.length_take]; omega),List.length_take,Nat.min_eq_left h,Nat.sub_self]
 rfl
theorem insJ_low {α:Type} (x:α) {a:List α} {j i:Nat} (h:j≤a.length) (hi:i < j):(insAtJ x a j)[i]? = a[i]? := by
 unfold insAtJ
 rw [List.getElem?_append_left (by rw [List.length_take]; omega),List.getElem?_take_of_lt hi]
theorem insJ_swap {α:Type} (x y:α) {a:List α} {j:Nat} (h:j+1≤a.length) (hy:a[j]? = some y):((insAtJ x a (j+1)).set (j+1) y).set j x=insAtJ x a j:=by
 have hj:j < a.length:=by omega
 have hy':a[j]=y:=by rw [List.getElem?_eq_getElem hj] at hy; simpa using hy
 unfold insAtJ
 rw [List.take_add_one,hy,List.drop_eq_getElem_cons hj,hy']
 have e1:(a.take j++(some y).toList++x :: a.drop (j+1))=a.take j++y :: x :: a.drop (j+1):=by simp
 have hl:(a.take j).length=j:=by rw [List.length_take]; omega
 rw [e1,List.set_append_right _ _ (by omega),List.set_append_right _ _ (by omega),hl]
 simp
theorem insAt_succ {α:Type} {lt:α→α→Bool} {x y:α} {l:List α} {i:Nat} (hy:l[i]? = some y):insAt lt x l (i+1)=if lt x y then insAt lt x l i else i+1:=by
 conv=>lhs; unfold insAt
 rw [hy]
theorem isort_take {α:Type} {lt:α→α→Bool} {l:List α} {i:Nat} {x:α} (h:l[i]? = some x):isort lt (l.take (i+1))=insL lt x (isort lt (l.take i)):=by
 rw [take_more h]
 unfold isort
 rw [List.foldl_append]
 rfl
section
variable {α:Type} {ce:α→List Value} {el:TypeId} {w:World} {l:List α} {g n c i:Nat} {a b e:Value}
theorem OwnC.set3' (h:OwnC ce 3 el w (.slice (some ⟨g,0,none⟩) n c) l) (hn:l.length=n) (hi:i < l.length) (y:α) (hy:ce y=[a,b,e]):OwnC ce 3 el (((w.setCell ⟨g,i * 3,none⟩ a).setCell ⟨g,i * 3+1,none⟩ b).setCell ⟨g,i * 3+2,none⟩ e) (.slice (some ⟨g,0,none⟩) n c) (l.set i y):=by
 subst hn; exact h.set3 hi y hy
theorem OwnC.set2' (h:OwnC ce 2 el w (.slice (some ⟨g,0,none⟩) n c) l) (hn:l.length=n) (hi:i < l.length) (y:α) (hy:ce y=[a,b]):OwnC ce 2 el ((w.setCell ⟨g,i * 2,none⟩ a).setCell ⟨g,i * 2+1,none⟩ b) (.slice (some ⟨g,0,none⟩) n c) (l.set i y):=by
 subst hn; exact h.set2 hi y hy
end
end Go.E
namespace Go.Proofs
open Go Go.E Go.Sort Go.Proofs.Tryz
section
variable {k:Kont} {d w:World}
set_option maxHeartbeats 1000000 in
theorem canon_run {v:Value} {l:List K} (hv:Sl KE 3 w v l) (hl:l.length < 100000) (hk:∀ v' w',Ext w w'→OwnC kce 3 88 w' v' (canonP l)→(∀ g,v'.ownBlock=some g→w.heap.size≤g)→k v' w'):callK prog 75 #[v] k w:=by
 obtain ⟨ka,kc,rfl⟩:=hv.form
 refine callZ [.tmp 2] func75 ?_
 refine goZ ?_
 refine loopC (fun b:Nat × Value=>[(3,b.2),(7,.slice ka l.length kc),(8,.int .i64 l.length),(9,.int .i64 b.1)])
  (fun b w'=>b.1≤l.length∧Ext w w'∧OwnC kce 3 88 w' b.2 (isort kLess (l.take b.1))∧∀ g,b.2.ownBlock=some g→w.heap.size≤g) (fun b _=>l.length - b.1) (0,.slice none 0 0) (by kernel_rfl) ?_ ⟨Nat.zero_le _,Ext.refl _,OwnC.nil kce_len,by simp [Value.ownBlock]⟩ ?_
 ·exact agZ
 rintro K2 e ⟨i,v⟩ w1 ⟨i2,i3,i4,i5⟩ hK2
 simp only at i2 i4 i5
 rcases Nat.lt_or_ge i l.length with hi | hi
 rotate_left
 ·have hi':¬ (i:Int) < l.length:=by omega
  refine gY1 @hi' ?_
  obtain rfl:i=l.length:=by omega
  rw [List.take_length] at i4
  exact hk v w1 i3 i4 i5
 have hi':(i:Int) < l.length:=by omega
 obtain ⟨g,f,c,hv',hc,hat⟩:=(hv.inc KE.mono i3.inc).at (by omega)
 obtain ⟨rfl,rfl⟩:ka=some ⟨g,f,none⟩∧kc=c:=by simpa using hv'
 obtain ⟨x,hx⟩:∃ x,l[i]? = some x:=⟨_,List.getElem?_eq_getElem hi⟩
 obtain ⟨h0,h1,h2,htr⟩:=cells_ke (hat i x hx)
 obtain ⟨a,ha⟩:∃ a,a=isort kLess (l.take i):=⟨_,rfl⟩
 have hal:a.length=i:=by rw [ha,isort_length,take_len i2]
 rw [← ha] at i4
 obtain ⟨va,vcap,rfl,_,hcm⟩:=i4.form
 refine gY5 @hi' @h0 @h1 @h2 @cell_newN ?_
 refine appC1 x rw44 (i4.ext (ext_alloc _)) rfl (.inl rfl) (by rw [World.size_alloc]) (kce_one x) (by omega) fun v2 w2 o2 k2 n2 => ?_
 have x2:Ext w w2:=(i3.trans (ext_alloc _)).tr k2 fun b o hb h=>by have:=i5 b h; omega
 have new2:∀ g,v2.ownBlock=some g→w.heap.size≤g:=fun g hg=>by
  rcases n2 g hg with h | h
  ·exact i5 g h
  ·rw [World.size_alloc] at h
   have:=i3.size
   omega
 rw [insJ_end] at o2
 obtain ⟨g2,c2,rfl,_⟩:=o2.block (i:=0) (by rw [insJ_len x (Nat.le_refl _)]; omega)
 have hlen:∀ j,j≤a.length→(insAtJ x a j).length=a.length+1:=fun j hj=>insJ_len x hj
 rw [hlen _ (Nat.le_refl _)] at o2 ⊢
 have e1:IntKind.i64.wrap ((a.length:Int)+1 - 1)=a.length:=by rw [i64_of (by omega) (by omega)]; omega
 have e2:((a.length+1:Nat):Int) - 1=a.length:=by omega
 refine gY1 @e2 ?_
 refine loopC (fun j:Nat=>[(3,.slice (some ⟨g2,0,none⟩) (a.length+1) c2),(6,.int .i64 j),(7,.slice (some ⟨g,f,none⟩) l.length kc),(8,.int .i64 l.length),(9,.int .i64 i)])
  (fun j w'=>j≤a.length∧Ext w w'∧OwnC kce 3 88 w' (.slice (some ⟨g2,0,none⟩) (a.length+1) c2) (insAtJ x a j)∧insAt kLess x a a.length=insAt kLess x a j) (fun j _=>j) a.length (by kernel_rfl) ?_ ⟨Nat.le_refl _,x2,o2,rfl⟩ ?_
 ·exact agZ
 rintro K3 e3 j w3 ⟨j1,j2,j3,j4⟩ hK3
 have j3':OwnC kce 3 88 w3 (.slice (some ⟨g2,0,none⟩) (insAtJ x a j).length c2) (insAtJ x a j):=by rw [hlen _ j1]; exact j3
 rcases j with _ | j
 ·have hz:¬ (0:Int) < ((0:Nat):Int):=by omega
  refine goZ ?_
  refine drawZ (sq [0,1,2,3,4,5] (.read 6 (sq [7,8,9,10] (.read 11 (.eff 12 [] (sq [13] .done)))))) ?_
  refine gY1 @hz ?_
  have j3:=j3.ext (Ext.drew' (Ext.refl w3))
  have j2:=Ext.drew' j2
  have hj:insAt kLess x a a.length=0:=by
   rw [j4]
   first | rfl | (rw [insAt_succ hy,if_neg (by rw [hlt]; simp)])
  have hins:insL kLess x a=insAtJ x a (0):=by
   unfold insL insAtJ
   rw [hj]
  refine hK2 _ _ (i+1,.slice (some ⟨g2,0,none⟩) (a.length+1) c2) ?_ ⟨hi,j2,?_,new2⟩ (by simp only; omega)
  ·exact agZ
  ·simp only
   rw [isort_take hx,← ha,hins]
   exact j3
 have hz:(0:Int) < ((j+1:Nat):Int):=by omega
 have e3:((j+1:Nat):Int) - 1=(j:Nat):=by omega
 obtain ⟨y,hy⟩:∃ y,a[j]? = some y:=⟨_,List.getElem?_eq_getElem (by omega)⟩
 have hx1:=insJ_self x j1
 have hy1:(insAtJ x a (j+1))[j]? = some y:=by rw [insJ_low x j1 (by omega)]; exact hy
 have p0:=j3'.cell hx1 (j:=0) rfl
 have p1:=j3'.cell hx1 (j:=1) rfl
 have p2:=j3'.cell hx1 (j:=2) rfl
 have q0:=j3'.cell hy1 (j:=0) rfl
 have q1:=j3'.cell hy1 (j:=1) rfl
 have q2:=j3'.cell hy1 (j:=2) rfl
 simp only [str,Nat.add_zero] at p0 p1 p2 q0 q1 q2
 refine goZ ?_
 refine drawZ (sq [0,1,2,3,4,5] (.read 6 (sq [7,8,9,10] (.read 11 (.eff 12 [] (sq [13] .done)))))) ?_
 refine gY8 @hz @e3 @p0 @p1 @p2 @q0 @q1 @q2 ?_
 refine keyLess_run (x:=x) (y:=y) fun w4 x4 => ?_
 have x5:Ext w3 w4:=(Keep.refl _ w3).drew.trans x4
 cases hlt:kLess x y with
 | false =>
  refine goZ ?_
  have j3:=j3.ext x5
  have j2:=j2.trans x5
  have hj:insAt kLess x a a.length=j+1:=by
   rw [j4]
   first | rfl | (rw [insAt_succ hy,if_neg (by rw [hlt]; simp)])
  have hins:insL kLess x a=insAtJ x a (j+1):=by
   unfold insL insAtJ
   rw [hj]
  refine hK2 _ _ (i+1,.slice (some ⟨g2,0,none⟩) (a.length+1) c2) ?_ ⟨hi,j2,?_,new2⟩ (by simp only; omega)
  ·exact agZ
  ·simp only
   rw [isort_take hx,← ha,hins]
   exact j3
 | true =>
  have o4:=j3.ext x5
  have p0:=x5.cell p0
  have p1:=x5.cell p1
  have p2:=x5.cell p2
  have q0:=x5.cell q0
  have q1:=x5.cell q1
  have q2:=x5.cell q2
  have f4:∀ o,w4.frozen? ⟨g2,o,none⟩=false:=fun o=>own_frozen o4.own rfl o
  refine goZ ?_
  refine drawZ (sq [0,1,2,3,4,5,6,7,8] (.read 9 (sq [10,11,12] (.read 13 (sq [14] (.eff 15 [] (sq [16] (.eff 17 [] .done)))))))) ?_
  refine gY8 @e3 @p0 @p1 @p2 @q0 @q1 @q2 @f4 ?_
  have o6:=(o4.set3' (hlen _ j1) (i:=j+1) (by rw [hlen _ j1]; omega) y rfl).set3' (by rw [List.length_set]; exact hlen _ j1) (i:=j) (by rw [List.length_set,hlen _ j1]; omega) x rfl
  rw [insJ_swap x y j1 hy] at o6
  have hg2:=new2 g2 rfl
  refine hK3 _ _ j ?_ ⟨by omega,Ext.drew' (ext_set (ext_set (ext_set (ext_set (ext_set (ext_set (j2.trans x5) hg2) hg2) hg2) hg2) hg2) hg2),o6.ext (Ext.drew' (Ext.refl _)),?_⟩ (by omega)
  ·exact agZ
  ·rw [j4]
   rw [insAt_succ hy,if_pos hlt]
end
end Go.Proofs
end
