/- Parts of the proof: Pk, Co. -/
import Derived.Test.YtjcbeinpkafjiaaGreatU10
set_option linter.all false
section
namespace Go.E
open Go Go.Sort Go.Proofs
theorem thr_eq {P:Nat→Bool} {N j:Nat} (hj:j≤N) (h1:∀ i,i < j→P i=true) (h2:j < N→P j=false):thr P N=j:=by
 induction N generalizing P j with
 | zero=>unfold thr; omega
 | succ N ih =>
  unfold thr
  cases j with
  | zero=>rw [if_neg (by rw [h2 (by omega)]; simp)]
  | succ j =>
   rw [if_pos (h1 0 (by omega)),ih (j:=j) (by omega) (fun i hi=>h1 (i+1) (by omega)) (fun h=>h2 (by omega))]
theorem skGE_eq {G:List Sp} {key:Bytes} {j:Nat} (hj:j≤G.length) (h1:∀ i,i < j→¬ key < G[i]!.e) (h2:j < G.length→key < G[j]!.e):skGE G key=j :=
 thr_eq hj (fun i hi=>by simpa using h1 i hi) (fun h=>by simpa using h2 h)
theorem skLT_eq {G:List Sp} {key:Bytes} {j:Nat} (hj:j≤G.length) (h1:∀ i,i < j→G[i]!.s < key) (h2:j < G.length→¬ G[j]!.s < key):skLT G key=(j:Int) - 1:=by
 unfold skLT
 rw [thr_eq hj (fun i hi=>by simpa using h1 i hi) (fun h=>by simpa using h2 h)]
section
variable {n snap:Nat} {L:Nat→List Sp} {B:List Bytes}
theorem GL_length:(GL snap n L B).length=(covs n L B).length:=by unfold GL; simp
theorem GL_at {j u:Nat} (h:(covs n L B)[j]? = some u):(GL snap n L B)[j]! = fragS snap n L B u:=by
 have hj:=(List.getElem?_eq_some_iff.1 h).1
 rw [getElem!_pos _ j (by rw [GL_length]; exact hj)]
 unfold GL
 simp only [List.getElem_map]
 congr 1
 exact (List.getElem?_eq_some_iff.1 h).2
theorem covs_b (hB:Bds n L B):∀ x ∈ covs n L B,0 < x∧x < B.length:=fun x hx=>cov_lt hB (mem_covs.1 hx).1 (mem_covs.1 hx).2
theorem GL_wf (hB:Bds n L B):Wf (GL snap n L B):=by
 have e:∀ j,j < (covs n L B).length→(covs n L B)[j]? = some (covs n L B)[j]! := fun j hj=>by rw [getElem!_pos _ j hj]; exact List.getElem?_eq_getElem hj
 refine ⟨fun j hj => ?_,fun i j hij hj => ?_⟩
 ·rw [GL_length] at hj
  have hm:=covs_b hB _ (List.mem_of_getElem? (e j hj))
  rw [GL_at (e j hj)]
  exact (hB.lt (by omega) hm.2).2 (by omega)
 ·rw [GL_length] at hj
  have h1:=covs_b hB _ (List.mem_of_getElem? (e i (by omega)))
  have h2:=covs_b hB _ (List.mem_of_getElem? (e j hj))
  have h3:=(sIdx covs_sorted (e i (by omega)) (e j hj)).2 hij
  rw [GL_at (e i (by omega)),GL_at (e j hj)]
  simp only [fragS]
  have:=hB.lt (i:=(covs n L B)[j]! - 1) (j:=(covs n L B)[i]!) (by omega) h1.2
  rw [← List.not_lt]
  rw [this]
  omega
def cK (L:List Sp) (key:Bytes):Nat:=thr (fun p=>if p % 2=0 then decide (bnd L p < key) else decide (¬ key < bnd L p)) (2 * L.length)
theorem lt_cK {L:List Sp} (h:Wf L) {key:Bytes} {p:Nat} (hp:p < 2 * L.length):p < cK L key↔if p % 2=0 then bnd L p < key else ¬ key < bnd L p:=by
 unfold cK
 rw [lt_thr (fun a b h1 h2 h3 => ?_) hp]
 ·split <;> simp
 ·have m:=bnd_mono h h1 h2
  by_cases ha:a % 2=0
  ·rw [if_pos ha,decide_eq_true_eq]
   by_cases hb:b % 2=0
   ·rw [if_pos hb,decide_eq_true_eq] at h3
    exact bytes_lt_of m h3
   ·rw [if_neg hb,decide_eq_true_eq] at h3
    have s:=h.1 (a / 2) (by omega)
    have m2:=bnd_mono h (p:=a+1) (q:=b) (by omega) h2
    have ea:bnd L a=L[a / 2]!.s:=by unfold bnd; rw [if_pos ha]
    have eb:bnd L (a+1)=L[a / 2]!.e:=by unfold bnd; rw [if_neg (by omega),show (a+1) / 2=a / 2 by omega]
    rw [ea]
    rw [eb] at m2
    have s1:L[a / 2]!.s < bnd L b:=bytes_trans s m2
    exact bytes_trans s1 h3
  ·rw [if_neg ha,decide_eq_true_eq]
   by_cases hb:b % 2=0
   ·rw [if_pos hb,decide_eq_true_eq] at h3
    have:=bytes_lt_of m h3
    exact ble_of this
   ·rw [if_neg hb,decide_eq_true_eq] at h3
    intro h4
    exact h3 (bytes_trans h4 m)
theorem cK_le (L:List Sp) (key:Bytes):cK L key≤2 * L.length:=thr_le _ _
theorem cL_le_cK {L:List Sp} (h:Wf L) (key:Bytes):cL L key≤cK L key:=by
 rcases Nat.lt_or_ge (cK L key) (cL L key) with h1 | h1
 ·have hp:cK L key < 2 * L.length:=by have:=cL_le L key; omega
  have a:=(lt_cL h hp).1 h1
  have b:=(not_congr (lt_cK h (key:=key) hp)).1 (by omega)
  split at b
  ·exact absurd a b
  ·exact absurd (ble_of a) b
 ·exact h1
theorem cK_le_cE {L:List Sp} (h:Wf L) (key:Bytes):cK L key≤cE L key:=by
 rcases Nat.lt_or_ge (cE L key) (cK L key) with h1 | h1
 ·have hp:cE L key < 2 * L.length:=by have:=cK_le L key; omega
  have a:=(lt_cK h (key:=key) hp).1 h1
  have b:=(not_congr (lt_cE h (x:=key) hp)).1 (by omega)
  split at a
  ·exact absurd (ble_of a) b
  ·exact absurd a b
 ·exact h1
theorem cK_lt {L:List Sp} (h:Wf L) {key:Bytes} {r:Nat} (hr:r≤L.length) (h1:∀ j,j < r→L[j]!.s < key) (h2:∀ j,r≤j→j < L.length→key≤L[j]!.s) :
    cK L key=if r=0 then 0 else if L[r - 1]!.e≤key then 2 * r else 2 * r - 1:=by
 have even:∀ j,bnd L (2 * j)=L[j]!.s:=fun j=>by unfold bnd; rw [if_pos (by omega),show 2 * j / 2=j by omega]
 have odd:∀ j,bnd L (2 * j+1)=L[j]!.e:=fun j=>by unfold bnd; rw [if_neg (by omega),show (2 * j+1) / 2=j by omega]
 have behind:r < L.length→¬ (2 * r < cK L key):=fun hlt=>by
  rw [lt_cK h (by omega),if_pos (by omega),even]
  exact List.not_lt.2 (h2 r (Nat.le_refl _) hlt)
 have hcl:=cK_le L key
 split
 ·rename_i h0
  subst h0
  rcases Nat.eq_zero_or_pos L.length with h3 | h3
  ·omega
  ·have:=behind h3; omega
 ·have s1:2 * (r - 1) < cK L key:=by
    rw [lt_cK h (by omega),if_pos (by omega),even]
    exact h1 _ (by omega)
  have s2:=lt_cK h (key:=key) (p:=2 * (r - 1)+1) (by omega)
  rw [if_neg (by omega),odd] at s2
  have s3:cK L key≤2 * r:=by
   rcases Nat.lt_or_ge r L.length with h4 | h4
   ·have:=behind h4; omega
   ·omega
  split
  ·rename_i h4
   have:=s2.2 (List.not_lt.2 h4)
   omega
  ·rename_i h4
   have:¬ (2 * (r - 1)+1 < cK L key):=fun h5=>h4 (List.not_lt.1 (s2.1 h5))
   omega
theorem cK_ge {L:List Sp} (h:Wf L) {key:Bytes} {r:Nat} (hr:r≤L.length) (h1:∀ j,j < r→L[j]!.e≤key) (h2:∀ j,r≤j→j < L.length→key < L[j]!.e) :
    cK L key=if r=L.length then 2 * L.length else if key≤L[r]!.s then 2 * r else 2 * r+1:=by
 have even:∀ j,bnd L (2 * j)=L[j]!.s:=fun j=>by unfold bnd; rw [if_pos (by omega),show 2 * j / 2=j by omega]
 have odd:∀ j,bnd L (2 * j+1)=L[j]!.e:=fun j=>by unfold bnd; rw [if_neg (by omega),show (2 * j+1) / 2=j by omega]
 have hcl:=cK_le L key
 have ahead:2 * r≤cK L key:=by
  rcases Nat.eq_zero_or_pos r with h3 | h3
  ·omega
  ·have:2 * (r - 1)+1 < cK L key:=by
     rw [lt_cK h (by omega),if_neg (by omega),odd]
     exact List.not_lt.2 (h1 _ (by omega))
   omega
 split
 ·rename_i h0
  omega
 ·have s2:=lt_cK h (key:=key) (p:=2 * r+1) (by omega)
  rw [if_neg (by omega),odd] at s2
  have s4:¬ (2 * r+1 < cK L key):=fun h5=>s2.1 h5 (h2 r (Nat.le_refl _) (by omega))
  have s1:=lt_cK h (key:=key) (p:=2 * r) (by omega)
  rw [if_pos (by omega),even] at s1
  split
  ·rename_i h4
   have:¬ (2 * r < cK L key):=fun h5=>List.not_lt.2 h4 (s1.1 h5)
   omega
  ·rename_i h4
   have:=s1.2 (List.not_le.1 h4)
   omega
def uE (B:List Bytes) (key:Bytes):Nat:=thr (fun j=>decide (¬ key < B[j]!)) B.length
def uL (B:List Bytes) (key:Bytes):Nat:=thr (fun j=>decide (B[j]! < key)) B.length
theorem lt_uE (hB:Bds n L B) {key:Bytes} {j:Nat} (hj:j < B.length):j < uE B key↔¬ key < B[j]! := by
 unfold uE
 rw [lt_thr (fun a b h1 h2 h3 => ?_) hj,decide_eq_true_eq]
 rw [decide_eq_true_eq] at h3 ⊢
 intro h4
 rcases Nat.lt_or_eq_of_le h1 with h5 | h5
 ·exact h3 (List.lt_trans h4 ((hB.lt (by omega) h2).2 h5))
 ·subst h5; exact h3 h4
theorem lt_uL (hB:Bds n L B) {key:Bytes} {j:Nat} (hj:j < B.length):j < uL B key↔B[j]! < key:=by
 unfold uL
 rw [lt_thr (fun a b h1 h2 h3 => ?_) hj,decide_eq_true_eq]
 rw [decide_eq_true_eq] at h3 ⊢
 rcases Nat.lt_or_eq_of_le h1 with h5 | h5
 ·exact List.lt_trans ((hB.lt (by omega) h2).2 h5) h3
 ·subst h5; exact h3
theorem uE_le (B:List Bytes) (key:Bytes):uE B key≤B.length:=thr_le _ _
theorem uL_le (B:List Bytes) (key:Bytes):uL B key≤B.length:=thr_le _ _
theorem cp_uE (hB:Bds n L B) {i:Nat} (hi:i < n) (key:Bytes):cp L B (uE B key) i=cE (L i) key:=by
 refine nat_eq_of (cp_le _ i) (cE_le _ _) fun p hp => ?_
 obtain ⟨j,hj,e⟩:=hB.at hi hp
 rw [lt_cp hB (uE_le _ _) hi hp hj e,lt_cE (hB.wf i hi) hp,lt_uE hB hj,e]
theorem cp_uL (hB:Bds n L B) {i:Nat} (hi:i < n) (key:Bytes):cp L B (uL B key) i=cL (L i) key:=by
 refine nat_eq_of (cp_le _ i) (cL_le _ _) fun p hp => ?_
 obtain ⟨j,hj,e⟩:=hB.at hi hp
 rw [lt_cp hB (uL_le _ _) hi hp hj e,lt_cL (hB.wf i hi) hp,lt_uL hB hj,e]
theorem skGE_found (hB:Bds n L B) {key:Bytes} {u:Nat} (hu:u ∈ covs n L B) (h1:uE B key≤u) (h2:∀ v ∈ covs n L B,uE B key≤v→¬ v < u) :
    Cur (covs n L B) B.length u (skGE (GL snap n L B) key:Nat)∧(skGE (GL snap n L B) key:Nat) < (covs n L B).length:=by
 obtain ⟨j,hj,e⟩:=List.getElem_of_mem hu
 have ej:(covs n L B)[j]? = some u:=by rw [List.getElem?_eq_getElem hj,e]
 have hub:=covs_b hB u hu
 have hs:skGE (GL snap n L B) key=j:=by
  refine skGE_eq (by rw [GL_length]; omega) (fun i hi => ?_) (fun _ => ?_)
  ·have ei:(covs n L B)[i]? = some (covs n L B)[i]:=List.getElem?_eq_getElem (by omega)
   rw [GL_at ei]
   have hm:=List.mem_of_getElem? ei
   have hlt:=(sIdx covs_sorted ei ej).2 hi
   show ¬ key < B[(covs n L B)[i]]!
   rw [← lt_uE hB (covs_b hB _ hm).2]
   rcases Nat.lt_or_ge (covs n L B)[i] (uE B key) with h3 | h3
   ·exact h3
   ·exact absurd hlt (h2 _ hm h3)
  ·rw [GL_at ej]
   have:=(not_congr (lt_uE hB (key:=key) hub.2)).1 (by omega)
   exact Classical.not_not.1 this
 rw [hs]
 exact ⟨.inl ⟨j,rfl,ej⟩,hj⟩
theorem skGE_none (hB:Bds n L B) {key:Bytes} (h2:∀ v ∈ covs n L B,¬ uE B key≤v):skGE (GL snap n L B) key=(covs n L B).length:=by
 refine skGE_eq (by rw [GL_length]; omega) (fun i hi => ?_) (fun h=>by rw [GL_length] at h; omega)
 have ei:(covs n L B)[i]? = some (covs n L B)[i]:=List.getElem?_eq_getElem (by omega)
 rw [GL_at ei]
 have hm:=List.mem_of_getElem? ei
 show ¬ key < B[(covs n L B)[i]]!
 rw [← lt_uE hB (covs_b hB _ hm).2]
 have:=h2 _ hm
 omega
theorem skLT_found (hB:Bds n L B) {key:Bytes} {u:Nat} (hu:u ∈ covs n L B) (h1:u≤uL B key) (h2:∀ v ∈ covs n L B,v≤uL B key→¬ u < v) :
    Cur (covs n L B) B.length u (skLT (GL snap n L B) key)∧0≤skLT (GL snap n L B) key:=by
 obtain ⟨j,hj,e⟩:=List.getElem_of_mem hu
 have ej:(covs n L B)[j]? = some u:=by rw [List.getElem?_eq_getElem hj,e]
 have hs:skLT (GL snap n L B) key=(j+1:Nat) - 1:=by
  refine skLT_eq (by rw [GL_length]; omega) (fun i hi => ?_) (fun h => ?_)
  ·have ei:(covs n L B)[i]? = some (covs n L B)[i]:=List.getElem?_eq_getElem (by omega)
   rw [GL_at ei]
   have hm:=covs_b hB _ (List.mem_of_getElem? ei)
   have hle:(covs n L B)[i]≤u:=by
    rcases Nat.lt_or_eq_of_le (show i≤j by omega) with h3 | h3
    ·exact Nat.le_of_lt ((sIdx covs_sorted ei ej).2 h3)
    ·subst h3; rw [e]; exact Nat.le_refl _
   exact (lt_uL hB (j:=(covs n L B)[i] - 1) (by omega)).1 (by omega)
  ·rw [GL_length] at h
   have ei:(covs n L B)[j+1]? = some (covs n L B)[j+1]:=List.getElem?_eq_getElem h
   rw [GL_at ei]
   have hm:=List.mem_of_getElem? ei
   have hb:=covs_b hB _ hm
   have hlt:=(sIdx covs_sorted ej ei).2 (by omega)
   refine (not_congr (lt_uL hB (j:=(covs n L B)[j+1] - 1) (by omega))).1 ?_
   have:=h2 _ hm
   omega
 rw [hs]
 exact ⟨.inl ⟨j,by omega,ej⟩,by omega⟩
theorem skLT_none (hB:Bds n L B) {key:Bytes} (h2:∀ v ∈ covs n L B,¬ v≤uL B key):skLT (GL snap n L B) key = -1:=by
 have hs:skLT (GL snap n L B) key=(0:Nat) - 1:=by
  refine skLT_eq (Nat.zero_le _) (fun i hi=>by omega) (fun h => ?_)
  rw [GL_length] at h
  have ei:(covs n L B)[0]? = some (covs n L B)[0]:=List.getElem?_eq_getElem h
  rw [GL_at ei]
  have hm:=List.mem_of_getElem? ei
  have hb:=covs_b hB _ hm
  refine (not_congr (lt_uL hB (j:=(covs n L B)[0] - 1) (by omega))).1 ?_
  have:=h2 _ hm
  omega
 rw [hs]; rfl
end
end Go.E
end
section
set_option maxRecDepth 10000
namespace Go.E
open Go Go.Sort Go.Proofs.Tryz
theorem and255 (a:Nat):a &&& 255=a % 256:=by
 have:=Nat.and_two_pow_sub_one_eq_mod a 8
 simpa using this
theorem cell_newN {w:World} {b o:Nat} {c:Array Value} {t:TypeId} (h:w.heap.size≤b) (h2:b < w.heap.size+1):(w.alloc (.cells c t)).cell? ⟨b,o,none⟩=c[o]? := by
 obtain rfl:b=w.heap.size:=by omega
 exact World.cell?_alloc_new w c t o
def KR.v (x:KR):Value := .agg [.int .u64 x.k.tr,x.sv,x.vv].toArray
theorem KR.good.form {d:World} {x:KR} (h:x.good d):∃ a n b m,x.sv = .slice a x.k.suf.length n∧x.vv = .slice b x.k.val.length m:=by
 obtain ⟨a,n,e⟩:=bts_slice h.2.1
 obtain ⟨b,m,e2⟩:=bts_slice h.2.2
 exact ⟨a,n,b,m,e,e2⟩
theorem Keep.tr {M M1:Nat→Nat→Prop} {w w1 w2:World} (h:Keep M w w1) (h2:Keep M1 w1 w2) (hm:∀ b o,b < w.heap.size→M1 b o→M b o):Keep M w w2 where
 size:=Nat.le_trans h.size h2.size
 cell b o hb hn:=by rw [h2.cell b o (Nat.lt_of_lt_of_le hb h.size) fun h1=>hn (hm b o hb h1),h.cell b o hb hn]
 frozen b o hb:=by rw [h2.frozen b o (Nat.lt_of_lt_of_le hb h.size),h.frozen b o hb]
 block b hb hn:=by rw [h2.block b (Nat.lt_of_lt_of_le hb h.size) fun o h1=>hn o (hm b o hb h1),h.block b hb hn]
 st:=⟨h2.st.1.trans h.st.1,h2.st.2.1.trans h.st.2.1,h2.st.2.2.trans h.st.2.2⟩
end Go.E
namespace Go.Proofs
open Go Go.E Go.Sort Go.Proofs.Tryz
section
variable {k:Kont} {d w:World}
theorem Kind_run {x:KR} (h:x.good d) (hk:∀ w',Ext w w'→k (.int .u8 (kindT x.k.tr)) w'):callK prog 140 #[x.v] k w:=by
 obtain ⟨a,n,b,m,e1,e2⟩:=h.form
 have ht:=h.1
 unfold KR.v
 rw [e1,e2]
 have e:∀ {t:TypeId} {xo yo:Operand} {q:Value→Prop},binE prog .and t xo yo (.int .u64 x.k.tr) (.int .u64 255) q=q (.int .u64 (x.k.tr % 256:Nat)):=by
  intro t xo yo q
  have:=binE_andN (P:=prog) (t:=t) (xo:=xo) (yo:=yo) (q:=q) (a:=x.k.tr) (b:=255) ht (by decide)
  rw [and255] at this
  exact this
 refine callZ [.tmp 2] func140 ?_
 refine gY1 @e ?_
 have e8:IntKind.u8.wrap ((x.k.tr % 256:Nat):Int)=(kindT x.k.tr:Nat):=by
  unfold kindT
  have:x.k.tr % 256 < 256:=Nat.mod_lt _ (by decide)
  generalize x.k.tr % 256=m at this
  simp [IntKind.wrap,IntKind.bits,IntKind.signed]
  omega
 rw [e8]
 exact hk _ (ext_alloc _)
theorem SeqNum_run {x:KR} (h:x.good d) (hk:∀ w',Ext w w'→k (.int .u64 (x.k.tr / 256:Nat)) w'):callK prog 147 #[x.v] k w:=by
 obtain ⟨a,n,b,m,e1,e2⟩:=h.form
 unfold KR.v
 rw [e1,e2]
 have h8:(0:Int)≤8:=by decide
 have e:=shrV (a:=x.k.tr) (s:=8) (n:=8) (m:=256) rfl rfl
 refine callZ [.tmp 2] func147 ?_
 simp (disch:=first | exact dZ | fail) only [go_sem,↓reduceIte,Nat.reduceEqDiff,Nat.reduceAdd,binE_shr h8,e]
 exact hk _ (ext_alloc _)
theorem VisibleAt_run {x:KR} {snap:Nat} (h:x.good d) (hs:snap < 18446744073709551616) (hk:∀ w',Ext w w'→k (.bool (visT snap x.k.tr)) w'):callK prog 139 #[x.v,.int .u64 snap] k w:=by
 obtain ⟨a,n,b,m,e1,e2⟩:=h.form
 have hv:x.v = .agg [.int .u64 x.k.tr,.slice a x.k.suf.length n,.slice b x.k.val.length m].toArray:=by unfold KR.v; rw [e1,e2]
 rw [hv]
 have ht:=h.1
 have e:∀ {t:TypeId} {xo yo:Operand} {q:Value→Prop},binE prog .and t xo yo (.int .u64 (x.k.tr / 256:Nat)) (.int .u64 36028797018963968) q=q (.int .u64 (x.k.tr / 256 &&& 36028797018963968:Nat)):=by
  intro t xo yo q
  exact binE_andN (P:=prog) (t:=t) (xo:=xo) (yo:=yo) (q:=q) (a:=x.k.tr / 256) (b:=36028797018963968) (by omega) (by decide)
 refine callZ [.tmp 4] func139 ?_
 refine goZ ?_
 rw [← hv]
 refine SeqNum_run h fun w2 x2 => ?_
 have x3:Ext w w2:=(ext_alloc _).trans x2
 by_cases hl:x.k.tr / 256 < snap
 ·have hl':((x.k.tr / 256:Nat):Int) < snap:=by omega
  refine gY1 @hl' ?_
  have hv:visT snap x.k.tr=true:=by unfold visT; simp [hl]
  rw [hv] at hk
  exact hk _ x3
 ·have hl':¬ ((x.k.tr / 256:Nat):Int) < snap:=by omega
  refine gY2 @hl' @e ?_
  have hv:visT snap x.k.tr=(((x.k.tr / 256 &&& 36028797018963968:Nat):Int) != 0):=by
   unfold visT
   rw [Bool.eq_iff_iff]
   simp [hl]
  rw [hv] at hk
  exact hk _ x3
end
end Go.Proofs
namespace Go.E
open Go Go.Sort Go.Proofs Go.Proofs.Tryz
theorem preL_cons (snap:Nat) (x:KR) (l:List KR):preL snap (x :: l)=if visT snap x.k.tr then (if kindT x.k.tr=19 then [] else x :: preL snap l) else preL snap l:=rfl
theorem delL_cons (snap:Nat) (x:KR) (l:List KR):delL snap (x :: l)=if visT snap x.k.tr then (if kindT x.k.tr=19 then some x else delL snap l) else delL snap l:=rfl
def KAt (w:World) (g:Nat) (l:List KR):Prop:=∀ i x,l[i]? = some x→w.cell? ⟨g,i * 3,none⟩=some (.int .u64 x.k.tr)∧w.cell? ⟨g,i * 3+1,none⟩=some x.sv∧w.cell? ⟨g,i * 3+2,none⟩=some x.vv
theorem KAt.keep {w w2:World} {g:Nat} {l:List KR} {M:Nat→Nat→Prop} (h:KAt w g l) (hk:Keep M w w2) (hm:∀ o,¬ M g o):KAt w2 g l:=fun i x hx=>by
 obtain ⟨h1,h2,h3⟩:=h i x hx
 exact ⟨hk.some h1 (hm _),hk.some h2 (hm _),hk.some h3 (hm _)⟩
structure KOwn (d w:World) (Hb ho:Nat) (v:Value) (l:List KR):Prop where
 hd:w.cell? ⟨Hb,ho,none⟩=some v
 own:w.ownsRow 0 256 3 v l.length (flat l)
 good:∀ x ∈ l,x.good d
def rowM (Hb ho:Nat) (v:Value):Nat→Nat→Prop:=fun b x=>b=Hb∧x=ho∨v.ownBlock=some b
def Newer (w:World) (v v2:Value):Prop:=∀ g,v2.ownBlock=some g→v.ownBlock=some g∨w.heap.size≤g
theorem Newer.refl (w:World) (v:Value):Newer w v v:=fun _ h => .inl h
theorem Newer.trans {w w2:World} {v v2 v3:Value} (h:Newer w v v2) (h2:Newer w2 v2 v3) (hs:w.heap.size≤w2.heap.size):Newer w v v3:=fun g hg=>by
 rcases h2 g hg with h3 | h3
 ·exact h g h3
 ·exact .inr (by omega)
theorem Newer.m {w:World} {Hb ho:Nat} {v v2:Value} (h:Newer w v v2) (b x:Nat) (hb:b < w.heap.size) (hm:rowM Hb ho v2 b x):rowM Hb ho v b x:=by
 rcases hm with hm | hm
 ·exact .inl hm
 ·rcases h b hm with h1 | h1
  ·exact .inr h1
  ·omega
theorem oneCell_good {d:World} {x:KR} (h:x.good d):∀ u ∈ x.cells,u.oneCell'=true:=by
 obtain ⟨a,n,b,m,e1,e2⟩:=h.form
 intro u hu
 unfold KR.cells at hu
 rw [e1,e2] at hu
 simp only [List.mem_cons,List.not_mem_nil,or_false] at hu
 rcases hu with rfl | rfl | rfl <;> rfl
end Go.E
namespace Go.Proofs
open Go Go.E Go.Sort Go.Proofs.Tryz
section
variable {k:Kont} {d w:World}
theorem sufLen' {Hb ho n c:Nat} {a:Option Addr} (h:w.cell? ⟨Hb,ho+1,none⟩=some (.slice a n c)) (hk:k (.int .i64 n) w):callK prog 270 #[.pointer (some ⟨Hb,ho,none⟩)] k w:=by
 refine callZ [.tmp 2] func270 ?_
 refine gY1 @h ?_
 exact hk
theorem keysLen' {Hb ho n c:Nat} {a:Option Addr} (h:w.cell? ⟨Hb,ho,none⟩=some (.slice a n c)) (hk:k (.int .i64 n) w):callK prog 278 #[.pointer (some ⟨Hb,ho,none⟩)] k w:=by
 refine callZ [.tmp 2] func278 ?_
 refine gY1 @h ?_
 exact hk
theorem own_len (va:Option Addr) (i j c:Nat):(Value.slice va i c).ownBlock=(Value.slice va j c).ownBlock:=by
 rcases va with _ | ⟨b,o,s⟩
 ·rfl
 ·cases o <;> cases s <;> rfl
theorem appOne {v:Value} {acc:List KR} {x:KR} {q:Kont} (o:w.ownsRow 0 256 3 v acc.length (flat acc)) (hg:x.good d) (hz:acc.length < 1000000)
    (hk:∀ a c w',w'.ownsRow 0 256 3 (.slice a (acc.length+1) c) (acc.length+1) (flat (acc++[x]))→Keep (fun b _=>v.ownBlock=some b) w w'→Newer w v (.slice a (acc.length+1) c)→q (.slice a (acc.length+1) c) w') :
    apX prog #[110,110] 110 #[v,.slice (some ⟨w.heap.size,0,none⟩) 1 1] q (w.alloc (.cells x.cells.toArray 256)).drew:=by
 obtain ⟨w4,hw4⟩:∃ w4,w4=w.alloc (.cells x.cells.toArray 256):=⟨_,rfl⟩
 rw [← hw4]
 have k4:Ext w w4:=by rw [hw4]; exact ext_alloc _
 simp only [apX]
 refine appE (m:=1) (news:=x.cells) rw110 ((own_keep o k4 (fun _ _ _ h=>h)).drew) (by rfl) ⟨rfl,?_⟩ (oneCell_good hg) ?_ fun v5 w5 o5 k5 n5 _ => ?_
 ·intro j u hj
  rw [addr_add rfl,Nat.zero_add,hw4]
  rw [show (w.alloc (Obj.cells x.cells.toArray 256)).drew.cell? ⟨w.heap.size,j,none⟩=(w.alloc (Obj.cells x.cells.toArray 256)).cell? ⟨w.heap.size,j,none⟩ from rfl]
  refine goZ ?_
  simpa using hj
 ·omega
 obtain ⟨a5,cap5,e5,_⟩:=own_slice o5
 subst e5
 have fl:flat acc++x.cells=flat (acc++[x]):=by rw [flat_append]; rfl
 rw [fl] at o5
 have kk5:Keep (fun b _=>v.ownBlock=some b) w4 w5:=(Keep.refl _ w4).drew.trans (k5 _ fun b o hb _=>hb)
 refine hk a5 cap5 w5 o5 (k4.keep.trans kk5) fun g hg => ?_
 rcases n5 with h | ⟨g2,h,h',_⟩
 ·exact .inl (by rw [← h]; exact hg)
 ·rw [h] at hg
  simp only [Option.some.injEq] at hg
  subst hg
  have:w4.drew.heap.size=w4.heap.size:=rfl
  have:=k4.size
  exact .inr (by omega)
theorem stableK_run {Hb ho:Nat} {v:Value} {l:List KR} {tag:KR→Nat} (h:KOwn d w Hb (ho+1) v l) (hinc:Inc d w) (hne:∀ g,v.ownBlock=some g→g≠Hb∧Out d g) (hc:w.cell? ⟨Hb,ho,none⟩=some (.func (.func 102) #[] #[])) (hO:Ord ltS tag l.toArray) (hz:l.length < 1000000)
    (hk:∀ w' l',KOwn d w' Hb (ho+1) v l'→Mg ltS tag 0 l.length l.toArray l'.toArray→l'.length=l.length→Keep (fun b _=>v.ownBlock=some b) w w'→k (.tuple #[]) w') :
    callK prog 141 #[.iface 252 (.pointer (some ⟨Hb,ho,none⟩))] k w:=by
 have hHb:=lt_of_cell hc
 rcases own_form h.own with ⟨rfl,h0,hf⟩ | ⟨g,cap,rfl,hcap,hg⟩
 ·have hl:l=[]:=List.length_eq_zero_iff.1 h0
  subst hl
  have S:Srt prog (.iface 252 (.pointer (some ⟨Hb,ho,none⟩))) ltS w.heap.size (fun w' (b:Array KR)=>b = #[]∧Ext w w'):=by
   refine ⟨fun h=>h.2.size,fun h=>by rw [h.1]; simp,fun h hi _ _ => ?_,fun h hi _ _ => ?_,fun ob h=>⟨h.1,h.2.alloc ob⟩,fun h hb=>⟨h.1,h.2.set (fun hlt=>by omega)⟩,fun h=>⟨h.1,h.2.drew⟩⟩
   ·rw [h.1] at hi; simp at hi
   ·rw [h.1] at hi; simp at hi
  refine Stable_run S swo_ltS (tag:=tag) (d := #[]) ⟨rfl,Ext.refl w⟩ hO (fun {w2 d2 k2} hR hk2 => ?_) fun w' d' h1 h2 => ?_
  ·rw [Tryz.iv252_Len]
   obtain ⟨rfl,hx⟩:=hR
   exact sufLen' (hx.cell h.hd) hk2
  ·obtain ⟨rfl,hx⟩:=h1
   exact hk w' [] ⟨hx.cell h.hd,own_keep h.own hx (fun _ _ _ h=>h),h.good⟩ h2 rfl hx.keep
 ·obtain ⟨hgH,hgo⟩:=hne g rfl
  have K0:KRow d w w Hb (ho+1) g cap l.toArray:=⟨by simpa using h.hd,by simpa using h.own,by simpa using h.good,Keep.refl _ w,hinc,hg,hHb,Ne.symm hgH,hgo⟩
  refine Stable_run (sufSrt (d:=d) (w0:=w) (g:=g) (cap:=cap) hc) swo_ltS (tag:=tag) (d:=l.toArray) ⟨K0,by simpa using hz⟩ hO (fun {w2 d2 k2} hR hk2 => ?_) fun w' d' h1 h2 => ?_
  ·rw [Tryz.iv252_Len]
   exact sufLen' hR.1.hd hk2
  ·have hsz:d'.size=l.length:=by have:=h2.1.1; simpa using this
   have e:=h1.1.own
   have e2:=h1.1.hd
   rw [hsz] at e e2
   refine hk w' d'.toList ⟨e2,by simpa [hsz] using e,h1.1.good⟩ (by simpa using h2) (by simpa using hsz) (h1.1.keep.mono fun b o _ hb=>by rw [hb]; rfl)
theorem sortK_run {Hb ho:Nat} {v:Value} {l:List KR} (h:KOwn d w Hb ho v l) (hinc:Inc d w) (hne:∀ g,v.ownBlock=some g→g≠Hb∧Out d g) (hz:l.length < 1000000)
    (hk:∀ w' l',KOwn d w' Hb ho v l'→l'.Perm l→l'.Pairwise (fun x y=>y.k.tr≤x.k.tr)→Keep (fun b _=>v.ownBlock=some b) w w'→k (.tuple #[]) w') :
    callK prog 122 #[.iface 263 (.pointer (some ⟨Hb,ho,none⟩))] k w:=by
 have hHb:=lt_of_cell h.hd
 rcases own_form h.own with ⟨rfl,h0,hf⟩ | ⟨g,cap,rfl,hcap,hg⟩
 ·have hl:l=[]:=List.length_eq_zero_iff.1 h0
  subst hl
  have S:Srt prog (.iface 263 (.pointer (some ⟨Hb,ho,none⟩))) ltT w.heap.size (fun w' (b:Array KR)=>b = #[]∧Ext w w'):=by
   refine ⟨fun h=>h.2.size,fun h=>by rw [h.1]; simp,fun h hi _ _ => ?_,fun h hi _ _ => ?_,fun ob h=>⟨h.1,h.2.alloc ob⟩,fun h hb=>⟨h.1,h.2.set (fun hlt=>by omega)⟩,fun h=>⟨h.1,h.2.drew⟩⟩
   ·rw [h.1] at hi; simp at hi
   ·rw [h.1] at hi; simp at hi
  refine Sort_run S swo_ltT (d := #[]) ⟨rfl,Ext.refl w⟩ (fun {w2 d2 k2} hR hk2 => ?_) fun w' d' h1 h2 h3 => ?_
  ·rw [Tryz.iv263_Len]
   obtain ⟨rfl,hx⟩:=hR
   exact keysLen' (hx.cell h.hd) hk2
  ·obtain ⟨rfl,hx⟩:=h1
   exact hk w' [] ⟨hx.cell h.hd,own_keep h.own hx (fun _ _ _ h=>h),h.good⟩ (List.Perm.refl _) List.Pairwise.nil hx.keep
 ·obtain ⟨hgH,hgo⟩:=hne g rfl
  have K0:KRow d w w Hb ho g cap l.toArray:=⟨by simpa using h.hd,by simpa using h.own,by simpa using h.good,Keep.refl _ w,hinc,hg,hHb,Ne.symm hgH,hgo⟩
  refine Sort_run (keysSrt (d:=d) (w0:=w) (Hb:=Hb) (ho:=ho) (g:=g) (cap:=cap)) swo_ltT (d:=l.toArray) ⟨K0,by simpa using hz⟩ (fun {w2 d2 k2} hR hk2 => ?_) fun w' d' h1 h2 h3 => ?_
  ·rw [Tryz.iv263_Len]
   exact keysLen' hR.1.hd hk2
  ·have hsz:d'.size=l.length:=by have:=h2.1; simpa using this
   have e:=h1.1.own
   have e2:=h1.1.hd
   rw [hsz] at e e2
   refine hk w' d'.toList ⟨e2,by simpa [hsz] using e,h1.1.good⟩ (by simpa using perm_of_permIn h2 (Nat.le_refl _)) ?_ (h1.1.keep.mono fun b o _ hb=>by rw [hb]; rfl)
   rw [List.pairwise_iff_getElem]
   intro i j hi hj hij
   simp only [Array.length_toList] at hi hj
   have s:=h3 i j (Nat.zero_le _) hij (by simp; omega)
   rw [getElem!_pos d' i hi,getElem!_pos d' j hj] at s
   simp only [ltT,decide_eq_false_iff_not] at s
   simp only [Array.getElem_toList]
   omega
set_option maxHeartbeats 1000000 in
theorem coalesce_run {Hb ho gk snap cap:Nat} {ka:Option Addr} {vs:Value} {l:List KR} (hc:w.cell? ⟨Hb,ho,none⟩=some (.func (.func 102) #[] #[])) (ho0:KOwn d w Hb (ho+1) vs []) (hf:∀ x,w.frozen? ⟨Hb,x,none⟩=false)
    (hne:∀ g,vs.ownBlock=some g→g≠Hb∧g≠gk∧Out d g) (hgk:gk≠Hb) (hoH:d.cell? ⟨Hb,ho+1,none⟩=none) (hkv:0 < l.length→ka=some ⟨gk,0,none⟩) (hka:KAt w gk l) (hkl:0 < l.length→gk < w.heap.size) (hgood:∀ x ∈ l,x.good d) (hinc:Inc d w) (hd:DK l) (hl:l.length < 100000) (hs:snap < 18446744073709551616)
    (hk:∀ w' vs' r,KOwn d w' Hb (ho+1) vs' (r++(delL snap l).toList)→CoR snap l r→r.length≤l.length→Keep (rowM Hb (ho+1) vs) w w'→Newer w vs vs'→k .nilIface w') :
    callK prog 124 #[.func (.func 103) #[] #[],.pointer (some ⟨Hb,ho,none⟩),.int .u64 snap,.slice ka l.length cap] k w:=by
 refine callZ [.tmp 8] func124 ?_
 refine goZ ?_
 refine cutL (fun di:Int=>[(0,.func (.func 103) #[] #[]),(1,.pointer (some ⟨Hb,ho,none⟩)),(3,.slice ka l.length cap),(9,.int .i64 di)]) (fun di w1=>∃ v1,KOwn d w1 Hb (ho+1) v1 (preL snap l)∧Keep (rowM Hb (ho+1) vs) w w1∧Newer w vs v1∧((di = -1∧delL snap l=none)∨∃ i:Nat,di=i∧l[i]? = delL snap l∧i < l.length)) (by kernel_rfl) (fun K hK => ?_) ?_
 ·refine loopC (fun i:Nat=>[(0,.func (.func 103) #[] #[]),(1,.pointer (some ⟨Hb,ho,none⟩)),(2,.int .u64 snap),(3,.slice ka l.length cap),(9,.int .i64 (-1)),(16,.int .i64 l.length),(17,.int .i64 i)])
    (fun i w1=>∃ v1 acc,KOwn d w1 Hb (ho+1) v1 acc∧Keep (rowM Hb (ho+1) vs) w w1∧Newer w vs v1∧preL snap l=acc++preL snap (l.drop i)∧delL snap l=delL snap (l.drop i)∧i≤l.length∧acc.length≤i) (fun i _=>l.length - i) 0 (by kernel_rfl) ?_ ⟨vs,[],ho0,Keep.refl _ w,Newer.refl w vs,rfl,rfl,Nat.zero_le _,Nat.zero_le _⟩ ?_
  ·exact agZ
  rintro K2 e2 i w1 ⟨v1,acc,h1,h2,h3,h4,h5,h6,h7⟩ hK2
  by_cases hi:i < l.length
  ·have hi':(i:Int) < l.length:=by omega
   obtain ⟨x,hx⟩:∃ x,l[i]? = some x:=⟨l[i],List.getElem?_eq_getElem hi⟩
   have hxm:x ∈ l:=List.mem_of_getElem? hx
   have hg:=hgood x hxm
   obtain ⟨a,n,b,m,q1,q2⟩:=hg.form
   have hv:x.v = .agg [.int .u64 x.k.tr,.slice a x.k.suf.length n,.slice b x.k.val.length m].toArray:=by unfold KR.v; rw [q1,q2]
   have hgm:∀ o,¬ rowM Hb (ho+1) vs gk o:=by
    rintro o (⟨h,_⟩ | h)
    ·exact hgk h
    ·exact (hne _ h).2.1 rfl
   obtain ⟨c1,c2,c3⟩:=(hka.keep h2 hgm) i x hx
   rw [q1] at c2
   rw [q2] at c3
   have hka':=hkv (by omega)
   subst hka'
   have hdrop:l.drop i=x :: l.drop (i+1):=by
    rw [List.drop_eq_getElem_cons hi]
    congr 1
    rw [List.getElem?_eq_getElem hi] at hx
    exact Option.some.inj hx
   rw [hdrop,preL_cons] at h4
   rw [hdrop,delL_cons] at h5
   refine gY1 @hi' ?_
   refine drawZ (sq [0,1,2,3,4,5,6,7,8] (.read 9 (sq [10,11,12,13,14] (.read 15 (sq [16,17] .done))))) ?_
   refine gY3 @c1 @c2 @c3 ?_
   rw [← hv]
   refine VisibleAt_run hg hs fun w2 x2 => ?_
   have x2:Ext w1 w2:=(Keep.refl _ w1).drew.trans x2
   have x2':=x2
   cases hvis:visT snap x.k.tr with
   | false =>
    rw [hvis,if_neg (by simp)] at h4 h5
    refine goZ ?_
    refine hK2 _ _ (i+1) ?_ ⟨v1,acc,⟨x2.cell h1.hd,own_keep h1.own x2 (fun _ _ _ h=>h),h1.good⟩,h2.trans x2.keep,h3,h4,h5,by omega,by omega⟩ (by omega)
    exact agZ
   | true =>
    rw [hvis,if_pos rfl] at h4 h5
    have c1:=x2.cell c1
    have c2:=x2.cell c2
    have c3:=x2.cell c3
    refine gY3 @c1 @c2 @c3 ?_
    rw [← hv]
    refine Kind_run hg fun w3 x3 => ?_
    have x3':Ext w1 w3:=x2'.trans x3
    by_cases h9:kindT x.k.tr=19
    ·have h9':(((kindT x.k.tr:Nat):Int) == 19)=true:=by rw [h9]; rfl
     rw [if_pos h9] at h4 h5
     refine gY1 @h9' ?_
     refine hK _ _ (i:Int) ?_ ⟨v1,?_,?_,h3,.inr ⟨i,rfl,by rw [h5,hx],hi⟩⟩
     ·exact agZ
     ·rw [h4,List.append_nil]
      exact ⟨x3'.cell h1.hd,own_keep h1.own x3' (fun _ _ _ h=>h),h1.good⟩
     ·exact h2.trans x3'.keep
    ·have h9':(((kindT x.k.tr:Nat):Int) == 19)=false:=by
       rw [beq_eq_false_iff_ne]; omega
     rw [if_neg h9] at h4 h5
     have c1:=x3.cell c1
     have c2:=x3.cell c2
     have c3:=x3.cell c3
     have c4:=x3'.cell h1.hd
     have hHb:=lt_of_cell c4
     have o3:=own_keep h1.own x3' (fun _ _ _ h=>h)
     have fH:∀ x,w3.frozen? ⟨Hb,x,none⟩=false:=fun x=>by rw [x3'.frozen Hb x (lt_of_cell h1.hd),h2.frozen Hb x (lt_of_cell hc)]; exact hf x
     have hvH:∀ g,v1.ownBlock=some g→g≠Hb:=fun g hg=>by
      rcases h3 g hg with h | h
      ·exact (hne g h).1
      ·have:=lt_of_cell hc; omega
     refine gY1 @h9' ?_
     refine drawZ (sq [0,1,2,3] (.read 4 (sq [5,6,7] (.read 8 (.eff 9 [4] (.eff 10 [] (sq [11,12] (.eff 13 [] .done)))))))) ?_
     refine gY4 @c1 @c2 @c3 @c4 ?_
     obtain ⟨w4,hw4⟩:∃ w4,w4=w3.alloc (.cells x.cells.toArray 256):=⟨_,rfl⟩
     have hcells : #[Value.int IntKind.u64 x.k.tr,Value.slice a x.k.suf.length n,Value.slice b x.k.val.length m]=x.cells.toArray:=by unfold KR.cells; rw [q1,q2]
     rw [hcells,← hw4]
     have k4:Ext w3 w4:=by rw [hw4]; exact ext_alloc _
     have hz4:w4.heap.size=w3.heap.size+1:=by rw [hw4,World.size_alloc]
     simp only [apX]
     refine appE (m:=1) (news:=x.cells) rw110 ((own_keep o3 k4 (fun _ _ _ h=>h)).drew) (by rfl) ⟨rfl,?_⟩ (oneCell_good hg) ?_ fun v5 w5 o5 k5 n5 _ => ?_
     ·intro j u hj
      rw [addr_add rfl,Nat.zero_add,hw4]
      rw [show (w3.alloc (Obj.cells x.cells.toArray 256)).drew.cell? ⟨w3.heap.size,j,none⟩=(w3.alloc (Obj.cells x.cells.toArray 256)).cell? ⟨w3.heap.size,j,none⟩ from rfl]
      refine goZ ?_
      simpa using hj
     ·omega
     have kk5:Keep (fun b _=>v1.ownBlock=some b) w4 w5:=(Keep.refl _ w4).drew.trans (k5 _ fun b o hb _=>hb)
     have k15:Keep (fun b _=>v1.ownBlock=some b) w1 w5:=(x3'.trans k4).keep.trans kk5
     have hvg:∀ g,v1.ownBlock=some g→g≠gk:=fun g hg=>by
      rcases h3 g hg with h | h
      ·exact (hne g h).2.1
      ·have:=hkl (by omega); omega
     have k35:Keep (fun b _=>v1.ownBlock=some b) w3 w5:=k4.keep.trans kk5
     have c1:=k35.some c1 (fun h=>hvg _ h rfl)
     have c2:=k35.some c2 (fun h=>hvg _ h rfl)
     have c3:=k35.some c3 (fun h=>hvg _ h rfl)
     have c4:=k35.some c4 (fun h=>hvH _ h rfl)
     have fH5:∀ x,w5.frozen? ⟨Hb,x,none⟩=false:=fun x=>by rw [k35.frozen Hb x hHb]; exact fH x
     have hxc:Value.agg x.cells.toArray = .agg [.int .u64 x.k.tr,.slice a x.k.suf.length n,.slice b x.k.val.length m].toArray:=by unfold KR.cells; rw [q1,q2]
     rw [hxc]
     obtain ⟨a5,cap5,e5,_⟩:=own_slice o5
     subst e5
     refine gY5 @c1 @c2 @c3 @c4 @fH5 ?_
     have fl:flat acc++x.cells=flat (acc++[x]):=by rw [flat_append]; rfl
     rw [fl] at o5
     obtain ⟨w6,hw6⟩:∃ w6,w6=w5.setCell ⟨Hb,ho+1,none⟩ (.slice a5 (acc.length+1) cap5):=⟨_,rfl⟩
     rw [← hw6]
     have k56:Keep (fun b o=>b=Hb∧o=ho+1) w5 w6:=by rw [hw6]; exact keep_set ⟨rfl,rfl⟩
     have n15:Newer w1 v1 (.slice a5 (acc.length+1) cap5):=fun g hg=>by
      rcases n5 with h | ⟨g2,h,h',_⟩
      ·exact .inl (by rw [← h]; exact hg)
      ·rw [h] at hg
       simp only [Option.some.injEq] at hg
       subst hg
       have:w4.drew.heap.size=w4.heap.size:=rfl
       have:=k4.size
       have:=x3'.size
       exact .inr (by omega)
     have n05:=h3.trans n15 h2.size
     have k05:Keep (rowM Hb (ho+1) vs) w w5:=h2.tr k15 fun b o hb hm=>h3.m b o hb (.inr hm)
     refine hK2 _ _ (i+1) ?_ ⟨.slice a5 (acc.length+1) cap5,acc++[x],⟨?_,?_,?_⟩,k05.tr k56 fun b o hb hm => .inl hm,n05,?_,h5,by omega,by simp; omega⟩ (by omega)
     ·exact agZ
     ·rw [hw6]; exact eY1 @c4
     ·rw [List.length_append]
      refine own_keep o5 k56 ?_
      intro g hg o he
      rcases n15 g hg with h | h
      ·exact hvH g h he.1
      ·have:=x3'.size; have:=lt_of_cell h1.hd; omega
     ·intro y hy
      rcases List.mem_append.1 hy with h | h
      ·exact h1.good y h
      ·rw [List.mem_singleton] at h; subst h; exact hg
     ·rw [h4,List.append_assoc]; rfl
  ·have hi':¬ (i:Int) < l.length:=by omega
   obtain rfl:i=l.length:=by omega
   rw [List.drop_length] at h4 h5
   refine gY1 @hi' ?_
   refine hK _ _ (-1) ?_ ⟨v1,?_,h2,h3,.inl ⟨rfl,h5⟩⟩
   ·exact agZ
   ·rw [h4,show preL snap []=[] from rfl,List.append_nil]; exact h1
 rintro e1 di w1 ⟨v1,h1,h2,h3,hdi⟩
 have hv1:∀ g,v1.ownBlock=some g→g≠Hb∧Out d g∧(0 < l.length→g≠gk):=fun g hg=>by
  rcases h3 g hg with h | h
  ·exact ⟨(hne g h).1,(hne g h).2.2,fun _=>(hne g h).2.1⟩
  ·have:=lt_of_cell hc
   exact ⟨by omega,hinc.out h,fun hl=>by have:=hkl hl; omega⟩
 have hinc1:Inc d w1:=hinc.keep h2 fun b o hb=>by
  rcases hb with ⟨rfl,rfl⟩ | h
  ·exact hoH
  ·exact (hne b h).2.2 o
 have hc1:w1.cell? ⟨Hb,ho,none⟩=some (.func (.func 102) #[] #[]):=h2.some hc (by
  rintro (⟨_,h⟩ | h)
  ·omega
  ·exact (hne _ h).1 rfl)
 have hpl:(preL snap l).length≤l.length:=preL_sub.length_le
 refine goZ ?_
 refine stableK_run (tag:=fun x=>18446744073709551616 - x.k.tr) h1 hinc1 (fun g hg=>⟨(hv1 g hg).1,(hv1 g hg).2.1⟩) hc1 (ord_of (snap:=snap) (l:=l) (by simp) hd fun x hx=>(hgood x hx).1) (by omega) fun w2 s h4 h5 h6 k2 => ?_
 have hcr:CoR snap l (ddL none s):=by
  have:=coR_of (snap:=snap) (l:=l) (a:=(preL snap l).toArray) (b:=s.toArray) (by simp) (by simpa using h5) fun x hx=>(hgood x hx).1
  simpa using this
 have fH2:∀ x,w2.frozen? ⟨Hb,x,none⟩=false:=fun x=>by rw [k2.frozen Hb x (lt_of_cell h1.hd),h2.frozen Hb x (lt_of_cell hc)]; exact hf x
 have h4H:=h4.hd
 have h4o:=h4.own
 obtain ⟨n,hn⟩:∃ n,n=s.length:=⟨_,rfl⟩
 have hnl:n≤l.length:=by omega
 rw [← hn] at h4o
 have hva:0 < n→∃ g c,v1 = .slice (some ⟨g,0,none⟩) n c:=by
  intro h0
  rcases own_form h4o with ⟨_,h,_⟩ | ⟨g,c,h,_⟩
  ·omega
  ·exact ⟨g,c,h⟩
 obtain ⟨va,vcap,hv1e,hvcap,hvm⟩:=own_slice h4o
 subst hv1e
 have k02:Keep (rowM Hb (ho+1) vs) w w2:=h2.tr k2 fun b o hb hm=>h3.m b o hb (.inr hm)
 have z0:(0:Int).toNat=0:=rfl
 have zc:(0:Int)≤vcap:=by omega
 simp (disch:=first | exact dZ | fail) only [go_sem,↓reduceIte,Nat.reduceEqDiff,Nat.reduceAdd,h4H,slH Tryz.es110,z0,zc,fH2]
 obtain ⟨w3,hw3⟩:∃ w3,w3=w2.setCell ⟨Hb,ho+1,none⟩ (.slice va 0 vcap):=⟨_,rfl⟩
 rw [← hw3]
 have k23:Keep (fun b o=>b=Hb∧o=ho+1) w2 w3:=by rw [hw3]; exact keep_set ⟨rfl,rfl⟩
 have h3H:w3.cell? ⟨Hb,ho+1,none⟩=some (.slice va 0 vcap):=by rw [hw3]; exact eY1 @h4H
 have o3:w3.ownsRow 0 256 3 (.slice va n vcap) n (flat s):=own_keep h4o k23 fun g hg o he=>(hv1 g hg).1 he.1
 refine loopC (fun x:Nat × Value × Bool=>[(0,.func (.func 103) #[] #[]),(1,.pointer (some ⟨Hb,ho,none⟩)),(3,.slice ka l.length cap),(9,.int .i64 di),(11,.slice va n vcap),(12,x.2.1),(13,.bool x.2.2),(83,.int .i64 n),(84,.int .i64 x.1)])
  (fun x w'=>∃ c dd,w'.cell? ⟨Hb,ho+1,none⟩=some (.slice va (if x.2.2 then dd.length else 0) vcap)∧w'.ownsRow 0 256 3 (.slice va n vcap) n (flat c)∧(∀ y ∈ c,y.good d)∧c.length=n∧c.take dd.length=dd∧c.drop x.1=s.drop x.1∧dd.length≤x.1∧(x.2.2=false→dd.length=x.1)∧(x.2.2=true→dd.length < x.1) ∧
   ddL none s=dd++ddL (if x.1=0 then none else some s[x.1 - 1]!.k.suf) (s.drop x.1)∧(0 < x.1→Bts d x.2.1 s[x.1 - 1]!.k.suf)∧Keep (rowM Hb (ho+1) (.slice va n vcap)) w2 w'∧x.1≤n)
  (fun x _=>n - x.1) (0,.slice none 0 0,false) (by kernel_rfl) ?_ ⟨s,[],h3H,o3,h4.good,hn.symm,rfl,rfl,Nat.le_refl _,fun _=>rfl,fun h=>by simp at h,rfl,fun h=>by simp at h,k23.mono fun b o _ h => .inl h,Nat.zero_le _⟩ ?_
 ·exact agZ
 rintro K e2 ⟨i,pv,sh⟩ w4 ⟨c,dd,i1,i2,i3,i4,i5,i6,i7,i8,i9,i10,i11,i12,i13⟩ hK
 simp only at i1 i2 i3 i4 i5 i6 i7 i8 i9 i10 i11 i12 i13
 have fH4:∀ x,w4.frozen? ⟨Hb,x,none⟩=false:=fun x=>by rw [i12.frozen Hb x (lt_of_cell h4H)]; exact fH2 x
 by_cases hi:i < n
 ·have hi':(i:Int) < n:=by omega
  obtain ⟨g,vcap',hvg⟩:=hva (by omega)
  simp only [Value.slice.injEq,true_and] at hvg
  obtain ⟨rfl,rfl⟩:=hvg
  obtain ⟨x,hx⟩:∃ x,s[i]? = some x:=⟨s[i],List.getElem?_eq_getElem (by omega)⟩
  have hx2:s[i]! = x:=by rw [getElem!_def,hx]
  have hcx:c[i]? = some x:=by
   have:=congrArg (fun l=>l[0]?) i6
   simpa [hx] using this
  have hg:=i3 x (List.mem_of_getElem? hcx)
  obtain ⟨a,na,b,nb,q1,q2⟩:=hg.form
  obtain ⟨f1,f2,f3⟩:=flat_at hcx
  have c1:=own_cell i2 f1
  have c2:=own_cell i2 f2
  have c3:=own_cell i2 f3
  rw [q1] at c2
  rw [q2] at c3
  have hgH:g≠Hb:=(hv1 g rfl).1
  have hdrop:s.drop i=x :: s.drop (i+1):=by
   rw [List.drop_eq_getElem_cons (by omega)]
   congr 1
   rw [List.getElem?_eq_getElem (by omega)] at hx
   exact Option.some.inj hx
  have hinc4:Inc d w4:=(hinc1.keep k2 fun b o hb=>(hv1 b hb).2.1 o).keep i12 fun b o hb=>by
   rcases hb with ⟨rfl,rfl⟩ | h
   ·exact hoH
   ·exact (hv1 b h).2.1 o
  have hd6:c.drop (i+1)=s.drop (i+1):=by
   have:=congrArg (List.drop 1) i6
   simpa [Nat.add_comm] using this
  by_cases h0:i=0
  ·subst h0
   have hsh:sh=false:=by
    cases sh with
    | false=>rfl
    | true=>have:=i9 rfl; omega
   subst hsh
   have hdd:dd=[]:=List.length_eq_zero_iff.1 (by omega)
   subst hdd
   have z00:¬ (0:Int) < ((0:Nat):Int):=by decide
   refine gY5 @hi' @z00 @c1 @c2 @c3 ?_
   refine hK _ _ (1,.slice a x.k.suf.length na,false) ?_ ⟨c,[x],by simpa using i1,i2,i3,i4,?_,hd6,Nat.le_refl _,fun _=>rfl,fun h=>by simp at h,?_,fun _ => ?_,i12,by simp only; omega⟩ (by simp only; omega)
   ·exact agZ
   ·have:c=x :: c.drop 1:=by
      cases c with
      | nil=>simp at hcx
      | cons y c=>simp at hcx; simp [hcx]
    rw [this]; rfl
   ·rw [i10,if_pos rfl,hdrop]
    simp [ddL,hx2]
   ·simp only
    rw [show 1 - 1=0 from rfl,hx2,← q1]
    exact hg.2.1
  ·have h0':(0:Int) < i:=by omega
   rw [if_neg h0] at i10
   have i11:=i11 (by omega)
   refine gY5 @hi' @h0' @c1 @c2 @c3 ?_
   refine Equal_run (i11.inc hinc4) (by rw [← q1]; exact hg.2.1.inc hinc4) ?_
   by_cases he:s[i - 1]!.k.suf=x.k.suf
   ·rw [decide_eq_true he]
    rw [hdrop] at i10
    have i10':ddL none s=dd++ddL (some s[i - 1]!.k.suf) (s.drop (i+1)):=by
     rw [i10]
     congr 1
     conv=>lhs; unfold ddL
     rw [if_pos (by rw [he])]
    have e1:i+1 - 1=i:=by omega
    cases sh with
    | false =>
     have hl:=i8 rfl
     have z1:(0:Int)≤i:=by omega
     have z2:(i:Int)≤vcap:=by omega
     simp only [Bool.false_eq_true,if_false] at i1
     simp (disch:=first | exact dZ | fail) only [go_sem,↓reduceIte,Nat.reduceEqDiff,Nat.reduceAdd,i1,slH Tryz.es110,z1,z2,fH4]
     refine hK _ _ (i+1,pv,true) ?_ ⟨c,dd,?_,?_,i3,i4,i5,hd6,by simp only; omega,fun h=>by simp at h,fun _=>by simp only; omega,?_,fun _ => ?_,i12.set (fun _ => .inl ⟨rfl,rfl⟩),by simp only; omega⟩ (by simp only; omega)
     ·exact agZ
     ·rw [hl]; exact eY1 @i1
     ·exact own_keep i2 (keep_set (M:=fun b o=>b=Hb∧o=ho+1) ⟨rfl,rfl⟩) fun g' hg' o h=>(hv1 g' hg').1 h.1
     ·simp only
      rw [if_neg (by omega),e1,hx2,i10',he]
     ·simp only
      rw [e1,hx2,← he]; exact i11
    | true =>
     have hl:=i9 rfl
     refine goZ ?_
     refine hK _ _ (i+1,pv,true) ?_ ⟨c,dd,i1,i2,i3,i4,i5,hd6,by simp only; omega,fun h=>by simp at h,fun _=>by simp only; omega,?_,fun _ => ?_,i12,by simp only; omega⟩ (by simp only; omega)
     ·exact agZ
     ·simp only
      rw [if_neg (by omega),e1,hx2,i10',he]
     ·simp only
      rw [e1,hx2,← he]; exact i11
   ·rw [decide_eq_false he]
    rw [hdrop] at i10
    have i10':ddL none s=(dd++[x])++ddL (some x.k.suf) (s.drop (i+1)):=by
     rw [i10,List.append_assoc]
     congr 1
     conv=>lhs; unfold ddL
     rw [if_neg (by simpa using he)]
     rfl
    have e1:i+1 - 1=i:=by omega
    cases sh with
    | false =>
     have hl:=i8 rfl
     simp only [Bool.false_eq_true,if_false] at i1
     refine gY3 @c1 @c2 @c3 ?_
     refine hK _ _ (i+1,.slice a x.k.suf.length na,false) ?_ ⟨c,dd++[x],by simpa using i1,i2,i3,i4,?_,hd6,by simp; omega,fun _=>by simp; omega,fun h=>by simp at h,?_,fun _ => ?_,i12,by simp only; omega⟩ (by simp only; omega)
     ·exact agZ
     ·rw [List.length_append,List.length_singleton,List.take_add_one,i5,hl,hcx]; rfl
     ·simp only
      rw [if_neg (by omega),e1,hx2,i10']
     ·simp only
      rw [e1,hx2,← q1]; exact hg.2.1
    | true =>
     have hl:=i9 rfl
     simp only [if_true] at i1
     have hHb4:=lt_of_cell i1
     have hg4:=lt_of_cell c1
     refine gY3 @c1 @c2 @c3 ?_
     refine drawZ (sq [0,1,2,3] (.read 4 (sq [5,6,7] (.read 8 (.eff 9 [4] (.eff 10 [] (sq [11,12] (.eff 13 [] .done)))))))) ?_
     refine gY4 @c1 @c2 @c3 @i1 ?_
     have hcells : #[Value.int IntKind.u64 x.k.tr,Value.slice a x.k.suf.length na,Value.slice b x.k.val.length nb]=x.cells.toArray:=by unfold KR.cells; rw [q1,q2]
     obtain ⟨w5,hw5⟩:∃ w5,w5=w4.alloc (.cells x.cells.toArray 256):=⟨_,rfl⟩
     rw [hcells,← hw5]
     have k5:Ext w4 w5:=by rw [hw5]; exact ext_alloc _
     obtain ⟨w6,hw6⟩:∃ w6,w6=(((w5.setCell ⟨g,dd.length * 3,none⟩ (.int .u64 x.k.tr)).setCell ⟨g,dd.length * 3+1,none⟩ x.sv).setCell ⟨g,dd.length * 3+2,none⟩ x.vv):=⟨_,rfl⟩
     have hclen:(flat c).length=n * 3:=by rw [flat_length,i4]
     have bridge:∀ q:Kont,apX prog #[110,110] 110 #[.slice (some ⟨g,0,none⟩) dd.length vcap,.slice (some ⟨w4.heap.size,0,none⟩) 1 1] q w5.drew=q (.slice (some ⟨g,0,none⟩) (dd.length+1) vcap) w6.drew:=by
      intro q
      have:=appRoom (k:=q) (w:=w5.drew) (by_:=56) (ty:=110) (news:=x.cells) (m:=1) (c:=1) (cap:=vcap) (b:=g) (off:=0) (n:=dd.length) (a:=⟨w4.heap.size,0,none⟩) rw110 rfl ?_ (oneCell_good hg) (by omega) ?_ ?_
      ·rw [Nat.zero_add] at this
       rw [hw6]; exact this
      ·intro j u hu
       rw [addr_add rfl,Nat.zero_add,hw5]
       rw [show (w4.alloc (Obj.cells x.cells.toArray 256)).drew.cell? ⟨w4.heap.size,j,none⟩=(w4.alloc (Obj.cells x.cells.toArray 256)).cell? ⟨w4.heap.size,j,none⟩ from rfl]
       refine goZ ?_
       simpa using hu
      ·intro j hj
       have hj:j < 3:=hj
       have:(flat c)[dd.length * 3+j]? = some (flat c)[dd.length * 3+j]:=List.getElem?_eq_getElem (by omega)
       rw [Nat.zero_add]
       exact ⟨_,(k5.cell (own_cell i2 this):w5.drew.cell? _=_)⟩
      ·intro o
       have:=own_frozen (own_keep i2 k5 (fun _ _ _ h=>h)) rfl o
       exact this
     rw [bridge]
     have l1:=k5.cell c1
     have l2:=k5.cell c2
     have l3:=k5.cell c3
     have l4:=k5.cell i1
     have l5:∀ o,w5.frozen? ⟨Hb,o,none⟩=false:=fun o=>by rw [k5.frozen Hb o hHb4]; exact fH4 o
     have d1:dd.length * 3≠i * 3:=by omega
     have hxc:Value.agg x.cells.toArray = .agg [.int .u64 x.k.tr,.slice a x.k.suf.length na,.slice b x.k.val.length nb].toArray:=by unfold KR.cells; rw [q1,q2]
     rw [hxc]
     have m1:w6.cell? ⟨g,i * 3,none⟩=some (.int .u64 x.k.tr):=by rw [hw6]; exact eY1 @l1
     have m2:w6.cell? ⟨g,i * 3+1,none⟩=some (.slice a x.k.suf.length na):=by rw [hw6]; exact eY1 @l2
     have m3:w6.cell? ⟨g,i * 3+2,none⟩=some (.slice b x.k.val.length nb):=by rw [hw6]; exact eY1 @l3
     have m4:w6.cell? ⟨Hb,ho+1,none⟩=some (.slice (some ⟨g,0,none⟩) dd.length vcap):=by rw [hw6]; exact eY1 @l4
     have m5:∀ o,w6.frozen? ⟨Hb,o,none⟩=false:=fun o=>by rw [hw6]; exact eY1 @l5
     refine gY5 @m1 @m2 @m3 @m4 @m5 ?_
     obtain ⟨w7,hw7⟩:∃ w7,w7=w6.setCell ⟨Hb,ho+1,none⟩ (.slice (some ⟨g,0,none⟩) (dd.length+1) vcap):=⟨_,rfl⟩
     rw [← hw7]
     have o6:w6.ownsRow 0 256 3 (.slice (some ⟨g,0,none⟩) n vcap) n (flat (c.set dd.length x)):=by
      have:=own_set (own_set (own_set (own_keep i2 k5 (fun _ _ _ h=>h)) (dd.length * 3) (.int .u64 x.k.tr)) (dd.length * 3+1) x.sv) (dd.length * 3+2) x.vv
      rw [flat_set c dd.length x (by omega),← hw6] at this
      exact this
     have k56:Keep (fun b _=>b=g) w5 w6:=by
      rw [hw6]
      exact (((Keep.refl (fun b _=>b=g) w5).set (fun _=>rfl)).set (fun _=>rfl)).set (fun _=>rfl)
     have k67:Keep (fun b o=>b=Hb∧o=ho+1) w6 w7.drew:=by rw [hw7]; exact (keep_set ⟨rfl,rfl⟩).drew
     have k46:Keep (rowM Hb (ho+1) (.slice (some ⟨g,0,none⟩) n vcap)) w4 w6:=k5.keep.trans (k56.mono fun b o _ h => .inr (by rw [h]; rfl))
     have kall:Keep (rowM Hb (ho+1) (.slice (some ⟨g,0,none⟩) n vcap)) w2 w7.drew:=(i12.trans k46).trans (k67.mono fun b o _ h => .inl h)
     refine hK _ _ (i+1,.slice a x.k.suf.length na,true) ?_ ⟨c.set dd.length x,dd++[x],?_,own_keep o6 k67 fun g' hg' o h=>(hv1 g' hg').1 h.1,fun y hy => ?_,by simp [i4],?_,?_,by simp; omega,fun h=>by simp at h,fun _=>by simp; omega,?_,fun _ => ?_,kall,by simp only; omega⟩ (by simp only; omega)
     ·exact agZ
     ·simp only [if_true,List.length_append,List.length_singleton]
      rw [hw7]; exact eY1 @m4
     ·rcases List.mem_or_eq_of_mem_set hy with h | h
      ·exact i3 y h
      ·subst h; exact hg
     ·rw [List.length_append,List.length_singleton,List.take_add_one,List.take_set_of_le (Nat.le_refl _),i5,List.getElem?_set_self (by omega)]; rfl
     ·simp only
      rw [List.drop_set_of_lt (by omega)]; exact hd6
     ·simp only
      rw [if_neg (by omega),e1,hx2,i10']
     ·simp only
      rw [e1,hx2,← q1]; exact hg.2.1
 ·have hi':¬ (i:Int) < n:=by omega
  obtain rfl:i=n:=by omega
  rw [hn,List.drop_length,show ∀ q,ddL q []=[] from fun q=>by cases q <;> rfl,List.append_nil] at i10
  have hvb:∀ g',(Value.slice va i vcap).ownBlock=some g'→g'≠Hb:=fun g' hg'=>(hv1 g' hg').1
  have k24:Keep (rowM Hb (ho+1) vs) w w4:=k02.tr i12 fun b o hb hm=>h3.m b o hb hm
  refine gY1 @hi' ?_
  refine cutX (fun _:Unit=>[(1,.pointer (some ⟨Hb,ho,none⟩)),(3,.slice ka l.length cap),(9,.int .i64 di)]) (fun _ w'=>KOwn d w' Hb (ho+1) (.slice va dd.length vcap) dd∧Keep (rowM Hb (ho+1) vs) w w') (by kernel_rfl) (by kernel_rfl) (fun K2 hK2 => ?_) ?_
  ·have gd:∀ x ∈ dd,x.good d:=fun x hx=>i3 x (by rw [← i5] at hx; exact List.mem_of_mem_take hx)
   have od:w4.ownsRow 0 256 3 (.slice va dd.length vcap) dd.length (flat dd):=by
    have:=own_take i2 (show dd.length≤i by omega)
    rw [flat_take,i5] at this
    exact this
   cases sh with
   | true =>
    simp only [if_true] at i1
    refine goZ ?_
    refine hK2 _ _ () ?_ ⟨⟨i1,od,gd⟩,k24⟩
    exact agZ
   | false =>
    simp only [Bool.false_eq_true,if_false] at i1
    have hl:=i8 rfl
    refine gY2 @i1 @fH4 ?_
    refine hK2 _ _ () ?_ ⟨⟨?_,own_keep od (keep_set (M:=fun b o=>b=Hb∧o=ho+1) ⟨rfl,rfl⟩) fun g' hg' o h=>hvb g' (by rw [own_len va i dd.length]; exact hg') h.1,gd⟩,k24.set (fun _ => .inl ⟨rfl,rfl⟩)⟩
    ·exact agZ
    ·rw [hl]; exact eY1 @i1
  ·rintro e5 _ w5 ⟨t1,t2⟩
   have hcr':CoR snap l dd:=by rw [← i10]; exact hcr
   have hddl:dd.length≤l.length:=by
    have:dd.length=(c.take dd.length).length:=by rw [i5]
    rw [List.length_take] at this
    omega
   rcases hdi with ⟨rfl,hdn⟩ | ⟨q,rfl,hdq,hql⟩
   ·refine goZ ?_
    rw [hdn] at hk
    refine hk w5 (.slice va dd.length vcap) dd (by simpa using t1) hcr' hddl t2 fun g' hg'=>h3 g' ?_
    rw [own_len va i dd.length]; exact hg'
   ·obtain ⟨x,hx⟩:∃ x,l[q]? = some x:=⟨l[q],List.getElem?_eq_getElem hql⟩
    rw [hx] at hdq
    have hg:=hgood x (List.mem_of_getElem? hx)
    have hka':=hkv (by omega)
    subst hka'
    have hgm:∀ o,¬ rowM Hb (ho+1) vs gk o:=by
     rintro o (⟨h,_⟩ | h)
     ·exact hgk h
     ·exact (hne _ h).2.1 rfl
    obtain ⟨c1,c2,c3⟩:=(hka.keep t2 hgm) q x hx
    obtain ⟨a,na,b,nb,q1,q2⟩:=hg.form
    rw [q1] at c2
    rw [q2] at c3
    have hq0:(0:Int)≤q:=by omega
    have hq':(q:Int) < l.length:=by omega
    have c4:=t1.hd
    have hHb5:=lt_of_cell c4
    have hgk5:=lt_of_cell c1
    have fH5:∀ x,w5.frozen? ⟨Hb,x,none⟩=false:=fun x=>by rw [t2.frozen Hb x (lt_of_cell hc)]; exact hf x
    refine gY1 @hq0 ?_
    refine drawZ (sq [0,1,2,3] (.read 4 (sq [5,6,7] (.read 8 (.eff 9 [4] (.eff 10 [] (sq [11,12] (.eff 13 [] .done)))))))) ?_
    refine gY5 @c1 @c2 @c3 @c4 @hq' ?_
    have hcells : #[Value.int IntKind.u64 x.k.tr,Value.slice a x.k.suf.length na,Value.slice b x.k.val.length nb]=x.cells.toArray:=by unfold KR.cells; rw [q1,q2]
    have hxc:Value.agg x.cells.toArray = .agg [.int .u64 x.k.tr,.slice a x.k.suf.length na,.slice b x.k.val.length nb].toArray:=by unfold KR.cells; rw [q1,q2]
    rw [hcells]
    have hdl:dd.length < 1000000:=by
     have:dd.length=(c.take dd.length).length:=by rw [i5]
     rw [List.length_take] at this
     omega
    have hvv:∀ g',(Value.slice va dd.length vcap).ownBlock=some g'→g'≠Hb∧g'≠gk:=fun g' hg'=>by
     have:=hv1 g' (by rw [own_len va i dd.length]; exact hg')
     exact ⟨this.1,this.2.2 (by omega)⟩
    refine appOne t1.own hg hdl fun a6 cap6 w6 o6 k6 n6 => ?_
    have c1:=k6.some c1 (fun h=>(hvv _ h).2 rfl)
    have c2:=k6.some c2 (fun h=>(hvv _ h).2 rfl)
    have c3:=k6.some c3 (fun h=>(hvv _ h).2 rfl)
    have c4:=k6.some c4 (fun h=>(hvv _ h).1 rfl)
    have fH6:∀ x,w6.frozen? ⟨Hb,x,none⟩=false:=fun x=>by rw [k6.frozen Hb x hHb5]; exact fH5 x
    rw [hxc]
    refine gY5 @c1 @c2 @c3 @c4 @fH6 ?_
    have n06:Newer w vs (.slice a6 (dd.length+1) cap6):=by
     refine Newer.trans (v2 := .slice va dd.length vcap) (fun g' hg'=>h3 g' ?_) n6 t2.size
     rw [own_len va i dd.length]; exact hg'
    refine hk _ (.slice a6 (dd.length+1) cap6) dd ⟨?_,?_,?_⟩ hcr' hddl ?_ n06
    ·exact eY1 @c4
    ·rw [← hdq]
     simp only [Option.toList_some,List.length_append,List.length_singleton]
     refine own_keep o6 ((keep_set (M:=fun b o=>b=Hb∧o=ho+1) ⟨rfl,rfl⟩)) fun g' hg' o h => ?_
     rcases n6 g' hg' with h' | h'
     ·exact (hvv g' h').1 h.1
     ·have:=h.1; omega
    ·intro y hy
     rw [← hdq] at hy
     rcases List.mem_append.1 hy with h | h
     ·exact t1.good y h
     ·simp only [Option.toList_some,List.mem_singleton] at h
      subst h; exact hg
    ·exact (t2.tr k6 fun b o hb hm=>h3.m b o hb (.inr (by rw [own_len va i dd.length]; exact hm))).set (fun _ => .inl ⟨rfl,rfl⟩)
end
end Go.Proofs
end
