/- Parts of the proof: Vj. -/
import Derived.Test.YtjcbeinpkafjiaaGreatU26
set_option linter.all false
namespace Go.E
open Go Go.Sort Go.Proofs
theorem GB_none (G:List Sp):GB G none none=G:=by
 show (G.take G.length).drop 0=G
 rw [List.take_length,List.drop_zero]
theorem bareS_ks (x:Sp):(bareS x).ks=x.ks.map fun y=>bareK y.sv:=by unfold bareS; rw [List.map_map]; rfl
theorem seen_bare (V:List Sp):(V.map bareS).filter (fun s=>decide (s.ks≠[]))=(seenP V).map bareS:=by
 unfold seenP
 rw [List.filter_map]
 congr 1
 refine List.filter_congr fun s _ => ?_
 rw [Function.comp_apply,bareS_ks,decide_eq_decide,ne_eq,ne_eq,List.map_eq_nil_iff]
def stF (m:Nat):List (Nat × Bytes):=(0,[]) :: List.replicate m (2,[])
def stB (m:Nat):List (Nat × Bytes):=(1,[]) :: List.replicate m (3,[])
theorem fnd_forth {V:List Sp} {KS:List K→Prop} {m:Nat} {l:List An} (hm:V.length≤m+1) (h:Pw (AnsOk V KS) (wlk V (-2) false 0 (stF m)) l):(fndP l).map bareS=V.map bareS:=by
 rw [(fnd_bare h).1]
 unfold stF
 rw [forth_all V m hm]
 exact map_range_at V
theorem fnd_back {V:List Sp} {KS:List K→Prop} {m:Nat} {l:List An} (hm:V.length≤m+1) (h:Pw (AnsOk V KS) (wlk V (-2) false 0 (stB m)) l):(fndP l).map bareS=(V.map bareS).reverse:=by
 rw [(fnd_bare h).1]
 unfold stB
 rw [back_all V m hm,List.map_reverse,map_range_at V]
theorem bare_ks_le {V l:List Sp} {m:Nat} (h:l.map bareS=V.map bareS) (hm:∀ x ∈ V,x.ks.length≤m):∀ x ∈ l,x.ks.length≤m:=fun x hx=>by
 have h1:bareS x ∈ V.map bareS:=by rw [← h]; exact List.mem_map_of_mem hx
 obtain ⟨y,hy,e⟩:=List.mem_map.1 h1
 have:=congrArg (fun s:Sp=>s.ks.length) e
 simp only [bareS_ks,List.length_map] at this
 rw [← this]
 exact hm y hy
section
variable {Lv:List (List Sp)} {n snap:Nat} {x:Bytes}
theorem at_state (h:LvOk Lv n):valAt (rV Lv snap none none) x=stateP [] (visP snap (canonP (ptK Lv.flatten x))):=by
 rw [show rV Lv snap none none=Vw (GL snap Lv.length (Lat Lv) (bndsP Lv.flatten)) by rw [rV,GB_none],valAt_Vw (GL_wf (bds_of h.wf)),valAt_GL h.wf,← state_Tf (h.cd x)]
theorem valAt_skGE {V:List Sp} (hw:Wf V) {p:Nat} (hp:skGE V x=p):(p < V.length→¬ x < V[p]!.s→valAt V x=V[p]!.ks.map K.sv∧x < V[p]!.e)∧((p < V.length→x < V[p]!.s)→valAt V x=[]):=by
 obtain ⟨h1,h2,h3⟩:=skGE_spec V x
 rw [hp] at h1 h2 h3
 refine ⟨fun h hs=>⟨valAt_at hw h hs (h3 h),h3 h⟩,fun h=>valAt_none fun j hj => ?_⟩
 rintro ⟨a,b⟩
 rcases Nat.lt_trichotomy j p with hjp | rfl | hjp
 ·exact h2 j hjp b
 ·exact a (h hj)
 ·have h4:=hw.2 p j hjp hj
  have h5:=h (by omega)
  have h6:=h3 (by omega)
  exact a (bytes_trans h6 h4)
end
section
variable {Lv:List (List Sp)} {n snap:Nat}
theorem rin_ok (lo:LvOk Lv n) (hn:n≤900) (hsn:snap < 18446744073709551616) (f2:∀ x ∈ Lv,x.length≤2147483647∧∀ y ∈ x,SFit y) {l h:Option Bytes} (hb:okBd l h):RIn Lv snap l h :=
 ⟨by have:=lo.n6; omega,hsn,lo.wf,fun L h=>⟨by have:=lo.sz L h; omega,fun s hs=>by
  obtain ⟨q1,q2,q3,q4⟩:=(f2 L h).2 s hs
  refine ⟨by omega,by omega,by have:=(lo.ks L h s hs).2; omega,(lo.ks L h s hs).1,fun x hx => ?_⟩
  obtain ⟨q5,q6⟩:=q4 x hx
  exact ⟨by omega,by omega⟩⟩,lo.cdF,hb⟩
theorem okBd_none:okBd none none:=fun l h hl=>by cases hl
theorem rV_length (Lv:List (List Sp)) (snap:Nat):(rV Lv snap none none).length≤2 * Lv.flatten.length+1:=by
 rw [rV,GB_none]
 exact view_length Lv snap
theorem cutF_str (keys:List Bytes) (f:Nat) (s:Sp):∀ t ∈ cutF keys f s,(t.s=s.s∨t.s ∈ keys)∧(t.e=s.e∨t.e ∈ keys):=by
 induction f generalizing s with
 | zero=>intro t ht; rw [List.mem_singleton.1 ht]; exact ⟨.inl rfl,.inl rfl⟩
 | succ f ih =>
  intro t ht
  unfold cutF at ht
  obtain ⟨h1,_⟩:=nextK_spec s.s keys s.e
  split at ht
  ·rw [List.mem_singleton.1 ht]; exact ⟨.inl rfl,.inl rfl⟩
  ·rename_i hne
   obtain ⟨h2,_⟩:=h1.resolve_left hne
   rcases List.mem_cons.1 ht with rfl | ht
   ·exact ⟨.inl rfl,.inr h2⟩
   ·obtain ⟨a,b⟩:=ih _ t ht
    exact ⟨a.elim (fun e => .inr (by rw [e]; exact h2)) .inr,b⟩
theorem cutP_length (keys:List Bytes) (l:List Sp):(cutP keys l).length≤l.length * (keys.length+1):=by
 induction l with
 | nil=>simp [cutP]
 | cons s l ih =>
  have e:cutP keys (s :: l)=cutF keys keys.length s++cutP keys l:=by unfold cutP; rw [List.flatMap_cons]
  have:=cutF_length keys keys.length s
  rw [e,List.length_append,List.length_cons,Nat.add_mul]
  omega
theorem cut_pt (keys:List Bytes) (h:∀ L ∈ Lv,Wf L) (x:Bytes):ptK (Lv.map (cutP keys)).flatten x=ptK Lv.flatten x:=by
 rw [ptK_flatten,ptK_flatten,List.flatMap_map]
 exact fm_congr fun L hL=>(cutP_spec keys (h L hL)).2.1 x
theorem cut_wf (keys:List Bytes) (h:∀ L ∈ Lv,Wf L):∀ L ∈ Lv.map (cutP keys),Wf L:=fun L hL=>by
 obtain ⟨M,hM,rfl⟩:=List.mem_map.1 hL
 exact (cutP_spec keys (h M hM)).1
theorem rin_cut (lo:LvOk Lv n) (hn:n≤5) {keys:List Bytes} (hk:keys.length≤10) (hks:∀ k ∈ keys,k.length≤2147483647) (hsn:snap < 18446744073709551616) (f2:∀ x ∈ Lv,x.length≤2147483647∧∀ y ∈ x,SFit y):RIn (Lv.map (cutP keys)) snap none none:=by
 refine ⟨by have:=lo.n6; rw [List.length_map]; omega,hsn,cut_wf keys lo.wf,fun L hL => ?_,cd_of (cut_wf keys lo.wf) fun x=>by rw [cut_pt keys lo.wf]; exact lo.cd x,okBd_none⟩
 obtain ⟨M,hM,rfl⟩:=List.mem_map.1 hL
 refine ⟨?_,fun t ht => ?_⟩
 ·have h1:=cutP_length keys M
  have h2:=lo.sz M hM
  have:M.length * (keys.length+1)≤5 * 11:=Nat.mul_le_mul (by omega) (by omega)
  omega
 ·obtain ⟨s,hs,hts⟩:=List.mem_flatMap.1 (show t ∈ M.flatMap (cutF keys keys.length) from ht)
  obtain ⟨q1,q2,q3,q4⟩:=(f2 M hM).2 s hs
  obtain ⟨a,b⟩:=cutF_str keys keys.length s t hts
  have hks2:t.ks=s.ks:=((cutF_spec keys keys.length s (ch_wf.1 (lo.wf M hM) |>.1 s hs)).2.1 t hts).2.2
  obtain ⟨k1,k2⟩:=lo.ks M hM s hs
  rw [hks2]
  refine ⟨?_,?_,by omega,k1,fun x hx => ?_⟩
  ·rcases a with e | e
   ·rw [e]; omega
   ·have:=hks _ e; omega
  ·rcases b with e | e
   ·rw [e]; omega
   ·have:=hks _ e; omega
  ·obtain ⟨q5,q6⟩:=q4 x hx
   exact ⟨by omega,by omega⟩
theorem seen_cut (lo:LvOk Lv n) (keys:List Bytes):(seenP (rV (Lv.map (cutP keys)) snap none none)).map bareS=(seenP (rV Lv snap none none)).map bareS:=by
 rw [rV,rV,GB_none,GB_none]
 refine seen_unique (GL_wf (bds_of (cut_wf keys lo.wf))) (GL_wf (bds_of lo.wf)) fun x => ?_
 rw [valAt_GL (cut_wf keys lo.wf),valAt_GL lo.wf,cut_pt keys lo.wf]
theorem rV_ks {m:Nat} (r:RIn Lv snap none none) (hm:∀ L ∈ Lv,∀ s ∈ L,s.ks.length≤m):∀ x ∈ rV Lv snap none none,x.ks.length≤Lv.flatten.length * m:=fun x hx=>by
 have hv:viewP Lv.flatten snap none none=(rV Lv snap none none).map bareS:=view_eq r.wf (fun L h s hs=>((r.len L h).2 s hs).2.2.2.1) r.cd none none
 have:=viewP_ks (l:=Lv.flatten) (snap:=snap) (m:=m) (lo:=none) (hi:=none) (fun y hy=>by
  obtain ⟨L,hL,hy⟩:=List.mem_flatten.1 hy
  exact hm L hL y hy) (bareS x) (by rw [hv]; exact List.mem_map_of_mem hx)
 rw [bareS_ks,List.length_map] at this
 exact this
theorem st_ok (m:Nat):StOk none none (stF m)∧StOk none none (stB m):=by
 have h:∀ (a b:Nat) (x:Nat × Bytes),x ∈ ((a,[]) :: List.replicate m (b,[]):List (Nat × Bytes))→x.2=[]:=fun a b x hx=>by
  rcases List.mem_cons.1 hx with rfl | hx
  ·rfl
  ·rw [List.eq_of_mem_replicate hx]
 have k:∀ x,okKy none none x:=fun x=>⟨fun l h=>(by cases h),fun l h=>(by cases h)⟩
 exact ⟨fun x hx=>⟨fun _=>rfl,fun _=>rfl,fun _=>k _,by rw [h _ _ x hx]; decide⟩,fun x hx=>⟨fun _=>rfl,fun _=>rfl,fun _=>k _,by rw [h _ _ x hx]; decide⟩⟩
theorem st_length (m:Nat):(stF m).length=m+1∧(stB m).length=m+1:=by simp [stF,stB]
end
end Go.E
