/- Parts of the proof: Sc, Sd. -/
import Derived.Sort.Walk13a
import Derived.Test.YtlmoafgebiffaaaGreatDoorV05
set_option linter.all false
set_option maxRecDepth 10000
section
namespace Go.Proofs
open Go Go.E Go.Sort Go.Proofs.Tryz
section
variable {recv:Value} {α:Type} [Inhabited α] {lt:α→α→Bool} {N0:Nat} {R:World→Array α→Prop} {k:aq} {w:World} {d:Array α}
theorem uH (h:Hint):(qJ h == 2)=decide (h = .decreasing):=by cases h <;> rfl
theorem mP (h:Hint):(qJ h == 1)=decide (h = .increasing):=by cases h <;> rfl
set_option maxHeartbeats 1000000 in
theorem Fb (S:Srt prog recv lt N0 R) (hS:SWO lt):∀ (n:Nat) {a b lim:Nat} {w:World} {d:Array α} {k:aq} {xa xb xl:Int},b - a < n→R w d→xa=a→xb=b→xl=lim→a≤b→b≤d.size→lim < 4611686018427387904→Below lt a b d →
    (∀ w',R w' (pdq lt d a b lim true true)→k (.tuple #[]) w')→ai prog 112 #[recv,.int .i64 xa,.int .i64 xb,.int .i64 xl] k w:=by
 intro n
 induction n with
 | zero =>
  intro a b lim w d k xa xb xl hn hR hxa hxb hxl hab hb hl hB hk
  omega
 | succ n ih =>
  intro a b lim w d k xa xb xl hn hR hxa hxb hxl hab hb hl hB hk
  subst hxa; subst hxb; subst hxl
  have hsm:=S.small hR
  refine al [] func112 ?_
  refine bA ?_
  refine bZ (fun x:Nat × Nat × Nat × Bool × Bool × Array α=>[(0,recv),(1,.int .i64 x.1),(2,.int .i64 x.2.1),(3,.int .i64 x.2.2.1),(8,.bool x.2.2.2.1),(9,.bool x.2.2.2.2.1)])
   (fun x w=>R w x.2.2.2.2.2∧x.2.2.2.2.2.size=d.size∧x.1≤x.2.1∧x.2.1≤d.size∧x.2.1 - x.1 < n+1∧x.2.2.1 < 4611686018427387904∧Below lt x.1 x.2.1 x.2.2.2.2.2∧pdq lt x.2.2.2.2.2 x.1 x.2.1 x.2.2.1 x.2.2.2.1 x.2.2.2.2.1=pdq lt d a b lim true true)
   (fun x _=>x.2.1 - x.1) (a,b,lim,true,true,d) (by kernel_rfl) ?_ ⟨hR,rfl,hab,hb,hn,hl,hB,rfl⟩ ?_
  ·exact bU
  rintro K e ⟨a1,b1,l1,wb,wp,d0⟩ w1 ⟨h1,h2,h3,h4,h5,h6,h7,h8⟩ hK
  simp only at h1 h2 h3 h4 h5 h6 h7 h8
  by_cases c1:b1 - a1≤12
  ·have c1':(b1:Int) - a1≤12:=by omega
   refine bu @c1' ?_
   refine gu S h1 (by omega) (by omega) fun w2 g1 => ?_
   refine bA ?_
   refine hk _ ?_
   rw [← h8,pdq_small c1]; exact g1
  have c1':¬ (b1:Int) - a1≤12:=by omega
  by_cases c2:l1=0
  ·have c2':((l1:Int) == 0)=true:=by simp [c2]
   refine dO @c1' @c2' ?_
   refine vL S h1 h3 (by omega) fun w2 g1 => ?_
   refine bA ?_
   refine hk _ ?_
   rw [← h8,pdq_heap c1 c2]; exact g1
  have c2':((l1:Int) == 0)=false:=by simp [c2]
  obtain ⟨r,hr⟩:∃ r,r=rd lt d0 a1 b1 l1 wb wp:=⟨_,rfl⟩
  obtain ⟨z1,B1,pc,z2,B2,pv,z3,B3⟩:=rd_facts (lt:=lt) (d:=d0) (limit:=l1) (wb:=wb) (wp:=wp) hS partialInsertionSort_holds reverseRange_holds (show a1 < b1 by omega) (by omega) h7
  have hlim:=rd_lim_le (lt:=lt) (d:=d0) (a:=a1) (b:=b1) (limit:=l1) (wb:=wb) (wp:=wp)
  rw [← hr] at z1 B1 pc z2 B2 pv z3 B3 hlim
  refine dO @c1' @c2' ?_
  refine mW (fun _:Unit=>[(0,recv),(1,.int .i64 a1),(2,.int .i64 b1),(3,.int .i64 r.lim),(8,.bool wb),(9,.bool wp),(10,.int .i64 ((b1:Int) - a1))]) (fun _ w=>R w r.d1) (by kernel_rfl) (by kernel_rfl) (fun K2 hK2 => ?_) ?_
  ·cases wb with
   | false =>
    refine bA ?_
    refine oD S h1 h3 (by omega) fun w2 g1 => ?_
    refine bA ?_
    refine hK2 _ _ () ?_ ?_
    ·have:(r.lim:Int)=(l1:Int) - 1:=by rw [hr,rd_false.2]; omega
     ((try simp (disch:=first | exact dZ | fail) only [go_sem,this]); (try simp only [and_true,true_and,eT,aU,dF,aP]); (try (refine ⟨?_,?_⟩ <;> omega)); (try omega))
    ·rw [hr,rd_false.1]; exact g1
   | true =>
    refine bA ?_
    refine hK2 _ _ () ?_ ?_
    ·rw [hr,rd_true.2]; exact bU
    ·rw [hr,rd_true.1]; exact h1
  intro e2 _ w2 g1
  refine bA ?_
  refine qi S g1 (by omega) (by omega) fun w3 g2 => ?_
  have hc:choosePivot lt r.d1 a1 b1=r.c:=by rw [hr]; exact rd_c.symm
  rw [hc]
  refine bu @uH ?_
  refine mW (fun _:Unit=>[(0,recv),(1,.int .i64 a1),(2,.int .i64 b1),(3,.int .i64 r.lim),(8,.bool wb),(9,.bool wp),(10,.int .i64 ((b1:Int) - a1)),(11,.int .i64 r.pivot),(12,.int .i64 (qJ r.hint))]) (fun _ w=>R w r.d2) (by kernel_rfl) (by kernel_rfl) (fun K2 hK2 => ?_) ?_
  ·by_cases hd:r.c.2 = .decreasing
   ·have:=rd_dec (lt:=lt) (d:=d0) (a:=a1) (b:=b1) (limit:=l1) (wb:=wb) (wp:=wp) (by rw [← hr]; exact hd)
    rw [← hr] at this
    obtain ⟨i1,i2,i3⟩:=this
    refine bu @hd ?_
    refine pP S g2 (by omega) (by omega) fun w4 g3 => ?_
    refine bA ?_
    refine hK2 _ _ () ?_ ?_
    ·have:(r.pivot:Int)=(b1:Int) - 1 - (r.c.1 - a1):=by omega
     ((try simp (disch:=first | exact dZ | fail) only [go_sem,i3,qJ,this]); (try simp only [and_true,true_and,eT,aU,dF,aP]); (try (refine ⟨?_,?_⟩ <;> omega)); (try omega))
    ·rw [i1]; exact g3
   ·have:=rd_not (lt:=lt) (d:=d0) (a:=a1) (b:=b1) (limit:=l1) (wb:=wb) (wp:=wp) (by rw [← hr]; exact hd)
    rw [← hr] at this
    obtain ⟨i1,i2,i3⟩:=this
    refine bu @hd ?_
    refine hK2 _ _ () ?_ ?_
    ·rw [i2,i3]; exact bU
    ·rw [i1]; exact g2
  intro e3 _ w4 g3
  refine tJ (fun _:Unit=>[(0,recv),(1,.int .i64 a1),(2,.int .i64 b1),(3,.int .i64 r.lim),(8,.bool wb),(9,.bool wp),(10,.int .i64 ((b1:Int) - a1)),(11,.int .i64 r.pivot)]) (fun _ w=>R w r.pi.1∧r.pi.2=false) (by kernel_rfl) (fun K2 hK2 => ?_) ?_
  ·by_cases hc:(wb && wp && decide (r.hint = .increasing))=true
   ·have hpi:=rd_pi_yes (lt:=lt) (d:=d0) (a:=a1) (b:=b1) (limit:=l1) (wb:=wb) (wp:=wp) (by rw [← hr]; exact hc)
    rw [← hr] at hpi
    simp only [bq,decide_eq_true_eq] at hc
    obtain ⟨⟨rfl,rfl⟩,hh⟩:=hc
    refine dO @mP @hh ?_
    refine jg S g3 (by omega) (by omega) fun w5 g4 => ?_
    rw [← hpi] at g4 ⊢
    cases hp:r.pi.2 with
    | true =>
     refine bA ?_
     refine hk _ ?_
     rw [← h8,pdq_done c1 c2 (by rw [← hr]; exact hp),← hr]; exact g4
    | false =>
     refine bA ?_
     refine hK2 _ _ () ?_ ⟨g4,hp⟩
     exact bU
   ·have hc':(wb && wp && decide (r.hint = .increasing))=false:=by simpa using hc
    have hpi:=rd_pi_no (lt:=lt) (d:=d0) (a:=a1) (b:=b1) (limit:=l1) (wb:=wb) (wp:=wp) (by rw [← hr]; exact hc')
    rw [← hr] at hpi
    have J:R w4 r.pi.1∧r.pi.2=false:=by rw [hpi]; exact ⟨g3,rfl⟩
    cases wb with
    | false =>
     refine bA ?_
     refine hK2 _ _ () ?_ J
     exact bU
    | true =>
     cases wp with
     | false =>
      refine bA ?_
      refine hK2 _ _ () ?_ J
      exact bU
     | true =>
      have hh:¬ r.hint = .increasing:=by simpa using hc'
      refine dO @mP @hh ?_
      refine hK2 _ _ () ?_ J
      exact bU
  intro e4 _ w5 ⟨g4,hp⟩
  obtain ⟨d3,hd3⟩:∃ d3,d3=r.pi.1:=⟨_,rfl⟩
  rw [← hd3] at g4 z3 B3
  refine tJ (fun _:Unit=>[(0,recv),(1,.int .i64 a1),(2,.int .i64 b1),(3,.int .i64 r.lim),(8,.bool wb),(9,.bool wp),(10,.int .i64 ((b1:Int) - a1)),(11,.int .i64 r.pivot)]) (fun _ w=>R w d3∧(decide (a1 > 0) && !lt d3[a1 - 1]! d3[r.pivot]!)=false) (by kernel_rfl) (fun K2 hK2 => ?_) ?_
  ·by_cases ha:a1 > 0
   ·have ha':(0:Int) < a1:=by omega
    refine bu @ha' ?_
    refine S.less (a1 - 1) r.pivot g4 (by omega) rfl (by omega) (by omega) fun wl g4 => ?_
    cases hl2:lt d3[a1 - 1]! d3[r.pivot]! with
    | true =>
     refine bA ?_
     refine hK2 _ _ () ?_ ⟨g4,by simp [hl2]⟩
     exact bU
    | false =>
     refine bA ?_
     refine nE S g4 rfl pv.1 pv.2 (by omega) fun w6 g5 => ?_
     obtain ⟨q,hq⟩:∃ q,q=partitionEqual lt d3 a1 b1 r.pivot:=⟨_,rfl⟩
     obtain ⟨f1,f2,f3,f4,_⟩:=round_eq (mid:=q.1) (d4:=q.2) hS (partitionEqual_holds lt) ha pv.1 pv.2 (by omega) B3 hl2 (by rw [← hq])
     rw [← hq] at g5 ⊢
     refine bA ?_
     refine hK _ _ (q.1,b1,r.lim,wb,wp,q.2) ?_ ⟨g5,by simp only; omega,f2,h4,by simp only; omega,by simp only; omega,f4,?_⟩ (by simp only; omega)
     ·exact bU
     ·have hb2:(decide (a1 > 0) && !lt r.pi.1[a1 - 1]! r.pi.1[r.pivot]!)=true:=by rw [← hd3]; simp [ha,hl2]
      rw [hr] at hb2
      have:=pdq_eq (lt:=lt) (d:=d0) (wb:=wb) (wp:=wp) c1 c2 (by rw [← hr]; exact hp) hb2 (by rw [← hr,← hd3,← hq]; exact ⟨f1,f2⟩)
      rw [← h8,this,← hr,← hd3,← hq]
   ·have ha':¬ (0:Int) < a1:=by omega
    refine bu @ha' ?_
    refine hK2 _ _ () ?_ ⟨g4,by simp [ha]⟩
    exact bU
  intro e5 _ w6 ⟨g5,hn2⟩
  refine bA ?_
  refine tN S g5 rfl pv.1 pv.2 (by omega) fun w7 g6 => ?_
  obtain ⟨q,hq⟩:∃ q,q=Go.Sort.partition lt d3 a1 b1 r.pivot:=⟨_,rfl⟩
  obtain ⟨f1,f2,f3,f4,f5,f6,f7⟩:=round_part (mid:=q.1) (ap:=q.2.1) (d4:=q.2.2) hS (partition_holds lt) pv.1 pv.2 (by omega) B3 (by rw [← hq])
  rw [← hq] at g6 ⊢
  have e8:((b1:Int) - a1).tdiv 8=(((b1 - a1) / 8:Nat):Int):=by rw [show (b1:Int) - a1=((b1 - a1:Nat):Int) by omega]; exact oC _ 8
  have eight:(8:Int)≠0:=by decide
  rw [hd3,hr] at hn2
  by_cases hlt:q.1 - a1 < b1 - q.1
  ·have hlt':(q.1:Int) - a1 < b1 - q.1:=by omega
   simp (disch:=first | exact dZ | fail) only [go_sem,fu eight,e8,hlt']
   refine ih (by omega) g6 rfl rfl rfl f1 (by omega) (by omega) f4 fun w8 g7 => ?_
   have hs:=pdq_sorts lt hS q.2.2 a1 q.1 r.lim true true f1 (by omega) f4
   have hB2:=(f6 _ hs.1 hs.2).1
   refine bA ?_
   refine hK _ _ (q.1+1,b1,r.lim,decide (q.1 - a1 ≥ (b1 - a1) / 8),q.2.1,pdq lt q.2.2 a1 q.1 r.lim true true) ?_ ⟨g7,by simp only; rw [hs.1.1]; omega,by simp only; omega,h4,by simp only; omega,by simp only; omega,hB2,?_⟩ (by simp only; omega)
   ·have:decide (q.1 - a1 ≥ (b1 - a1) / 8)=decide ((((b1 - a1) / 8:Nat):Int)≤(q.1:Int) - a1):=by rw [decide_eq_decide]; omega
    simp only [this]
    exact bU
   ·have:=pdq_left (lt:=lt) (d:=d0) (wb:=wb) (wp:=wp) c1 c2 (by rw [← hr]; exact hp) hn2 (by rw [← hr,← hd3,← hq]; exact ⟨f1,f2⟩) (by rw [← hr,← hd3,← hq]; exact hlt)
    rw [← h8,this,← hr,← hd3,← hq]
  ·have hlt':¬ (q.1:Int) - a1 < b1 - q.1:=by omega
   simp (disch:=first | exact dZ | fail) only [go_sem,fu eight,e8,hlt']
   refine ih (a:=q.1+1) (b:=b1) (by omega) g6 (by omega) rfl rfl (by omega) (by omega) (by omega) f5 fun w8 g7 => ?_
   have hs:=pdq_sorts lt hS q.2.2 (q.1+1) b1 r.lim true true (by omega) (by omega) f5
   have hB2:=(f7 _ hs.1 hs.2).1
   refine bA ?_
   refine hK _ _ (a1,q.1,r.lim,decide (b1 - q.1 ≥ (b1 - a1) / 8),q.2.1,pdq lt q.2.2 (q.1+1) b1 r.lim true true) ?_ ⟨g7,by simp only; rw [hs.1.1]; omega,by simp only; omega,by simp only; omega,by simp only; omega,by simp only; omega,hB2,?_⟩ (by simp only; omega)
   ·have:decide (b1 - q.1 ≥ (b1 - a1) / 8)=decide ((((b1 - a1) / 8:Nat):Int)≤(b1:Int) - q.1):=by rw [decide_eq_decide]; omega
    simp only [this]
    exact bU
   ·have:=pdq_right (lt:=lt) (d:=d0) (wb:=wb) (wp:=wp) c1 c2 (by rw [← hr]; exact hp) hn2 (by rw [← hr,← hd3,← hq]; exact ⟨f1,f2⟩) (by rw [← hr,← hd3,← hq]; exact hlt)
    rw [← h8,this,← hr,← hd3,← hq]
def Ge (lt:α→α→Bool) (d:Array α):Array α:=if d.size≤1 then d else pdq lt d 0 d.size (bitsLen d.size) true true
theorem pS (S : Srt prog recv lt N0 R) (hS : SWO lt) (hR : R w d) (hlen : ∀ {w d} {k : aq}, R w d → k (.int .i64 d.size) w → cQ prog recv "Len" #[] k w)
    (hk:∀ w' d',d'=Ge lt d→R w' d'→PermIn 0 d.size d d'→SortedIn lt 0 d.size d'→k (.tuple #[]) w'):ai prog 93 #[recv] k w:=by
 have hsm:=S.small hR
 refine al [] func93 ?_
 refine bA ?_
 refine hlen hR ?_
 by_cases h:d.size≤1
 ·have h':(d.size:Int)≤1:=by omega
  refine bu @h' ?_
  exact hk _ _ (if_pos h).symm hR (permIn_refl d 0 d.size) (fun i j h1 h2 h3=>by omega)
 ·have h':¬ (d.size:Int)≤1:=by omega
  have e1:IntKind.u64.wrap (d.size:Int)=d.size:=IntWalk.u64_in _ ⟨by omega,by omega⟩
  have hb:bitsLen d.size≤62:=(bitsLen_le_iff _ 62).2 (by omega)
  refine dO @h' @e1 ?_
  refine AF (by omega) ?_
  refine bA ?_
  have hB:Below lt 0 d.size d := .inl rfl
  refine Fb S hS (d.size+1) (a:=0) (by omega) hR rfl rfl rfl (by omega) (aF _) (by omega) hB fun w2 g => ?_
  refine bA ?_
  have hs:=pdq_sorts lt hS d 0 d.size (bitsLen d.size) true true (by omega) (aF _) hB
  exact hk _ _ (if_neg h).symm g hs.1 hs.2
theorem oE (S : Srt prog recv lt N0 R) (hS : SWO lt) (hR : R w d) (hlen : ∀ {w d} {k : aq}, R w d → k (.int .i64 d.size) w → cQ prog recv "Len" #[] k w)
    (hk:∀ w' d',R w' d'→PermIn 0 d.size d d'→SortedIn lt 0 d.size d'→k (.tuple #[]) w'):ai prog 93 #[recv] k w:=pS S hS hR hlen fun w' d' _=>hk w' d'
end
end Go.Proofs
end
section
namespace Go.Sort
section
variable {α:Type} [Inhabited α] {lt:α→α→Bool} {tag:α→Nat}
def kN (lt:α→α→Bool) (tag:α→Nat) (d:Array α):Prop:=∀ i j,i < j→j < d.size→lt d[i]! d[j]! = false→lt d[j]! d[i]! = false→tag d[i]! < tag d[j]!
theorem kN.swap (hS:SWO lt) {d:Array α} (h:kN lt tag d) {j:Nat} (hj:j+1 < d.size) (hl:lt d[j+1]! d[j]! = true):kN lt tag (swp d (j+1) j):=by
 intro p q hpq hq h1 h2
 rw [swp_size] at hq
 rw [swp_get d hj (by omega)] at h1 h2 ⊢
 rw [swp_get d hj (by omega)] at h1 h2 ⊢
 have hn:=hS.asym hl
 by_cases a1:p=j
 ·by_cases b1:q=j+1
  ·subst a1; subst b1
   simp at h1 h2
   rw [hl] at h1; simp at h1
  ·have:¬ q=j:=by omega
   simp only [a1,b1,this,if_true,if_false] at h1 h2 ⊢
   exact h _ _ (by omega) hq h1 h2
 ·by_cases a2:p=j+1
  ·have b1:¬ q=j:=by omega
   have b2:¬ q=j+1:=by omega
   simp only [a1,a2,b1,b2,if_true,if_false] at h1 h2 ⊢
   simp only [show ¬ j+1=j by omega,if_false] at h1 h2 ⊢
   exact h _ _ (by omega) hq h1 h2
  ·by_cases b1:q=j
   ·have:=h p (j+1) (by omega) hj
    simp only [a1,a2,b1,if_true,if_false] at h1 h2 ⊢
    exact this h1 h2
   ·by_cases b2:q=j+1
    ·have:=h p j (by omega) (by omega)
     simp only [a1,a2,b2,if_true,if_false,show ¬ j+1=j by omega] at h1 h2 ⊢
     exact this h1 h2
    ·simp only [a1,a2,b1,b2,if_false] at h1 h2 ⊢
     exact h _ _ hpq hq h1 h2
theorem BI (d:Array α) {i j:Nat} (hi:i < d.size) (hj:j < d.size):swp d i j=swp d j i:=by
 apply Array.ext
 ·simp [swp]
 ·intro k h1 h2
  have:=swp_get d hi hj k
  have h3:=swp_get d hj hi k
  rw [aI _ k h1] at this
  rw [aI _ k h2] at h3
  rw [this,h3]
  by_cases a:k=i <;> by_cases b:k=j <;> simp_all
theorem kN.ins (hS:SWO lt) (a:Nat):∀ (j:Nat) (d:Array α),j < d.size→kN lt tag d→kN lt tag (insInner lt a j d)
 | 0,d,_,h=>h
 | j+1,d,hj,h=>by
  unfold insInner
  split
  ·rename_i hc
   simp only [bq] at hc
   exact kN.ins hS a j _ (by rw [swp_size]; omega) (h.swap hS hj hc.2)
  ·exact h
theorem iQ (lt:α→α→Bool) (a:Nat):∀ (j:Nat) (d:Array α),(insInner lt a j d).size=d.size
 | 0,d=>rfl
 | j+1,d=>by
  unfold insInner
  split
  ·rw [iQ lt a j]; simp [swp]
  ·rfl
theorem kN.insOuter (hS:SWO lt) (a b:Nat):∀ (n i:Nat) (d:Array α),b - i≤n→b≤d.size→kN lt tag d→kN lt tag (Go.Sort.insOuter lt a b i d):=by
 intro n
 induction n with
 | zero=>intro i d hn hb h; unfold Go.Sort.insOuter; rw [if_neg (by omega)]; exact h
 | succ n ih =>
  intro i d hn hb h
  unfold Go.Sort.insOuter
  split
  ·exact ih _ _ (by omega) (by rw [iQ]; exact hb) (kN.ins hS a i d (by omega) h)
  ·exact h
theorem kN.insertion (hS:SWO lt) {a b:Nat} {d:Array α} (hb:b≤d.size) (h:kN lt tag d):kN lt tag (insertionSort lt d a b):=kN.insOuter hS a b _ _ d (aF _) hb h
def lR (f:Nat→α) (s m e:Nat) (t:Nat):α:=if s≤t∧t < e then (if t < s+(e - m) then f (m+(t - s)) else f (t - (e - m))) else f t
theorem kN.rot {d d':Array α} {s m e:Nat} (h:kN lt tag d) (hz:d'.size=d.size) (hsm:s≤m) (hme:m≤e) (he:e≤d.size) (hg:∀ t,t < d.size→d'[t]! = lR (fun t=>d[t]!) s m e t)
    (hl:∀ u v,s≤u→u < m→m≤v→v < e→lt d[v]! d[u]! = true):kN lt tag d':=by
 intro p q hpq hq h1 h2
 rw [hz] at hq
 rw [hg p (by omega),hg q hq] at h1 h2 ⊢
 unfold lR at h1 h2 ⊢
 by_cases a1:s≤p∧p < e
 ·by_cases a2:p < s+(e - m)
  ·by_cases b1:s≤q∧q < e
   ·by_cases b2:q < s+(e - m)
    ·simp only [a1,a2,b1,b2,and_self,if_true] at h1 h2 ⊢
     exact h _ _ (by omega) (by omega) h1 h2
    ·simp only [a1,a2,b1,b2,and_self,if_true,if_false] at h1 h2 ⊢
     have:=hl (q - (e - m)) (m+(p - s)) (by omega) (by omega) (by omega) (by omega)
     rw [this] at h1; simp at h1
   ·simp only [a1,a2,b1,and_self,if_true,if_false] at h1 h2 ⊢
    exact h _ _ (by omega) (by omega) h1 h2
  ·by_cases b1:s≤q∧q < e
   ·have b2:¬ q < s+(e - m):=by omega
    simp only [a1,a2,b1,b2,and_self,if_true,if_false] at h1 h2 ⊢
    exact h _ _ (by omega) (by omega) h1 h2
   ·simp only [a1,a2,b1,and_self,if_true,if_false] at h1 h2 ⊢
    exact h _ _ (by omega) (by omega) h1 h2
 ·by_cases b1:s≤q∧q < e
  ·by_cases b2:q < s+(e - m)
   ·simp only [a1,b1,b2,and_self,if_true,if_false] at h1 h2 ⊢
    exact h _ _ (by omega) (by omega) h1 h2
   ·simp only [a1,b1,b2,and_self,if_true,if_false] at h1 h2 ⊢
    exact h _ _ (by omega) (by omega) h1 h2
  ·simp only [a1,b1,if_false] at h1 h2 ⊢
   exact h _ _ hpq hq h1 h2
end
end Go.Sort
namespace Go.Proofs
open Go Go.E Go.Sort Go.Proofs.Tryz
section
variable {recv:Value} {α:Type} [Inhabited α] {lt:α→α→Bool} {N0:Nat} {R:World→Array α→Prop} {k:aq} {w:World} {d:Array α}
def AG (f:Nat→α) (a b n:Nat) (t:Nat):α:=if a≤t∧t < a+n then f (t - a+b) else if b≤t∧t < b+n then f (t - b+a) else f t
theorem ji (S:Srt prog recv lt N0 R) {a b n A B:Nat} {xa xb xn:Int} (hR:R w d) (hxa:xa=a) (hxb:xb=b) (hxn:xn=n) (h1:A≤a) (h2:a+n≤b) (h3:b+n≤B) (hB:B≤d.size)
    (hk:∀ w' d',R w' d'→PermIn A B d d'→(∀ t,t < d.size→d'[t]! = AG (fun t=>d[t]!) a b n t)→k (.tuple #[]) w') :
    ai prog 208 #[recv,.int .i64 xa,.int .i64 xb,.int .i64 xn] k w:=by
 have hsm:=S.small hR
 subst hxa; subst hxb; subst hxn
 refine al [] func208 ?_
 refine bA ?_
 refine bZ (fun x:Nat × Array α=>[(0,recv),(1,.int .i64 a),(2,.int .i64 b),(3,.int .i64 n),(8,.int .i64 x.1)])
  (fun x w=>R w x.2∧x.1≤n∧PermIn A B d x.2∧(∀ t,t < d.size→x.2[t]! = AG (fun t=>d[t]!) a b x.1 t)) (fun x _=>n - x.1) (0,d) (by kernel_rfl) ?_ ⟨hR,aT _,permIn_refl _ _ _,?_⟩ ?_
 ·exact bU
 ·intro t ht
  unfold AG
  rw [if_neg (by omega),if_neg (by omega)]
 rintro K e ⟨i,d1⟩ w1 ⟨g1,g2,g3,g4⟩ hK
 simp only at g1 g2 g3 g4
 have hz:=g3.1
 by_cases hi:i < n
 ·have hi':(i:Int) < n:=by omega
  refine bu @hi' ?_
  refine S.swap (a+i) (b+i) g1 (by omega) (by omega) (by omega) (by omega) fun w2 q1 => ?_
  refine bA ?_
  refine hK _ _ (i+1,swp d1 (a+i) (b+i)) ?_ ⟨q1,by simp only; omega,permIn_trans _ _ _ _ _ g3 (swp_permIn _ _ _ _ _ (by omega) (by omega) (by omega) (by omega) (by omega)),?_⟩ (by simp only; omega)
  ·exact bU
  ·intro t ht
   show (swp d1 (a+i) (b+i))[t]! = AG (fun t=>d[t]!) a b (i+1) t
   rw [swp_get d1 (by omega) (by omega)]
   by_cases t1:t=b+i
   ·rw [if_pos t1,g4 _ (by omega)]
    unfold AG
    rw [if_neg (by omega),if_neg (by omega),if_neg (by omega),if_pos (by omega)]
    simp only; congr 1; omega
   ·rw [if_neg t1]
    by_cases t2:t=a+i
    ·rw [if_pos t2,g4 _ (by omega)]
     unfold AG
     rw [if_neg (by omega),if_neg (by omega),if_pos (by omega)]
     simp only; congr 1; omega
    ·rw [if_neg t2,g4 _ ht]
     unfold AG
     by_cases u1:a≤t∧t < a+i
     ·rw [if_pos u1,if_pos (by omega)]
     ·rw [if_neg u1,if_neg (show ¬ (a≤t∧t < a+(i+1)) by omega)]
      by_cases u2:b≤t∧t < b+i
      ·rw [if_pos u2,if_pos (by omega)]
      ·rw [if_neg u2,if_neg (by omega)]
 ·have hi':¬ (i:Int) < n:=by omega
  obtain rfl:i=n:=by omega
  refine bu @hi' ?_
  exact hk _ _ g1 g3 g4
theorem zJ (S:Srt prog recv lt N0 R) {a m b:Nat} (hR:R w d) (h1:a < m) (h2:m < b) (hB:b≤d.size)
    (hk:∀ w' d',R w' d'→PermIn a b d d'→(∀ t,t < d.size→d'[t]! = lR (fun t=>d[t]!) a m b t)→k (.tuple #[]) w') :
    ai prog 207 #[recv,.int .i64 a,.int .i64 m,.int .i64 b] k w:=by
 have hsm:=S.small hR
 refine al [] func207 ?_
 refine bA ?_
 refine bZ (fun x:Nat × Nat × Array α=>[(0,recv),(2,.int .i64 m),(8,.int .i64 x.1),(9,.int .i64 x.2.1)])
  (fun x w=>R w x.2.2∧0 < x.1∧0 < x.2.1∧a+x.1≤m∧m+x.2.1≤b∧PermIn a b d x.2.2∧(∀ t,t < d.size→lR (fun t=>x.2.2[t]!) (m - x.1) m (m+x.2.1) t=lR (fun t=>d[t]!) a m b t))
  (fun x _=>x.1+x.2.1) (m - a,b - m,d) (by kernel_rfl) ?_ ⟨hR,by simp only; omega,by simp only; omega,by simp only; omega,by simp only; omega,permIn_refl _ _ _,?_⟩ ?_
 ·exact bU
 ·intro t ht
  simp only
  rw [show m - (m - a)=a by omega,show m+(b - m)=b by omega]
 rintro K e ⟨i,j,d1⟩ w1 ⟨g1,g2,g3,g4,g5,g6,g7⟩ hK
 simp only at g1 g2 g3 g4 g5 g6 g7
 have hz:=g6.1
 by_cases hij:i=j
 ·have hij':((i:Int) != j)=false:=by simp [hij]
  refine bu @hij' ?_
  refine ji (a:=m - i) (b:=m) (n:=i) (A:=a) (B:=b) S g1 (by omega) rfl rfl (by omega) (by omega) (by omega) (by omega) fun w2 d2 q1 q2 q3 => ?_
  refine bA ?_
  refine hk _ _ q1 (permIn_trans _ _ _ _ _ g6 q2) fun t ht => ?_
  rw [q3 t (by omega),← g7 t ht,← hij]
  unfold AG lR
  by_cases u1:m - i≤t∧t < m - i+i
  ·rw [if_pos u1,if_pos (by omega),if_pos (by omega)]; simp only; congr 1; omega
  ·rw [if_neg u1]
   by_cases u2:m≤t∧t < m+i
   ·rw [if_pos u2,if_pos (by omega),if_neg (by omega)]; simp only; congr 1; omega
   ·rw [if_neg u2,if_neg (by omega)]
 have hij':((i:Int) != j)=true:=by simp; omega
 by_cases hgt:j < i
 ·have hgt':(j:Int) < i:=by omega
  refine dO @hij' @hgt' ?_
  refine ji (a:=m - i) (b:=m) (n:=j) (A:=a) (B:=b) S g1 (by omega) rfl rfl (by omega) (by omega) (by omega) (by omega) fun w2 d2 q1 q2 q3 => ?_
  refine bA ?_
  refine hK _ _ (i - j,j,d2) ?_ ⟨q1,by simp only; omega,g3,by simp only; omega,g5,permIn_trans _ _ _ _ _ g6 q2,?_⟩ (by simp only; omega)
  ·exact bU
  ·intro t ht
   show lR (fun t=>d2[t]!) (m - (i - j)) m (m+j) t=_
   rw [← g7 t ht]
   unfold lR
   by_cases u1:m - (i - j)≤t∧t < m+j
   ·rw [if_pos u1,if_pos (show m - i≤t∧t < m+j by omega)]
    by_cases u2:t < m - (i - j)+(m+j - m)
    ·rw [if_pos u2,if_neg (show ¬ t < m - i+(m+j - m) by omega)]
     simp only
     rw [q3 _ (by omega)]
     unfold AG
     rw [if_neg (by omega),if_pos (by omega)]
     simp only; congr 1; omega
    ·rw [if_neg u2,if_neg (show ¬ t < m - i+(m+j - m) by omega)]
     simp only
     rw [q3 _ (by omega)]
     unfold AG
     rw [if_neg (by omega),if_neg (by omega)]
   ·rw [if_neg u1]
    simp only
    rw [q3 _ (by omega)]
    unfold AG
    by_cases u2:m - i≤t∧t < m - i+j
    ·rw [if_pos u2,if_pos (by omega),if_pos (by omega)]; simp only; congr 1; omega
    ·rw [if_neg u2,if_neg (by omega),if_neg (by omega)]
 ·have hgt':¬ (j:Int) < i:=by omega
  refine dO @hij' @hgt' ?_
  refine ji (a:=m - i) (b:=m+j - i) (n:=i) (A:=a) (B:=b) S g1 (by omega) (by omega) rfl (by omega) (by omega) (by omega) (by omega) fun w2 d2 q1 q2 q3 => ?_
  refine bA ?_
  refine hK _ _ (i,j - i,d2) ?_ ⟨q1,g2,by simp only; omega,g4,by simp only; omega,permIn_trans _ _ _ _ _ g6 q2,?_⟩ (by simp only; omega)
  ·exact bU
  ·intro t ht
   show lR (fun t=>d2[t]!) (m - i) m (m+(j - i)) t=_
   rw [← g7 t ht]
   unfold lR
   by_cases u1:m - i≤t∧t < m+(j - i)
   ·rw [if_pos u1,if_pos (show m - i≤t∧t < m+j by omega)]
    by_cases u2:t < m - i+(m+(j - i) - m)
    ·rw [if_pos u2,if_pos (show t < m - i+(m+j - m) by omega)]
     simp only
     rw [q3 _ (by omega)]
     unfold AG
     rw [if_neg (by omega),if_neg (by omega)]
    ·rw [if_neg u2,if_pos (show t < m - i+(m+j - m) by omega)]
     simp only
     rw [q3 _ (by omega)]
     unfold AG
     rw [if_pos (by omega)]
     simp only; congr 1; omega
   ·rw [if_neg u1]
    simp only
    rw [q3 _ (by omega)]
    unfold AG
    by_cases u2:m - i≤t∧t < m+j
    ·rw [if_neg (by omega),if_pos (by omega),if_pos u2,if_neg (by omega)]; simp only; congr 1; omega
    ·rw [if_neg (by omega),if_neg (by omega),if_neg u2]
theorem AH {x:Nat} (hx:x < 9223372036854775807):IntKind.i64.wrap ((IntKind.u64.wrap (x:Int)).fdiv (2 ^ min (Int.toNat 1) 64))=((x / 2:Nat):Int):=by
 rw [IntWalk.u64_in _ ⟨by omega,by omega⟩,DZ (a:=x) (s:=1) (n:=1) (m:=2) rfl rfl]
 exact dP (by omega) (by omega)
theorem kN.mono {d d':Array α} {tag:α→Nat} (h:kN lt tag d) (he:d'=d):kN lt tag d':=he ▸ h
def Mg (lt:α→α→Bool) (tag:α→Nat) (a b:Nat) (d d':Array α):Prop:=PermIn a b d d'∧SortedIn lt a b d'∧kN lt tag d'
theorem vM (S:Srt prog recv lt N0 R) (hS:SWO lt) {tag:α→Nat} {a b:Nat} (hR:R w d) (h2:a+1 < b) (hB:b≤d.size) (hs:SortedIn lt (a+1) b d) (ho:kN lt tag d)
    (hk:∀ w' d',R w' d'→Mg lt tag a b d d'→k (.tuple #[]) w') :
    ai prog 206 #[recv,.int .i64 a,.int .i64 (a+1:Nat),.int .i64 b] k w:=by
 have hsm:=S.small hR
 have one:(((a+1:Nat):Int) - a == 1)=true:=by simp; omega
 have h01:(0:Int)≤1:=by decide
 refine al [] func206 ?_
 refine bu @one ?_
 refine jf (fun i:Nat=>[(0,recv),(1,.int .i64 a),(8,.int .i64 i)]) (fun i w=>R w d∧a+1≤i∧i≤b∧(∀ t,a+1≤t→t < i→lt d[t]! d[a]! = true)∧(∀ t,i≤t→t < b→lt d[t]! d[a]! = false)) (by kernel_rfl) (fun K hK => ?_) ?_
 ·refine bZ (fun x:Nat × Nat=>[(0,recv),(1,.int .i64 a),(8,.int .i64 x.1),(9,.int .i64 x.2)]) (fun x w=>R w d∧a+1≤x.1∧x.1≤x.2∧x.2≤b∧(∀ t,a+1≤t→t < x.1→lt d[t]! d[a]! = true)∧(∀ t,x.2≤t→t < b→lt d[t]! d[a]! = false)) (fun x _=>x.2 - x.1) (a+1,b) (by kernel_rfl) ?_ ⟨hR,aF _,by simp only; omega,aF _,by intro t h h'; omega,by intro t h h'; simp only at h; omega⟩ ?_
  ·exact bU
  rintro K2 e2 ⟨i,j⟩ w2 ⟨g1,g2,g3,g4,g5,g6⟩ hK2
  simp only at g1 g2 g3 g4 g5 g6
  by_cases hij:i < j
  ·have hij':(i:Int) < j:=by omega
   have hh:IntKind.i64.wrap ((IntKind.u64.wrap ((i:Int)+j)).fdiv (2 ^ min (Int.toNat 1) 64))=(((i+j) / 2:Nat):Int):=by
    rw [show (i:Int)+j=((i+j:Nat):Int) by omega]; exact AH (by omega)
   obtain ⟨h,hh2⟩:∃ h,h=(i+j) / 2:=⟨_,rfl⟩
   rw [← hh2] at hh
   simp (disch:=first | exact dZ | fail) only [go_sem,hij',gK h01,hh]
   refine S.less h a g1 rfl rfl (by omega) (by omega) fun wl g1 => ?_
   cases hl:lt d[h]! d[a]! with
   | true =>
    refine bA ?_
    refine hK2 _ _ (h+1,j) ?_ ⟨g1,by simp only; omega,by simp only; omega,g4,?_,g6⟩ (by simp only; omega)
    ·exact bU
    ·intro t t1 t2
     simp only at t2
     rcases aH t h with t3 | t3
     ·cases hc:lt d[t]! d[a]! with
      | true=>rfl
      | false =>
       have:=hs t h t1 t3 (by omega)
       have:=hS.ntrans _ _ _ this hc
       rw [hl] at this; exact this.symm
     ·obtain rfl:t=h:=by omega
      exact hl
   | false =>
    refine bA ?_
    refine hK2 _ _ (i,h) ?_ ⟨g1,g2,by simp only; omega,by simp only; omega,g5,?_⟩ (by simp only; omega)
    ·exact bU
    ·intro t t1 t2
     simp only at t1
     rcases aH h t with t3 | t3
     ·exact hS.ntrans _ _ _ (hs h t (by omega) t3 t2) hl
     ·obtain rfl:t=h:=by omega
      exact hl
  ·have hij':¬ (i:Int) < j:=by omega
   obtain rfl:i=j:=by omega
   refine bu @hij' ?_
   refine hK _ _ i ?_ ⟨g1,g2,g4,g5,g6⟩
   exact bU
 rintro e1 i w1 ⟨g1,g2,g3,g4,g5⟩
 refine bA ?_
 obtain ⟨x,hx⟩:∃ x,x=d[a]! := ⟨_,rfl⟩
 refine bZ (fun y:Nat × Array α=>[(0,recv),(8,.int .i64 i),(11,.int .i64 y.1)]) (fun y w=>R w y.2∧a≤y.1∧y.1 < i∧PermIn a b d y.2∧kN lt tag y.2∧y.2[y.1]! = d[a]! ∧ (∀ t,a≤t→t < y.1→y.2[t]! = d[t+1]!)∧(∀ t,y.1 < t→y.2[t]! = d[t]!)) (fun y _=>i - y.1) (a,d) (by kernel_rfl) ?_ ⟨g1,aF _,by simp only; omega,permIn_refl _ _ _,ho,rfl,by intro t h h'; simp only at h'; omega,fun _ _=>rfl⟩ ?_
 ·exact bU
 rintro K e ⟨q,d1⟩ w2 ⟨q1,q2,q3,q4,q5,q6,q7,q8⟩ hK
 simp only at q1 q2 q3 q4 q5 q6 q7 q8
 have hz:=q4.1
 by_cases hq:q+1 < i
 ·have hq':(q:Int) < (i:Int) - 1:=by omega
  refine bu @hq' ?_
  refine S.swap q (q+1) q1 rfl (by omega) (by omega) (by omega) fun w3 r1 => ?_
  refine bA ?_
  have hl:lt d1[q+1]! d1[q]! = true:=by rw [q6,q8 _ (by omega)]; exact g4 _ (by omega) hq
  refine hK _ _ (q+1,swp d1 q (q+1)) ?_ ⟨r1,by simp only; omega,hq,permIn_trans _ _ _ _ _ q4 (swp_permIn _ _ _ _ _ (by omega) (by omega) (by omega) (by omega) (by omega)),?_,?_,?_,?_⟩ (by simp only; omega)
  ·exact bU
  ·rw [BI d1 (by omega) (by omega)]
   exact q5.swap hS (by omega) hl
  ·simp only; rw [swp_get d1 (by omega) (by omega),if_pos rfl]; exact q6
  ·intro t t1 t2
   simp only at t2 ⊢
   rw [swp_get d1 (by omega) (by omega),if_neg (by omega)]
   by_cases t3:t=q
   ·rw [if_pos t3,q8 _ (by omega),t3]
   ·rw [if_neg t3]; exact q7 _ t1 (by omega)
  ·intro t t1
   simp only at t1 ⊢
   rw [swp_get d1 (by omega) (by omega),if_neg (by omega),if_neg (by omega)]
   exact q8 _ (by omega)
 ·have hq':¬ (q:Int) < (i:Int) - 1:=by omega
  refine bu @hq' ?_
  refine hk _ _ q1 ⟨q4,?_,q5⟩
  intro s t s1 s2 s3
  rcases aH t q with t1 | t1
  ·rw [q7 t (by omega) t1,q7 s s1 (by omega)]
   exact hs _ _ (by omega) (by omega) (by omega)
  ·rcases aH q t with t2 | t2
   ·rw [q8 t t2]
    rcases aH s q with u1 | u1
    ·rw [q7 s s1 u1]
     exact hs _ _ (by omega) (by omega) (by omega)
    ·rcases aH q s with u2 | u2
     ·rw [q8 s u2]; exact hs _ _ (by omega) (by omega) (by omega)
     ·obtain rfl:s=q:=by omega
      rw [q6]; exact g5 _ (by omega) s3
   ·obtain rfl:t=q:=by omega
    rw [q6,q7 s s1 s2]
    exact hS.asym (g4 _ (by omega) (by omega))
theorem vN (S:Srt prog recv lt N0 R) (hS:SWO lt) {tag:α→Nat} {a m:Nat} {x:Int} (hx:x=(m+1:Nat)) (hR:R w d) (h2:a+1 < m) (hB:m+1≤d.size) (hs:SortedIn lt a m d) (ho:kN lt tag d)
    (hk:∀ w' d',R w' d'→Mg lt tag a (m+1) d d'→k (.tuple #[]) w') :
    ai prog 206 #[recv,.int .i64 a,.int .i64 m,.int .i64 x] k w:=by
 have hsm:=S.small hR
 subst hx
 have none1:((m:Int) - a == 1)=false:=by simp; omega
 have one:(((m+1:Nat):Int) - m == 1)=true:=by simp; omega
 have h01:(0:Int)≤1:=by decide
 refine al [] func206 ?_
 refine dO @none1 @one ?_
 refine jf (fun i:Nat=>[(0,recv),(2,.int .i64 m),(12,.int .i64 i)]) (fun i w=>R w d∧a≤i∧i≤m∧(∀ t,a≤t→t < i→lt d[m]! d[t]! = false)∧(∀ t,i≤t→t < m→lt d[m]! d[t]! = true)) (by kernel_rfl) (fun K hK => ?_) ?_
 ·refine bZ (fun x:Nat × Nat=>[(0,recv),(2,.int .i64 m),(12,.int .i64 x.1),(13,.int .i64 x.2)]) (fun x w=>R w d∧a≤x.1∧x.1≤x.2∧x.2≤m∧(∀ t,a≤t→t < x.1→lt d[m]! d[t]! = false)∧(∀ t,x.2≤t→t < m→lt d[m]! d[t]! = true)) (fun x _=>x.2 - x.1) (a,m) (by kernel_rfl) ?_ ⟨hR,aF _,by simp only; omega,aF _,by intro t h h'; simp only at h'; omega,by intro t h h'; simp only at h; omega⟩ ?_
  ·exact bU
  rintro K2 e2 ⟨i,j⟩ w2 ⟨g1,g2,g3,g4,g5,g6⟩ hK2
  simp only at g1 g2 g3 g4 g5 g6
  by_cases hij:i < j
  ·have hij':(i:Int) < j:=by omega
   have hh:IntKind.i64.wrap ((IntKind.u64.wrap ((i:Int)+j)).fdiv (2 ^ min (Int.toNat 1) 64))=(((i+j) / 2:Nat):Int):=by
    rw [show (i:Int)+j=((i+j:Nat):Int) by omega]; exact AH (by omega)
   obtain ⟨h,hh2⟩:∃ h,h=(i+j) / 2:=⟨_,rfl⟩
   rw [← hh2] at hh
   simp (disch:=first | exact dZ | fail) only [go_sem,hij',gK h01,hh]
   refine S.less m h g1 rfl rfl (by omega) (by omega) fun wl g1 => ?_
   cases hl:lt d[m]! d[h]! with
   | false =>
    refine bA ?_
    refine hK2 _ _ (h+1,j) ?_ ⟨g1,by simp only; omega,by simp only; omega,g4,?_,g6⟩ (by simp only; omega)
    ·exact bU
    ·intro t t1 t2
     simp only at t2
     rcases aH t h with t3 | t3
     ·exact hS.ntrans _ _ _ hl (hs t h t1 t3 (by omega))
     ·obtain rfl:t=h:=by omega
      exact hl
   | true =>
    refine bA ?_
    refine hK2 _ _ (i,h) ?_ ⟨g1,g2,by simp only; omega,by simp only; omega,g5,?_⟩ (by simp only; omega)
    ·exact bU
    ·intro t t1 t2
     simp only at t1
     rcases aH h t with t3 | t3
     ·cases hc:lt d[m]! d[t]! with
      | true=>rfl
      | false =>
       have:=hS.ntrans _ _ _ hc (hs h t (by omega) t3 t2)
       rw [hl] at this; exact this.symm
     ·obtain rfl:t=h:=by omega
      exact hl
  ·have hij':¬ (i:Int) < j:=by omega
   obtain rfl:i=j:=by omega
   refine bu @hij' ?_
   refine hK _ _ i ?_ ⟨g1,g2,g4,g5,g6⟩
   exact bU
 rintro e1 i w1 ⟨g1,g2,g3,g4,g5⟩
 refine bA ?_
 refine bZ (fun y:Nat × Array α=>[(0,recv),(12,.int .i64 i),(15,.int .i64 y.1)]) (fun y w=>R w y.2∧i≤y.1∧y.1≤m∧PermIn a (m+1) d y.2∧kN lt tag y.2∧y.2[y.1]! = d[m]! ∧ (∀ t,y.1 < t→t≤m→y.2[t]! = d[t - 1]!)∧(∀ t,t < y.1→y.2[t]! = d[t]!)) (fun y _=>y.1) (m,d) (by kernel_rfl) ?_ ⟨g1,g3,aF _,permIn_refl _ _ _,ho,rfl,by intro t h h'; simp only at h; omega,fun _ _=>rfl⟩ ?_
 ·exact bU
 rintro K e ⟨q,d1⟩ w2 ⟨q1,q2,q3,q4,q5,q6,q7,q8⟩ hK
 simp only at q1 q2 q3 q4 q5 q6 q7 q8
 have hz:=q4.1
 by_cases hq:i < q
 ·have hq':(i:Int) < (q:Int):=by omega
  obtain ⟨p,rfl⟩:∃ p,q=p+1:=⟨q - 1,by omega⟩
  refine bu @hq' ?_
  refine S.swap (p+1) p q1 rfl (by omega) (by omega) (by omega) fun w3 r1 => ?_
  refine bA ?_
  have hl:lt d1[p+1]! d1[p]! = true:=by rw [q6,q8 _ (by omega)]; exact g5 _ (by omega) (by omega)
  refine hK _ _ (p,swp d1 (p+1) p) ?_ ⟨r1,by simp only; omega,by simp only; omega,permIn_trans _ _ _ _ _ q4 (swp_permIn _ _ _ _ _ (by omega) (by omega) (by omega) (by omega) (by omega)),q5.swap hS (by omega) hl,?_,?_,?_⟩ (by simp only; omega)
  ·exact bU
  ·simp only; rw [swp_get d1 (by omega) (by omega),if_pos rfl]; exact q6
  ·intro t t1 t2
   simp only at t1 ⊢
   rw [swp_get d1 (by omega) (by omega),if_neg (by omega)]
   by_cases t3:t=p+1
   ·rw [if_pos t3,q8 _ (by omega),t3]; rfl
   ·rw [if_neg t3]; exact q7 _ (by omega) t2
  ·intro t t1
   simp only at t1 ⊢
   rw [swp_get d1 (by omega) (by omega),if_neg (by omega),if_neg (by omega)]
   exact q8 _ (by omega)
 ·have hq':¬ (i:Int) < (q:Int):=by omega
  obtain rfl:i=q:=by omega
  refine bu @hq' ?_
  refine hk _ _ q1 ⟨q4,?_,q5⟩
  intro s t s1 s2 s3
  rcases aH t i with t1 | t1
  ·rw [q8 t t1,q8 s (by omega)]
   exact hs _ _ (by omega) (by omega) (by omega)
  ·rcases aH i t with t2 | t2
   ·rw [q7 t t2 (by omega)]
    rcases aH s i with u1 | u1
    ·rw [q8 s u1]
     exact hs _ _ (by omega) (by omega) (by omega)
    ·rcases aH i s with u2 | u2
     ·rw [q7 s u2 (by omega)]; exact hs _ _ (by omega) (by omega) (by omega)
     ·obtain rfl:s=i:=by omega
      rw [q6]; exact hS.asym (g5 _ (by omega) (by omega))
   ·obtain rfl:t=i:=by omega
    rw [q6,q8 s s2]
    exact g4 _ s1 s2
theorem Kr {a m b:Nat} {d:Array α} (h1:SortedIn lt a m d) (h2:SortedIn lt m b d) (h3:∀ u v,a≤u→u < m→m≤v→v < b→lt d[v]! d[u]! = false):SortedIn lt a b d:=by
 intro i j hi hij hj
 rcases aH j m with q | q
 ·exact h1 i j hi hij q
 ·rcases aH i m with p | p
  ·exact h3 i j hi p q hj
  ·exact h2 i j p hij hj
set_option maxHeartbeats 1000000 in
theorem oG (S:Srt prog recv lt N0 R) (hS:SWO lt) {tag:α→Nat}:∀ (N:Nat) {a m b:Nat} {w:World} {d:Array α} {k:aq} {xa xm xb:Int},b - a < N→R w d→xa=a→xm=m→xb=b→a < m→m < b→b≤d.size →
    SortedIn lt a m d→SortedIn lt m b d→kN lt tag d→(∀ w' d',R w' d'→Mg lt tag a b d d'→k (.tuple #[]) w')→ai prog 206 #[recv,.int .i64 xa,.int .i64 xm,.int .i64 xb] k w:=by
 intro N
 induction N with
 | zero=>intro a m b w d k xa xm xb hN; omega
 | succ N ih =>
  intro a m b w d k xa xm xb hN hR hxa hxm hxb ham hmb hB hs1 hs2 ho hk
  have hsm:=S.small hR
  by_cases m1:m=a+1
  ·subst m1; subst hxa; subst hxm; subst hxb
   exact vM S hS hR hmb hB hs2 ho hk
  by_cases m2:b=m+1
  ·subst m2; subst hxa; subst hxm
   exact vN S hS hxb hR (by omega) hB hs1 ho hk
  subst hxa; subst hxm; subst hxb
  have n1:((m:Int) - a == 1)=false:=by simp; omega
  have n2:((b:Int) - m == 1)=false:=by simp; omega
  have h01:(0:Int)≤1:=by decide
  have hh:IntKind.i64.wrap ((IntKind.u64.wrap ((a:Int)+b)).fdiv (2 ^ min (Int.toNat 1) 64))=(((a+b) / 2:Nat):Int):=by
   rw [show (a:Int)+b=((a+b:Nat):Int) by omega]; exact AH (by omega)
  obtain ⟨mid,hmid⟩:∃ mid,mid=(a+b) / 2:=⟨_,rfl⟩
  rw [← hmid] at hh
  have hsum:((mid:Int)+m)=((mid+m:Nat):Int):=by omega
  obtain ⟨n,hn⟩:∃ n,n=mid+m:=⟨_,rfl⟩
  refine al [] func206 ?_
  have facts:∃ s0 r0:Nat,a≤s0∧s0≤r0∧r0≤m∧r0≤mid∧n≤s0+b∧(s0=a∨s0+b=n)∧(r0=m∨r0=mid)∧(mid < m→s0+b=n∧r0=mid)∧(¬ mid < m→s0=a∧r0=m):=by
   by_cases h:mid < m
   ·exact ⟨n - b,mid,by omega,by omega,by omega,by omega,by omega,by omega,by omega,by omega,by omega⟩
   ·exact ⟨a,m,by omega,by omega,by omega,by omega,by omega,by omega,by omega,by omega,by omega⟩
  obtain ⟨s0,r0,f1,f2,f3,f4,f5,f6,f7,f8,f9⟩:=facts
  have hp:((mid:Int)+m)=n:=by omega
  by_cases hmm:mid < m
  all_goals
   have hmm':((mid:Int) < m)=(mid < m):=by simp
   have fs:(s0:Int)=if mid < m then (n:Int) - b else a:=by split <;> omega
   have fr:(r0:Int)=if mid < m then (mid:Int) else m:=by split <;> omega
   simp only [hmm,if_true,if_false] at hmm' fs fr
   simp (disch:=first | exact dZ | fail) only [go_sem,n1,n2,gK h01,hh,hmm',hp]
   refine jf (fun s:Nat=>[(0,recv),(1,.int .i64 a),(2,.int .i64 m),(3,.int .i64 b),(16,.int .i64 mid),(17,.int .i64 n),(18,.int .i64 s)]) (fun s w=>R w d∧s0≤s∧s≤r0∧(s=s0∨lt d[n - s]! d[s - 1]! = false)∧(s=r0∨lt d[n - 1 - s]! d[s]! = true)) (by kernel_rfl) (fun K hK => ?_) ?_
   ·refine bZ (fun x:Nat × Nat=>[(0,recv),(1,.int .i64 a),(2,.int .i64 m),(3,.int .i64 b),(16,.int .i64 mid),(17,.int .i64 n),(18,.int .i64 x.1),(19,.int .i64 x.2),(20,.int .i64 ((n:Int) - 1))]) (fun x w=>R w d∧s0≤x.1∧x.1≤x.2∧x.2≤r0∧(x.1=s0∨lt d[n - x.1]! d[x.1 - 1]! = false)∧(x.2=r0∨lt d[n - 1 - x.2]! d[x.2]! = true)) (fun x _=>x.2 - x.1) (s0,r0) (by kernel_rfl) ?_ ⟨hR,aF _,f2,aF _,.inl rfl,.inl rfl⟩ ?_
    ·((try simp (disch:=first | exact dZ | fail) only [go_sem,fs,fr]); (try simp only [and_true,true_and,eT,aU,dF,aP]); (try (refine ⟨?_,?_⟩ <;> omega)); (try omega))
    rintro K2 e2 ⟨i,j⟩ w2 ⟨g1,g2,g3,g4,g5,g6⟩ hK2
    simp only at g1 g2 g3 g4 g5 g6
    by_cases hij:i < j
    ·have hij':(i:Int) < j:=by omega
     have hh:IntKind.i64.wrap ((IntKind.u64.wrap ((i:Int)+j)).fdiv (2 ^ min (Int.toNat 1) 64))=(((i+j) / 2:Nat):Int):=by
      rw [show (i:Int)+j=((i+j:Nat):Int) by omega]; exact AH (by omega)
     obtain ⟨h,hh2⟩:∃ h,h=(i+j) / 2:=⟨_,rfl⟩
     rw [← hh2] at hh
     simp (disch:=first | exact dZ | fail) only [go_sem,hij',gK h01,hh]
     refine S.less (n - 1 - h) h g1 (by omega) rfl (by omega) (by omega) fun wl g1 => ?_
     cases hl:lt d[n - 1 - h]! d[h]! with
     | false =>
      refine bA ?_
      refine hK2 _ _ (h+1,j) ?_ ⟨g1,by simp only; omega,by simp only; omega,g4,.inr ?_,g6⟩ (by simp only; omega)
      ·exact bU
      ·simp only
       rw [show n - (h+1)=n - 1 - h by omega]
       exact hl
     | true =>
      refine bA ?_
      refine hK2 _ _ (i,h) ?_ ⟨g1,g2,by simp only; omega,by simp only; omega,g5,.inr hl⟩ (by simp only; omega)
      exact bU
    ·have hij':¬ (i:Int) < j:=by omega
     obtain rfl:i=j:=by omega
     refine bu @hij' ?_
     refine hK _ _ i ?_ ⟨g1,g2,g4,g5,g6⟩
     exact bU
   rintro e1 s w1 ⟨g1,g2,g3,g4,g5⟩
   obtain ⟨t,ht⟩:∃ t,t=n - s:=⟨_,rfl⟩
   have ht':(n:Int) - s=t:=by omega
   have hst:m≤t:=by omega
   have htb:t≤b:=by omega
   refine tJ (fun _:Unit=>[(0,recv),(1,.int .i64 a),(2,.int .i64 m),(3,.int .i64 b),(16,.int .i64 mid),(18,.int .i64 s),(22,.int .i64 t)]) (fun _ w=>R w d) (by kernel_rfl) (fun K hK => ?_) ?_
   ·refine bu @ht' ?_
    refine hK _ _ () ?_ g1
    exact bU
   clear g1
   intro e2 _ w2 g1
   refine tJ (fun _:Unit=>[(0,recv),(1,.int .i64 a),(3,.int .i64 b),(16,.int .i64 mid),(18,.int .i64 s),(22,.int .i64 t)]) (fun _ w=>∃ d2,R w d2∧PermIn a b d d2∧kN lt tag d2∧(∀ x,x < d.size→d2[x]! = lR (fun x=>d[x]!) s m t x)) (by kernel_rfl) (fun K hK => ?_) ?_
   ·by_cases r1:s < m
    ·have r1':(s:Int) < m:=by omega
     by_cases r2:m < t
     ·have r2':(m:Int) < t:=by omega
      refine dO @r1' @r2' ?_
      refine zJ S g1 r1 r2 (by omega) fun w3 d2 q1 q2 q3 => ?_
      refine bA ?_
      refine hK _ _ () ?_ ⟨d2,q1,permIn_mono _ _ s t a b (by omega) htb (by omega) q2,?_,q3⟩
      ·exact bU
      ·refine ho.rot q2.1 (by omega) hst (by omega) q3 fun u v u1 u2 v1 v2 => ?_
       have hlt:lt d[t - 1]! d[s]! = true:=by
        rcases g5 with h | h
        ·omega
        ·rw [show t - 1=n - 1 - s by omega]; exact h
       have e1:lt d[t - 1]! d[v]! = false:=by
        rcases aH v (t - 1) with h | h
        ·exact hs2 v (t - 1) v1 h (by omega)
        ·obtain rfl:v=t - 1:=by omega
         exact hS.irrefl _
       have e2:lt d[u]! d[s]! = false:=by
        rcases aH s u with h | h
        ·exact hs1 s u (by omega) h u2
        ·obtain rfl:u=s:=by omega
         exact hS.irrefl _
       cases hc:lt d[v]! d[u]! with
       | true=>rfl
       | false =>
        have:=hS.ntrans _ _ _ (hS.ntrans _ _ _ e1 hc) e2
        rw [hlt] at this; exact this.symm
     ·have r2':¬ (m:Int) < t:=by omega
      refine dO @r1' @r2' ?_
      refine hK _ _ () ?_ ⟨d,g1,permIn_refl _ _ _,ho,fun x hx => ?_⟩
      ·exact bU
      ·unfold lR
       split
       ·rw [if_neg (by omega)]; simp only; congr 1; omega
       ·rfl
    ·have r1':¬ (s:Int) < m:=by omega
     refine bu @r1' ?_
     refine hK _ _ () ?_ ⟨d,g1,permIn_refl _ _ _,ho,fun x hx => ?_⟩
     ·exact bU
     ·unfold lR
      split
      ·rw [if_pos (by omega)]; simp only; congr 1; omega
      ·rfl
   rintro e3 _ w3 ⟨d2,q1,q2,q3,q4⟩
   have z2:=q2.1
   have A1:SortedIn lt a s d2:=by
    intro i j hi hij hj
    rw [q4 j (by omega),q4 i (by omega)]
    unfold lR
    rw [if_neg (by omega),if_neg (by omega)]
    exact hs1 i j hi hij (by omega)
   have A2:SortedIn lt s mid d2:=by
    intro i j hi hij hj
    rw [q4 j (by omega),q4 i (by omega)]
    unfold lR
    rw [if_pos (by omega),if_pos (by omega),if_pos (by omega),if_pos (by omega)]
    exact hs2 _ _ (by omega) (by omega) (by omega)
   have A3:SortedIn lt mid t d2:=by
    intro i j hi hij hj
    rw [q4 j (by omega),q4 i (by omega)]
    unfold lR
    rw [if_pos (by omega),if_neg (by omega),if_pos (by omega),if_neg (by omega)]
    exact hs1 _ _ (by omega) (by omega) (by omega)
   have A4:SortedIn lt t b d2:=by
    intro i j hi hij hj
    rw [q4 j (by omega),q4 i (by omega)]
    unfold lR
    rw [if_neg (by omega),if_neg (by omega)]
    exact hs2 i j (by omega) hij hj
   have SEP:∀ u v,a≤u→u < mid→mid≤v→v < b→lt d2[v]! d2[u]! = false:=by
    intro u v u1 u2 v1 v2
    rw [q4 v (by omega),q4 u (by omega)]
    unfold lR
    by_cases c1:u < s
    ·by_cases c2:v < t
     ·rw [if_pos (by omega),if_neg (by omega),if_neg (by omega)]
      exact hs1 _ _ u1 (by omega) (by omega)
     ·rw [if_neg (by omega),if_neg (by omega)]
      simp only
      have e0:lt d[t]! d[s - 1]! = false:=by
       rcases g4 with h | h
       ·omega
       ·rw [ht]; exact h
      have e1:lt d[v]! d[t]! = false:=by
       rcases aH t v with h | h
       ·exact hs2 _ _ (by omega) h v2
       ·obtain rfl:v=t:=by omega
        exact hS.irrefl _
      have e2:lt d[s - 1]! d[u]! = false:=by
       rcases aH u (s - 1) with h | h
       ·exact hs1 _ _ u1 h (by omega)
       ·obtain rfl:u=s - 1:=by omega
        exact hS.irrefl _
      exact hS.ntrans _ _ _ (hS.ntrans _ _ _ e1 e0) e2
    ·by_cases c2:v < t
     ·rw [if_pos (by omega),if_neg (by omega),if_pos (by omega),if_pos (by omega)]
      simp only
      have hlt:lt d[t - 1]! d[s]! = true:=by
       rcases g5 with h | h
       ·omega
       ·rw [show t - 1=n - 1 - s by omega]; exact h
      have e1:lt d[t - 1]! d[m+(u - s)]! = false:=by
       rcases aH (m+(u - s)) (t - 1) with h | h
       ·exact hs2 _ _ (by omega) h (by omega)
       ·rw [show m+(u - s)=t - 1 by omega]
        exact hS.irrefl _
      have e2:lt d[v - (t - m)]! d[s]! = false:=by
       rcases aH s (v - (t - m)) with h | h
       ·exact hs1 _ _ (by omega) h (by omega)
       ·rw [show v - (t - m)=s by omega]
        exact hS.irrefl _
      cases hc:lt d[v - (t - m)]! d[m+(u - s)]! with
      | false=>rfl
      | true =>
       have h1:lt d[t - 1]! d[v - (t - m)]! = true:=by
        cases hd:lt d[t - 1]! d[v - (t - m)]! with
        | true=>rfl
        | false =>
         have:=hS.ntrans _ _ _ hd e2
         rw [hlt] at this; exact this.symm
       have:=hS.trans _ _ _ h1 hc
       rw [e1] at this; simp at this
     ·rw [if_neg (by omega),if_pos (by omega),if_pos (by omega)]
      exact hs2 _ _ (by omega) (by omega) (by omega)
   refine tJ (fun _:Unit=>[(0,recv),(3,.int .i64 b),(16,.int .i64 mid),(22,.int .i64 t)]) (fun _ w=>∃ d3,R w d3∧PermIn a mid d2 d3∧kN lt tag d3∧SortedIn lt a mid d3) (by kernel_rfl) (fun K hK => ?_) ?_
   ·by_cases r1:a < s
    ·have r1':(a:Int) < s:=by omega
     by_cases r2:s < mid
     ·have r2':(s:Int) < mid:=by omega
      refine dO @r1' @r2' ?_
      refine ih (a:=a) (m:=s) (b:=mid) (by omega) q1 rfl rfl rfl r1 r2 (by omega) A1 A2 q3 fun w4 d3 p1 p2 => ?_
      refine bA ?_
      refine hK _ _ () ?_ ⟨d3,p1,p2.1,p2.2.2,p2.2.1⟩
      exact bU
     ·have r2':¬ (s:Int) < mid:=by omega
      refine dO @r1' @r2' ?_
      refine hK _ _ () ?_ ⟨d2,q1,permIn_refl _ _ _,q3,?_⟩
      ·exact bU
      ·rw [show mid=s by omega]; exact A1
    ·have r1':¬ (a:Int) < s:=by omega
     refine bu @r1' ?_
     refine hK _ _ () ?_ ⟨d2,q1,permIn_refl _ _ _,q3,?_⟩
     ·exact bU
     ·rw [show a=s by omega]; exact A2
   rintro e4 _ w4 ⟨d3,p1,p2,p3,p4⟩
   have z3:=p2.1
   have same:∀ v,mid≤v→d3[v]! = d2[v]! := fun v hv=>p2.2.1 v (.inr hv)
   have SEP3:∀ v,mid≤v→v < b→∀ u,a≤u→u < mid→lt d3[v]! d3[u]! = false:=by
    intro v v1 v2
    rw [same v v1]
    exact permIn_all d2 d3 a mid (fun x=>lt d2[v]! x=false) (by omega) p2 (fun u u1 u2=>SEP u v u1 u2 v1 v2)
   have B3:SortedIn lt mid t d3:=fun i j hi hij hj=>by rw [same i hi,same j (by omega)]; exact A3 i j hi hij hj
   have B4:SortedIn lt t b d3:=fun i j hi hij hj=>by rw [same i (by omega),same j (by omega)]; exact A4 i j hi hij hj
   have fin:∀ w5 d4,R w5 d4→PermIn mid b d3 d4→kN lt tag d4→SortedIn lt mid b d4→k (.tuple #[]) w5:=by
    intro w5 d4 o1 o2 o3 o4
    refine hk w5 d4 o1 ⟨permIn_trans _ _ _ _ _ q2 (permIn_trans _ _ _ _ _ (permIn_mono _ _ a mid a b (aF _) (by omega) (by omega) p2) (permIn_mono _ _ mid b a b (by omega) (aF _) (by omega) o2)),?_,o3⟩
    have low:∀ u,u < mid→d4[u]! = d3[u]! := fun u hu=>o2.2.1 u (.inl hu)
    refine Kr (m:=mid) (fun i j hi hij hj=>by rw [low i (by omega),low j hj]; exact p4 i j hi hij hj) o4 fun u v u1 u2 v1 v2 => ?_
    rw [low u u2]
    exact permIn_all d3 d4 mid b (fun x=>lt x d3[u]! = false) (by omega) o2 (fun v v1 v2=>SEP3 v v1 v2 u u1 u2) v v1 v2
   by_cases r1:mid < t
   ·have r1':(mid:Int) < t:=by omega
    by_cases r2:t < b
    ·have r2':(t:Int) < b:=by omega
     refine dO @r1' @r2' ?_
     refine ih (a:=mid) (m:=t) (b:=b) (by omega) p1 rfl rfl rfl r1 r2 (by omega) B3 B4 p3 fun w5 d4 o1 o2 => ?_
     refine bA ?_
     exact fin _ _ o1 o2.1 o2.2.2 o2.2.1
    ·have r2':¬ (t:Int) < b:=by omega
     refine dO @r1' @r2' ?_
     refine fin _ _ p1 (permIn_refl _ _ _) p3 ?_
     rw [show b=t by omega]; exact B3
   ·have r1':¬ (mid:Int) < t:=by omega
    refine bu @r1' ?_
    refine fin _ _ p1 (permIn_refl _ _ _) p3 ?_
    rw [show mid=t by omega]; exact B4
theorem gN {a b:Nat} {d d':Array α} (h:SortedIn lt a b d) (he:∀ t,a≤t→t < b→d'[t]! = d[t]!):SortedIn lt a b d':=by
 intro i j hi hij hj
 rw [he i hi (by omega),he j (by omega) hj]
 exact h i j hi hij hj
def LP (lt:α→α→Bool) (bs n:Nat) (d:Array α):Prop:=∀ c,SortedIn lt (c * bs) (min (c * bs+bs) n) d
set_option maxHeartbeats 1000000 in
theorem zL (S:Srt prog recv lt N0 R) (hS:SWO lt) {tag:α→Nat} (hR:R w d) (ho:kN lt tag d)
    (hk:∀ w' d',R w' d'→Mg lt tag 0 d.size d d'→k (.tuple #[]) w'):ai prog 204 #[recv,.int .i64 d.size] k w:=by
 have hsm:=S.small hR
 obtain ⟨n,hn⟩:∃ n,n=d.size:=⟨_,rfl⟩
 rw [← hn] at hk hsm ⊢
 refine al [] func204 ?_
 refine bA ?_
 refine jf (fun a:Nat=>[(0,recv),(1,.int .i64 n),(4,.int .i64 20),(5,.int .i64 a)]) (fun a w=>∃ d1,R w d1∧PermIn 0 n d d1∧kN lt tag d1∧a≤n∧n < a+20∧∃ q,a=q * 20∧∀ c,c < q→SortedIn lt (c * 20) (c * 20+20) d1) (by kernel_rfl) (fun K hK => ?_) ?_
 ·refine bZ (fun x:Nat × Array α=>[(0,recv),(1,.int .i64 n),(4,.int .i64 20),(5,.int .i64 (x.1 * 20:Nat)),(6,.int .i64 (x.1 * 20+20:Nat))]) (fun x w=>R w x.2∧PermIn 0 n d x.2∧kN lt tag x.2∧x.1 * 20≤n∧∀ c,c < x.1→SortedIn lt (c * 20) (c * 20+20) x.2) (fun x _=>n - x.1 * 20) (0,d) (by kernel_rfl) ?_ ⟨hR,permIn_refl _ _ _,ho,by simp,by intro c h; simp only at h; omega⟩ ?_
  ·exact bU
  rintro K2 e2 ⟨q,d1⟩ w2 ⟨g1,g2,g3,g4,g5⟩ hK2
  simp only at g1 g2 g3 g4 g5
  have z1:=g2.1
  by_cases hb:q * 20+20≤n
  ·have hb':((q * 20+20:Nat):Int)≤n:=by omega
   refine bu @hb' ?_
   refine gu S g1 (by omega) (by omega) fun w3 r1 => ?_
   have hi:=insertionSort_holds hS d1 (q * 20) (q * 20+20) (by omega) (by omega)
   refine bA ?_
   refine hK2 _ _ (q+1,insertionSort lt d1 (q * 20) (q * 20+20)) ?_ ⟨r1,permIn_trans _ _ _ _ _ g2 (permIn_mono _ _ _ _ 0 n (by omega) (by omega) (by omega) hi.1),g3.insertion hS (by omega),by simp only; omega,fun c hc => ?_⟩ (by simp only; omega)
   ·exact bU
   ·simp only at hc
    rcases aH c q with h | h
    ·exact gN (g5 c h) fun t t1 t2=>hi.1.2.1 t (.inl (by omega))
    ·obtain rfl:c=q:=by omega
     exact hi.2
  ·have hb':¬ ((q * 20+20:Nat):Int)≤n:=by omega
   refine bu @hb' ?_
   refine hK _ _ (q * 20) ?_ ⟨d1,g1,g2,g3,g4,by omega,q,rfl,g5⟩
   exact bU
 rintro e1 a w1 ⟨d1,g1,g2,g3,g4,g5,q,rfl,g6⟩
 have z1:=g2.1
 refine bA ?_
 refine gu S g1 (by omega) (by omega) fun w2 r1 => ?_
 have hi:=insertionSort_holds hS d1 (q * 20) n (by omega) (by omega)
 have hB:LP lt 20 n (insertionSort lt d1 (q * 20) n):=by
  intro c
  rcases aH c q with h | h
  ·intro i j hi' hij hj
   exact (gN (g6 c h) fun t t1 t2=>hi.1.2.1 t (.inl (by omega))) i j hi' hij (by omega)
  ·rcases aH q c with h | h
   ·intro i j hi' hij hj; omega
   ·obtain rfl:c=q:=by omega
    intro i j hi' hij hj
    exact hi.2 i j hi' hij (by omega)
 refine bA ?_
 refine bZ (fun x:Nat × Array α=>[(0,recv),(1,.int .i64 n),(4,.int .i64 x.1)]) (fun x w=>R w x.2∧PermIn 0 n d x.2∧kN lt tag x.2∧0 < x.1∧x.1≤2 * n+20∧LP lt x.1 n x.2) (fun x _=>n - x.1) (20,insertionSort lt d1 (q * 20) n) (by kernel_rfl) ?_
  ⟨r1,permIn_trans _ _ _ _ _ g2 (permIn_mono _ _ _ _ 0 n (by omega) (by omega) (by omega) hi.1),g3.insertion hS (by omega),by simp,by simp,hB⟩ ?_
 ·exact bU
 clear g1 g2 g3 g4 g5 g6 hi hB r1 z1
 rintro K e ⟨bs,d2⟩ w3 ⟨g1,g2,g3,g4,g5,g6⟩ hK
 simp only at g1 g2 g3 g4 g5 g6
 by_cases hbs:bs < n
 ·have hbs':(bs:Int) < n:=by omega
  refine bu @hbs' ?_
  refine jf (fun a:Nat=>[(0,recv),(1,.int .i64 n),(4,.int .i64 bs),(5,.int .i64 a)]) (fun a w=>∃ d3,R w d3∧PermIn 0 n d d3∧kN lt tag d3∧a≤n∧n < a+2 * bs∧∃ q,a=q * (2 * bs)∧(∀ c,c < q→SortedIn lt (c * (2 * bs)) (c * (2 * bs)+2 * bs) d3)∧(∀ c,2 * q≤c→SortedIn lt (c * bs) (min (c * bs+bs) n) d3)) (by kernel_rfl) (fun K2 hK2 => ?_) ?_
  ·refine bZ (fun x:Nat × Array α=>[(0,recv),(1,.int .i64 n),(4,.int .i64 bs),(5,.int .i64 (x.1 * (2 * bs):Nat)),(6,.int .i64 (x.1 * (2 * bs)+2 * bs:Nat))]) (fun x w=>R w x.2∧PermIn 0 n d x.2∧kN lt tag x.2∧x.1 * (2 * bs)≤n∧(∀ c,c < x.1→SortedIn lt (c * (2 * bs)) (c * (2 * bs)+2 * bs) x.2)∧(∀ c,2 * x.1≤c→SortedIn lt (c * bs) (min (c * bs+bs) n) x.2)) (fun x _=>n - x.1 * (2 * bs)) (0,d2) (by kernel_rfl) ?_ ⟨g1,g2,g3,by simp,by intro c h; simp only at h; omega,fun c _=>g6 c⟩ ?_
   ·exact bU
   rintro K3 e3 ⟨q,d3⟩ w4 ⟨o1,o2,o3,o4,o5,o6⟩ hK3
   simp only at o1 o2 o3 o4 o5 o6
   have z3:=o2.1
   obtain ⟨A,hA⟩:∃ A,A=q * (2 * bs):=⟨_,rfl⟩
   have hA2:(2 * q) * bs=A:=by rw [hA,Nat.mul_comm 2 q,Nat.mul_assoc]
   have hA3:(2 * q+1) * bs=A+bs:=by rw [Nat.add_mul,hA2,Nat.one_mul]
   have hA4:(q+1) * (2 * bs)=A+2 * bs:=by rw [Nat.add_mul,hA,Nat.one_mul]
   rw [← hA] at o4
   simp only [← hA]
   by_cases hb:A+2 * bs≤n
   ·have hb':((A+2 * bs:Nat):Int)≤n:=by omega
    refine bu @hb' ?_
    have s1:=o6 (2 * q) (aF _)
    have s2:=o6 (2 * q+1) (Nat.le_succ _)
    rw [hA2,Nat.min_eq_left (by omega)] at s1
    rw [hA3,Nat.min_eq_left (by omega)] at s2
    refine oG S hS (2 * bs+1) (a:=A) (m:=A+bs) (b:=A+2 * bs) (by omega) o1 rfl (by omega) rfl (by omega) (by omega) (by omega) s1 (by rw [show A+2 * bs=A+bs+bs by omega]; exact s2) o3 fun w5 d4 p1 p2 => ?_
    refine bA ?_
    have far:∀ t,t < A∨A+2 * bs≤t→d4[t]! = d3[t]! := p2.1.2.1
    refine hK3 _ _ (q+1,d4) ?_ ⟨p1,permIn_trans _ _ _ _ _ o2 (permIn_mono _ _ _ _ 0 n (by omega) (by omega) (by omega) p2.1),p2.2.2,by simp only; omega,fun c hc => ?_,fun c hc => ?_⟩ (by simp only; omega)
    ·simp only [hA4]
     exact bU
    ·simp only at hc
     rcases aH c q with h | h
     ·have:(c+1) * (2 * bs)≤q * (2 * bs):=bO _ h
      rw [Nat.add_mul,Nat.one_mul,← hA] at this
      exact gN (o5 c h) fun t t1 t2=>far t (.inl (by omega))
     ·obtain rfl:c=q:=by omega
      rw [← hA]; exact p2.2.1
    ·simp only at hc
     have:(2 * (q+1)) * bs≤c * bs:=bO _ hc
     rw [show 2 * (q+1)=2 * q+2 by omega,Nat.add_mul,hA2] at this
     exact gN (o6 c (by omega)) fun t t1 t2=>far t (.inr (by omega))
   ·have hb':¬ ((A+2 * bs:Nat):Int)≤n:=by omega
    refine bu @hb' ?_
    refine hK2 _ _ A ?_ ⟨d3,o1,o2,o3,o4,by omega,q,hA,o5,o6⟩
    exact bU
  rintro e3 A w4 ⟨d3,o1,o2,o3,o4,o7,q,hA,o5,o6⟩
  have z3:=o2.1
  have hA2:(2 * q) * bs=A:=by rw [hA,Nat.mul_comm 2 q,Nat.mul_assoc]
  have hA3:(2 * q+1) * bs=A+bs:=by rw [Nat.add_mul,hA2,Nat.one_mul]
  have fin:∀ w5 d4 e4,gm e4 [(0,recv),(1,Value.int IntKind.i64 ↑n),(4,Value.int IntKind.i64 ((bs:Int) * 2))]→R w5 d4→PermIn A n d3 d4→kN lt tag d4→SortedIn lt A n d4→K e4 w5:=by
   intro w5 d4 e4 he p1 p2 p3 p4
   refine hK _ _ (bs * 2,d4) ?_ ⟨p1,permIn_trans _ _ _ _ _ o2 (permIn_mono _ _ _ _ 0 n (by omega) (by omega) (by omega) p2),p3,by simp only; omega,by simp only; omega,fun c => ?_⟩ (by simp only; omega)
   ·simpa using he
   ·show SortedIn lt (c * (bs * 2)) (min (c * (bs * 2)+bs * 2) n) d4
    rcases aH c q with h | h
    ·have:(c+1) * (2 * bs)≤q * (2 * bs):=bO _ h
     rw [Nat.add_mul,Nat.one_mul,← hA] at this
     have hs:SortedIn lt (c * (2 * bs)) (c * (2 * bs)+2 * bs) d4:=gN (o5 c h) fun t t1 t2=>p2.2.1 t (.inl (by omega))
     rw [Nat.mul_comm bs 2]
     intro i j hi hij hj
     exact hs i j hi hij (by omega)
    ·rw [Nat.mul_comm bs 2]
     have h2:q * (2 * bs)≤c * (2 * bs):=bO _ h
     rw [← hA] at h2
     intro i j hi hij hj
     exact p4 i j (by omega) hij (by omega)
  have s1:=o6 (2 * q) (aF _)
  have s2:=o6 (2 * q+1) (Nat.le_succ _)
  rw [hA2] at s1
  rw [hA3] at s2
  by_cases hm:A+bs < n
  ·have hm':(A:Int)+bs < n:=by omega
   refine bu @hm' ?_
   rw [Nat.min_eq_left (by omega)] at s1
   rw [Nat.min_eq_right (by omega)] at s2
   refine oG S hS (2 * bs+1) (a:=A) (m:=A+bs) (b:=n) (by omega) o1 rfl (by omega) rfl (by omega) hm (by omega) s1 s2 o3 fun w5 d4 p1 p2 => ?_
   refine bA ?_
   refine fin _ _ _ ?_ p1 p2.1 p2.2.2 p2.2.1
   exact bU
  ·have hm':¬ (A:Int)+bs < n:=by omega
   refine bu @hm' ?_
   rw [Nat.min_eq_right (by omega)] at s1
   refine fin _ _ _ ?_ o1 (permIn_refl _ _ _) o3 s1
   exact bU
 ·have hbs':¬ (bs:Int) < n:=by omega
  refine bu @hbs' ?_
  refine hk _ _ g1 ⟨g2,?_,g3⟩
  have:=g6 0
  rw [Nat.zero_mul,Nat.min_eq_right (by omega)] at this
  exact this
theorem rX (S : Srt prog recv lt N0 R) (hS : SWO lt) {tag : α → Nat} (hR : R w d) (ho : kN lt tag d) (hlen : ∀ {w d} {k : aq}, R w d → k (.int .i64 d.size) w → cQ prog recv "Len" #[] k w)
    (hk:∀ w' d',R w' d'→Mg lt tag 0 d.size d d'→k (.tuple #[]) w'):ai prog 200 #[recv] k w:=by
 refine al [] func200 ?_
 refine bA ?_
 refine hlen hR ?_
 refine bA ?_
 refine zL S hS hR ho fun w2 d2 h1 h2 => ?_
 refine bA ?_
 exact hk _ _ h1 h2
end
end Go.Proofs
end
