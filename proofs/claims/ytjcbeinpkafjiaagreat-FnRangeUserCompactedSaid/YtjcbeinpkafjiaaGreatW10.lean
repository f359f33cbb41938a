/- Parts of the proof: Co, Tr. -/
import Derived.Test.YtjcbeinpkafjiaaGreatW09
set_option linter.all false
set_option maxRecDepth 10000
section
namespace Go.E
open Go Go.Sort Go.Proofs.Tryz
theorem GA (a:Nat):a &&& 255=a % 256:=by
 have:=Nat.and_two_pow_sub_one_eq_mod a 8
 simpa using this
theorem aA {w:World} {b o:Nat} {c:Array Value} {t:TypeId} (h:w.heap.size≤b) (h2:b < w.heap.size+1):(w.alloc (.cells c t)).cell? ⟨b,o,none⟩=c[o]? := by
 obtain rfl:b=w.heap.size:=by omega
 exact World.cell?_alloc_new w c t o
def KR.v (x:KR):Value := .agg [.int .u64 x.k.tr,x.sv,x.vv].toArray
theorem KR.good.form {d:World} {x:KR} (h:x.good d):∃ a n b m,x.sv = .slice a x.k.suf.length n∧x.vv = .slice b x.k.val.length m:=by
 obtain ⟨a,n,e⟩:=ak h.2.1
 obtain ⟨b,m,e2⟩:=ak h.2.2
 exact ⟨a,n,b,m,e,e2⟩
theorem Keep.tr {M M1:Nat→Nat→Prop} {w w1 w2:World} (h:Keep M w w1) (h2:Keep M1 w1 w2) (hm:∀ b o,b < w.heap.size→M1 b o→M b o):Keep M w w2 where
 size:=ai h.size h2.size
 cell b o hb hn:=by rw [h2.cell b o (aI hb h.size) fun h1=>hn (hm b o hb h1),h.cell b o hb hn]
 frozen b o hb:=by rw [h2.frozen b o (aI hb h.size),h.frozen b o hb]
 block b hb hn:=by rw [h2.block b (aI hb h.size) fun o h1=>hn o (hm b o hb h1),h.block b hb hn]
 st:=⟨h2.st.1.trans h.st.1,h2.st.2.1.trans h.st.2.1,h2.st.2.2.trans h.st.2.2⟩
end Go.E
namespace Go.Proofs
open Go Go.E Go.Sort Go.Proofs.Tryz
section
variable {k:au} {d w:World}
theorem wN {x:KR} (h:x.good d) (hk:∀ w',bj w w'→k (.int .u8 (bI x.k.tr)) w'):aX prog 140 #[x.v] k w:=by
 obtain ⟨a,n,b,m,e1,e2⟩:=h.form
 have ht:=h.1
 unfold KR.v
 rw [e1,e2]
 have e:∀ {t:TypeId} {xo yo:Operand} {q:Value→Prop},dC prog .and t xo yo (.int .u64 x.k.tr) (.int .u64 255) q=q (.int .u64 (x.k.tr % 256:Nat)):=by
  intro t xo yo q
  have:=pS (P:=prog) (t:=t) (xo:=xo) (yo:=yo) (q:=q) (a:=x.k.tr) (b:=255) ht (by decide)
  rw [GA] at this
  exact this
 refine ae [.tmp 2] func140 ?_
 refine bf @e ?_
 have e8:IntKind.u8.wrap ((x.k.tr % 256:Nat):Int)=(bI x.k.tr:Nat):=by
  unfold bI
  have:x.k.tr % 256 < 256:=Nat.mod_lt _ (by decide)
  generalize x.k.tr % 256=m at this
  simp [IntKind.wrap,IntKind.bits,IntKind.signed]
  omega
 rw [e8]
 exact hk _ (aM _)
theorem yZ {x:KR} (h:x.good d) (hk:∀ w',bj w w'→k (.int .u64 (x.k.tr / 256:Nat)) w'):aX prog 147 #[x.v] k w:=by
 obtain ⟨a,n,b,m,e1,e2⟩:=h.form
 unfold KR.v
 rw [e1,e2]
 have h8:(0:Int)≤8:=by decide
 have e:=Am (a:=x.k.tr) (s:=8) (n:=8) (m:=256) rfl rfl
 refine ae [.tmp 2] func147 ?_
 simp (disch:=first | exact dZ | fail) only [go_sem,fW h8,e]
 exact hk _ (aM _)
theorem tC {x:KR} {snap:Nat} (h:x.good d) (hs:snap < 18446744073709551616) (hk:∀ w',bj w w'→k (.bool (ir snap x.k.tr)) w'):aX prog 139 #[x.v,.int .u64 snap] k w:=by
 obtain ⟨a,n,b,m,e1,e2⟩:=h.form
 have hv:x.v = .agg [.int .u64 x.k.tr,.slice a x.k.suf.length n,.slice b x.k.val.length m].toArray:=by unfold KR.v; rw [e1,e2]
 rw [hv]
 have ht:=h.1
 have e:∀ {t:TypeId} {xo yo:Operand} {q:Value→Prop},dC prog .and t xo yo (.int .u64 (x.k.tr / 256:Nat)) (.int .u64 36028797018963968) q=q (.int .u64 (x.k.tr / 256 &&& 36028797018963968:Nat)):=by
  intro t xo yo q
  exact pS (P:=prog) (t:=t) (xo:=xo) (yo:=yo) (q:=q) (a:=x.k.tr / 256) (b:=36028797018963968) (by omega) (by decide)
 refine ae [.tmp 4] func139 ?_
 refine an ?_
 rw [← hv]
 refine yZ h fun w2 x2 => ?_
 have x3:bj w w2:=(aM _).trans x2
 by_cases hl:x.k.tr / 256 < snap
 ·have hl':((x.k.tr / 256:Nat):Int) < snap:=by omega
  refine bf @hl' ?_
  have hv:ir snap x.k.tr=true:=by unfold ir; simp [hl]
  rw [hv] at hk
  exact hk _ x3
 ·have hl':¬ ((x.k.tr / 256:Nat):Int) < snap:=by omega
  refine dU @hl' @e ?_
  have hv:ir snap x.k.tr=(((x.k.tr / 256 &&& 36028797018963968:Nat):Int) != 0):=by
   unfold ir
   rw [bF]
   simp [hl]
  rw [hv] at hk
  exact hk _ x3
end
end Go.Proofs
namespace Go.E
open Go Go.Sort Go.Proofs Go.Proofs.Tryz
theorem Aw (snap:Nat) (x:KR) (l:List KR):jG snap (x :: l)=if ir snap x.k.tr then (if bI x.k.tr=19 then [] else x :: jG snap l) else jG snap l:=rfl
theorem td (snap:Nat) (x:KR) (l:List KR):gP snap (x :: l)=if ir snap x.k.tr then (if bI x.k.tr=19 then some x else gP snap l) else gP snap l:=rfl
def Hx (w:World) (g:Nat) (l:List KR):Prop:=∀ i x,l[i]? = some x→w.cell? ⟨g,i * 3,none⟩=some (.int .u64 x.k.tr)∧w.cell? ⟨g,i * 3+1,none⟩=some x.sv∧w.cell? ⟨g,i * 3+2,none⟩=some x.vv
theorem Hx.keep {w w2:World} {g:Nat} {l:List KR} {M:Nat→Nat→Prop} (h:Hx w g l) (hk:Keep M w w2) (hm:∀ o,¬ M g o):Hx w2 g l:=fun i x hx=>by
 obtain ⟨h1,h2,h3⟩:=h i x hx
 exact ⟨hk.some h1 (hm _),hk.some h2 (hm _),hk.some h3 (hm _)⟩
structure KOwn (d w:World) (Hb ho:Nat) (v:Value) (l:List KR):Prop where
 hd:w.cell? ⟨Hb,ho,none⟩=some v
 own:w.ownsRow 0 256 3 v l.length (flat l)
 good:∀ x ∈ l,x.good d
def iJ (Hb ho:Nat) (v:Value):Nat→Nat→Prop:=fun b x=>b=Hb∧x=ho∨v.ownBlock=some b
def cP (w:World) (v v2:Value):Prop:=∀ g,v2.ownBlock=some g→v.ownBlock=some g∨w.heap.size≤g
theorem cP.refl (w:World) (v:Value):cP w v v:=fun _ h => .inl h
theorem cP.trans {w w2:World} {v v2 v3:Value} (h:cP w v v2) (h2:cP w2 v2 v3) (hs:w.heap.size≤w2.heap.size):cP w v v3:=fun g hg=>by
 rcases h2 g hg with h3 | h3
 ·exact h g h3
 ·exact .inr (by omega)
theorem cP.m {w:World} {Hb ho:Nat} {v v2:Value} (h:cP w v v2) (b x:Nat) (hb:b < w.heap.size) (hm:iJ Hb ho v2 b x):iJ Hb ho v b x:=by
 rcases hm with hm | hm
 ·exact .inl hm
 ·rcases h b hm with h1 | h1
  ·exact .inr h1
  ·omega
theorem gI {d:World} {x:KR} (h:x.good d):∀ u ∈ x.cells,u.oneCell'=true:=by
 obtain ⟨a,n,b,m,e1,e2⟩:=h.form
 intro u hu
 unfold KR.cells at hu
 rw [e1,e2] at hu
 simp only [al,List.not_mem_nil,or_false] at hu
 rcases hu with rfl | rfl | rfl <;> rfl
end Go.E
namespace Go.Proofs
open Go Go.E Go.Sort Go.Proofs.Tryz
section
variable {k:au} {d w:World}
theorem zl {Hb ho n c:Nat} {a:Option Addr} (h:w.cell? ⟨Hb,ho+1,none⟩=some (.slice a n c)) (hk:k (.int .i64 n) w):aX prog 270 #[.pointer (some ⟨Hb,ho,none⟩)] k w:=by
 refine ae [.tmp 2] func270 ?_
 refine bf @h ?_
 exact hk
theorem wO {Hb ho n c:Nat} {a:Option Addr} (h:w.cell? ⟨Hb,ho,none⟩=some (.slice a n c)) (hk:k (.int .i64 n) w):aX prog 278 #[.pointer (some ⟨Hb,ho,none⟩)] k w:=by
 refine ae [.tmp 2] func278 ?_
 refine bf @h ?_
 exact hk
theorem b7 (va:Option Addr) (i j c:Nat):(Value.slice va i c).ownBlock=(Value.slice va j c).ownBlock:=by
 rcases va with _ | ⟨b,o,s⟩
 ·rfl
 ·cases o <;> cases s <;> rfl
theorem GC {v:Value} {acc:List KR} {x:KR} {q:au} (o:w.ownsRow 0 256 3 v acc.length (flat acc)) (hg:x.good d) (hz:acc.length < 1000000)
    (hk:∀ a c w',w'.ownsRow 0 256 3 (.slice a (acc.length+1) c) (acc.length+1) (flat (acc++[x]))→Keep (fun b _=>v.ownBlock=some b) w w'→cP w v (.slice a (acc.length+1) c)→q (.slice a (acc.length+1) c) w') :
    lY prog #[110,110] 110 #[v,.slice (some ⟨w.heap.size,0,none⟩) 1 1] q (w.alloc (.cells x.cells.toArray 256)).drew:=by
 obtain ⟨w4,hw4⟩:∃ w4,w4=w.alloc (.cells x.cells.toArray 256):=⟨_,rfl⟩
 rw [← hw4]
 have k4:bj w w4:=by rw [hw4]; exact aM _
 simp only [lY]
 refine lW (m:=1) (news:=x.cells) rw110 ((aT o k4 (fun _ _ _ h=>h)).drew) (by rfl) ⟨rfl,?_⟩ (gI hg) ?_ fun v5 w5 o5 k5 n5 _ => ?_
 ·intro j u hj
  rw [df rfl,Nat.zero_add,hw4]
  rw [show (w.alloc (Obj.cells x.cells.toArray 256)).drew.cell? ⟨w.heap.size,j,none⟩=(w.alloc (Obj.cells x.cells.toArray 256)).cell? ⟨w.heap.size,j,none⟩ from rfl]
  refine an ?_
  simpa using hj
 ·omega
 obtain ⟨a5,cap5,e5,_⟩:=ao o5
 subst e5
 have fl:flat acc++x.cells=flat (acc++[x]):=by rw [gv]; rfl
 rw [fl] at o5
 have kk5:Keep (fun b _=>v.ownBlock=some b) w4 w5:=(Keep.refl _ w4).drew.trans (k5 _ fun b o hb _=>hb)
 refine hk a5 cap5 w5 o5 (k4.keep.trans kk5) fun g hg => ?_
 rcases n5 with h | ⟨g2,h,h',_⟩
 ·exact .inl (by rw [← h]; exact hg)
 ·rw [h] at hg
  simp only [aL] at hg
  subst hg
  have:w4.drew.heap.size=w4.heap.size:=rfl
  have:=k4.size
  exact .inr (by omega)
theorem wP {Hb ho:Nat} {v:Value} {l:List KR} {tag:KR→Nat} (h:KOwn d w Hb (ho+1) v l) (hinc:cN d w) (hne:∀ g,v.ownBlock=some g→g≠Hb∧cx d g) (hc:w.cell? ⟨Hb,ho,none⟩=some (.func (.func 102) #[] #[])) (hO:kW vP tag l.toArray) (hz:l.length < 1000000)
    (hk:∀ w' l',KOwn d w' Hb (ho+1) v l'→Mg vP tag 0 l.length l.toArray l'.toArray→l'.length=l.length→Keep (fun b _=>v.ownBlock=some b) w w'→k (.tuple #[]) w') :
    aX prog 141 #[.iface 252 (.pointer (some ⟨Hb,ho,none⟩))] k w:=by
 have hHb:=aD hc
 rcases cR h.own with ⟨rfl,h0,hf⟩ | ⟨g,cap,rfl,hcap,hg⟩
 ·have hl:l=[]:=aZ.1 h0
  subst hl
  have S:Srt prog (.iface 252 (.pointer (some ⟨Hb,ho,none⟩))) vP w.heap.size (fun w' (b:Array KR)=>b = #[]∧bj w w'):=by
   refine ⟨fun h=>h.2.size,fun h=>by rw [h.1]; simp,fun h hi _ _ => ?_,fun h hi _ _ => ?_,fun ob h=>⟨h.1,h.2.alloc ob⟩,fun h hb=>⟨h.1,h.2.set (fun hlt=>by omega)⟩,fun h=>⟨h.1,h.2.drew⟩⟩
   ·rw [h.1] at hi; simp at hi
   ·rw [h.1] at hi; simp at hi
  refine rb S ze (tag:=tag) (d := #[]) ⟨rfl,bj.refl w⟩ hO (fun {w2 d2 k2} hR hk2 => ?_) fun w' d' h1 h2 => ?_
  ·rw [Tryz.iv252_Len]
   obtain ⟨rfl,hx⟩:=hR
   exact zl (hx.cell h.hd) hk2
  ·obtain ⟨rfl,hx⟩:=h1
   exact hk w' [] ⟨hx.cell h.hd,aT h.own hx (fun _ _ _ h=>h),h.good⟩ h2 rfl hx.keep
 ·obtain ⟨hgH,hgo⟩:=hne g rfl
  have K0:KRow d w w Hb (ho+1) g cap l.toArray:=⟨by simpa using h.hd,by simpa using h.own,by simpa using h.good,Keep.refl _ w,hinc,hg,hHb,Ne.symm hgH,hgo⟩
  refine rb (F7 (d:=d) (w0:=w) (g:=g) (cap:=cap) hc) ze (tag:=tag) (d:=l.toArray) ⟨K0,by simpa using hz⟩ hO (fun {w2 d2 k2} hR hk2 => ?_) fun w' d' h1 h2 => ?_
  ·rw [Tryz.iv252_Len]
   exact zl hR.1.hd hk2
  ·have hsz:d'.size=l.length:=by have:=h2.1.1; simpa using this
   have e:=h1.1.own
   have e2:=h1.1.hd
   rw [hsz] at e e2
   refine hk w' d'.toList ⟨e2,by simpa [hsz] using e,h1.1.good⟩ (by simpa using h2) (by simpa using hsz) (h1.1.keep.mono fun b o _ hb=>by rw [hb]; rfl)
theorem mW {Hb ho:Nat} {v:Value} {l:List KR} (h:KOwn d w Hb ho v l) (hinc:cN d w) (hne:∀ g,v.ownBlock=some g→g≠Hb∧cx d g) (hz:l.length < 1000000)
    (hk:∀ w' l',KOwn d w' Hb ho v l'→l'.Perm l→l'.Pairwise (fun x y=>y.k.tr≤x.k.tr)→Keep (fun b _=>v.ownBlock=some b) w w'→k (.tuple #[]) w') :
    aX prog 122 #[.iface 263 (.pointer (some ⟨Hb,ho,none⟩))] k w:=by
 have hHb:=aD h.hd
 rcases cR h.own with ⟨rfl,h0,hf⟩ | ⟨g,cap,rfl,hcap,hg⟩
 ·have hl:l=[]:=aZ.1 h0
  subst hl
  have S:Srt prog (.iface 263 (.pointer (some ⟨Hb,ho,none⟩))) EB w.heap.size (fun w' (b:Array KR)=>b = #[]∧bj w w'):=by
   refine ⟨fun h=>h.2.size,fun h=>by rw [h.1]; simp,fun h hi _ _ => ?_,fun h hi _ _ => ?_,fun ob h=>⟨h.1,h.2.alloc ob⟩,fun h hb=>⟨h.1,h.2.set (fun hlt=>by omega)⟩,fun h=>⟨h.1,h.2.drew⟩⟩
   ·rw [h.1] at hi; simp at hi
   ·rw [h.1] at hi; simp at hi
  refine kB S zd (d := #[]) ⟨rfl,bj.refl w⟩ (fun {w2 d2 k2} hR hk2 => ?_) fun w' d' h1 h2 h3 => ?_
  ·rw [Tryz.iv263_Len]
   obtain ⟨rfl,hx⟩:=hR
   exact wO (hx.cell h.hd) hk2
  ·obtain ⟨rfl,hx⟩:=h1
   exact hk w' [] ⟨hx.cell h.hd,aT h.own hx (fun _ _ _ h=>h),h.good⟩ (List.Perm.refl _) List.Pairwise.nil hx.keep
 ·obtain ⟨hgH,hgo⟩:=hne g rfl
  have K0:KRow d w w Hb ho g cap l.toArray:=⟨by simpa using h.hd,by simpa using h.own,by simpa using h.good,Keep.refl _ w,hinc,hg,hHb,Ne.symm hgH,hgo⟩
  refine kB (Ee (d:=d) (w0:=w) (Hb:=Hb) (ho:=ho) (g:=g) (cap:=cap)) zd (d:=l.toArray) ⟨K0,by simpa using hz⟩ (fun {w2 d2 k2} hR hk2 => ?_) fun w' d' h1 h2 h3 => ?_
  ·rw [Tryz.iv263_Len]
   exact wO hR.1.hd hk2
  ·have hsz:d'.size=l.length:=by have:=h2.1; simpa using this
   have e:=h1.1.own
   have e2:=h1.1.hd
   rw [hsz] at e e2
   refine hk w' d'.toList ⟨e2,by simpa [hsz] using e,h1.1.good⟩ (by simpa using dp h2 (aE _)) ?_ (h1.1.keep.mono fun b o _ hb=>by rw [hb]; rfl)
   rw [bK]
   intro i j hi hj hij
   simp only [Array.length_toList] at hi hj
   have s:=h3 i j (aP _) hij (by simp; omega)
   rw [aH d' i hi,aH d' j hj] at s
   simp only [EB,decide_eq_false_iff_not] at s
   simp only [Array.getElem_toList]
   omega
set_option maxHeartbeats 1000000 in
theorem og {Hb ho gk snap cap:Nat} {ka:Option Addr} {vs:Value} {l:List KR} (hc:w.cell? ⟨Hb,ho,none⟩=some (.func (.func 102) #[] #[])) (ho0:KOwn d w Hb (ho+1) vs []) (hf:∀ x,w.frozen? ⟨Hb,x,none⟩=false)
    (hne:∀ g,vs.ownBlock=some g→g≠Hb∧g≠gk∧cx d g) (hgk:gk≠Hb) (hoH:d.cell? ⟨Hb,ho+1,none⟩=none) (hkv:0 < l.length→ka=some ⟨gk,0,none⟩) (hka:Hx w gk l) (hkl:0 < l.length→gk < w.heap.size) (hgood:∀ x ∈ l,x.good d) (hinc:cN d w) (hd:DK l) (hl:l.length < 100000) (hs:snap < 18446744073709551616)
    (hk:∀ w' vs' r,KOwn d w' Hb (ho+1) vs' (r++(gP snap l).toList)→CoR snap l r→r.length≤l.length→Keep (iJ Hb (ho+1) vs) w w'→cP w vs vs'→k .nilIface w') :
    aX prog 124 #[.func (.func 103) #[] #[],.pointer (some ⟨Hb,ho,none⟩),.int .u64 snap,.slice ka l.length cap] k w:=by
 refine ae [.tmp 8] func124 ?_
 refine an ?_
 refine iq (fun di:Int=>[(0,.func (.func 103) #[] #[]),(1,.pointer (some ⟨Hb,ho,none⟩)),(3,.slice ka l.length cap),(9,.int .i64 di)]) (fun di w1=>∃ v1,KOwn d w1 Hb (ho+1) v1 (jG snap l)∧Keep (iJ Hb (ho+1) vs) w w1∧cP w vs v1∧((di = -1∧gP snap l=none)∨∃ i:Nat,di=i∧l[i]? = gP snap l∧i < l.length)) (by kernel_rfl) (fun K hK => ?_) ?_
 ·refine bR (fun i:Nat=>[(0,.func (.func 103) #[] #[]),(1,.pointer (some ⟨Hb,ho,none⟩)),(2,.int .u64 snap),(3,.slice ka l.length cap),(9,.int .i64 (-1)),(16,.int .i64 l.length),(17,.int .i64 i)])
    (fun i w1=>∃ v1 acc,KOwn d w1 Hb (ho+1) v1 acc∧Keep (iJ Hb (ho+1) vs) w w1∧cP w vs v1∧jG snap l=acc++jG snap (l.drop i)∧gP snap l=gP snap (l.drop i)∧i≤l.length∧acc.length≤i) (fun i _=>l.length - i) 0 (by kernel_rfl) ?_ ⟨vs,[],ho0,Keep.refl _ w,cP.refl w vs,rfl,rfl,aP _,aP _⟩ ?_
  ·exact bO
  rintro K2 e2 i w1 ⟨v1,acc,h1,h2,h3,h4,h5,h6,h7⟩ hK2
  by_cases hi:i < l.length
  ·have hi':(i:Int) < l.length:=by omega
   obtain ⟨x,hx⟩:∃ x,l[i]? = some x:=⟨l[i],aC hi⟩
   have hxm:x ∈ l:=aK hx
   have hg:=hgood x hxm
   obtain ⟨a,n,b,m,q1,q2⟩:=hg.form
   have hv:x.v = .agg [.int .u64 x.k.tr,.slice a x.k.suf.length n,.slice b x.k.val.length m].toArray:=by unfold KR.v; rw [q1,q2]
   have hgm:∀ o,¬ iJ Hb (ho+1) vs gk o:=by
    rintro o (⟨h,_⟩ | h)
    ·exact hgk h
    ·exact (hne _ h).2.1 rfl
   obtain ⟨c1,c2,c3⟩:=(hka.keep h2 hgm) i x hx
   rw [q1] at c2
   rw [q2] at c3
   have hka':=hkv (by omega)
   subst hka'
   have hdrop:l.drop i=x :: l.drop (i+1):=by
    rw [cw hi]
    congr 1
    rw [aC hi] at hx
    exact bn hx
   rw [hdrop,Aw] at h4
   rw [hdrop,td] at h5
   refine bf @hi' ?_
   refine ay (sq [0,1,2,3,4,5,6,7,8] (.read 9 (sq [10,11,12,13,14] (.read 15 (sq [16,17] .done))))) ?_
   refine eA @c1 @c2 @c3 ?_
   rw [← hv]
   refine tC hg hs fun w2 x2 => ?_
   have x2:bj w1 w2:=(Keep.refl _ w1).drew.trans x2
   have x2':=x2
   cases hvis:ir snap x.k.tr with
   | false =>
    rw [hvis,if_neg (by simp)] at h4 h5
    refine an ?_
    refine hK2 _ _ (i+1) ?_ ⟨v1,acc,⟨x2.cell h1.hd,aT h1.own x2 (fun _ _ _ h=>h),h1.good⟩,h2.trans x2.keep,h3,h4,h5,by omega,by omega⟩ (by omega)
    exact bO
   | true =>
    rw [hvis,if_pos rfl] at h4 h5
    have c1:=x2.cell c1
    have c2:=x2.cell c2
    have c3:=x2.cell c3
    refine eA @c1 @c2 @c3 ?_
    rw [← hv]
    refine wN hg fun w3 x3 => ?_
    have x3':bj w1 w3:=x2'.trans x3
    by_cases h9:bI x.k.tr=19
    ·have h9':(((bI x.k.tr:Nat):Int) == 19)=true:=by rw [h9]; rfl
     rw [if_pos h9] at h4 h5
     refine bf @h9' ?_
     refine hK _ _ (i:Int) ?_ ⟨v1,?_,?_,h3,.inr ⟨i,rfl,by rw [h5,hx],hi⟩⟩
     ·exact bO
     ·rw [h4,av]
      exact ⟨x3'.cell h1.hd,aT h1.own x3' (fun _ _ _ h=>h),h1.good⟩
     ·exact h2.trans x3'.keep
    ·have h9':(((bI x.k.tr:Nat):Int) == 19)=false:=by
       rw [beq_eq_false_iff_ne]; omega
     rw [if_neg h9] at h4 h5
     have c1:=x3.cell c1
     have c2:=x3.cell c2
     have c3:=x3.cell c3
     have c4:=x3'.cell h1.hd
     have hHb:=aD c4
     have o3:=aT h1.own x3' (fun _ _ _ h=>h)
     have fH:∀ x,w3.frozen? ⟨Hb,x,none⟩=false:=fun x=>by rw [x3'.frozen Hb x (aD h1.hd),h2.frozen Hb x (aD hc)]; exact hf x
     have hvH:∀ g,v1.ownBlock=some g→g≠Hb:=fun g hg=>by
      rcases h3 g hg with h | h
      ·exact (hne g h).1
      ·have:=aD hc; omega
     refine bf @h9' ?_
     refine ay (sq [0,1,2,3] (.read 4 (sq [5,6,7] (.read 8 (.eff 9 [4] (.eff 10 [] (sq [11,12] (.eff 13 [] .done)))))))) ?_
     refine fI @c1 @c2 @c3 @c4 ?_
     obtain ⟨w4,hw4⟩:∃ w4,w4=w3.alloc (.cells x.cells.toArray 256):=⟨_,rfl⟩
     have hcells : #[Value.int IntKind.u64 x.k.tr,Value.slice a x.k.suf.length n,Value.slice b x.k.val.length m]=x.cells.toArray:=by unfold KR.cells; rw [q1,q2]
     rw [hcells,← hw4]
     have k4:bj w3 w4:=by rw [hw4]; exact aM _
     have hz4:w4.heap.size=w3.heap.size+1:=by rw [hw4,World.size_alloc]
     simp only [lY]
     refine lW (m:=1) (news:=x.cells) rw110 ((aT o3 k4 (fun _ _ _ h=>h)).drew) (by rfl) ⟨rfl,?_⟩ (gI hg) ?_ fun v5 w5 o5 k5 n5 _ => ?_
     ·intro j u hj
      rw [df rfl,Nat.zero_add,hw4]
      rw [show (w3.alloc (Obj.cells x.cells.toArray 256)).drew.cell? ⟨w3.heap.size,j,none⟩=(w3.alloc (Obj.cells x.cells.toArray 256)).cell? ⟨w3.heap.size,j,none⟩ from rfl]
      refine an ?_
      simpa using hj
     ·omega
     have kk5:Keep (fun b _=>v1.ownBlock=some b) w4 w5:=(Keep.refl _ w4).drew.trans (k5 _ fun b o hb _=>hb)
     have k15:Keep (fun b _=>v1.ownBlock=some b) w1 w5:=(x3'.trans k4).keep.trans kk5
     have hvg:∀ g,v1.ownBlock=some g→g≠gk:=fun g hg=>by
      rcases h3 g hg with h | h
      ·exact (hne g h).2.1
      ·have:=hkl (by omega); omega
     have k35:Keep (fun b _=>v1.ownBlock=some b) w3 w5:=k4.keep.trans kk5
     have c1:=k35.some c1 (fun h=>hvg _ h rfl)
     have c2:=k35.some c2 (fun h=>hvg _ h rfl)
     have c3:=k35.some c3 (fun h=>hvg _ h rfl)
     have c4:=k35.some c4 (fun h=>hvH _ h rfl)
     have fH5:∀ x,w5.frozen? ⟨Hb,x,none⟩=false:=fun x=>by rw [k35.frozen Hb x hHb]; exact fH x
     have hxc:Value.agg x.cells.toArray = .agg [.int .u64 x.k.tr,.slice a x.k.suf.length n,.slice b x.k.val.length m].toArray:=by unfold KR.cells; rw [q1,q2]
     rw [hxc]
     obtain ⟨a5,cap5,e5,_⟩:=ao o5
     subst e5
     refine gq @c1 @c2 @c3 @c4 @fH5 ?_
     have fl:flat acc++x.cells=flat (acc++[x]):=by rw [gv]; rfl
     rw [fl] at o5
     obtain ⟨w6,hw6⟩:∃ w6,w6=w5.setCell ⟨Hb,ho+1,none⟩ (.slice a5 (acc.length+1) cap5):=⟨_,rfl⟩
     rw [← hw6]
     have k56:Keep (fun b o=>b=Hb∧o=ho+1) w5 w6:=by rw [hw6]; exact bW ⟨rfl,rfl⟩
     have n15:cP w1 v1 (.slice a5 (acc.length+1) cap5):=fun g hg=>by
      rcases n5 with h | ⟨g2,h,h',_⟩
      ·exact .inl (by rw [← h]; exact hg)
      ·rw [h] at hg
       simp only [aL] at hg
       subst hg
       have:w4.drew.heap.size=w4.heap.size:=rfl
       have:=k4.size
       have:=x3'.size
       exact .inr (by omega)
     have n05:=h3.trans n15 h2.size
     have k05:Keep (iJ Hb (ho+1) vs) w w5:=h2.tr k15 fun b o hb hm=>h3.m b o hb (.inr hm)
     refine hK2 _ _ (i+1) ?_ ⟨.slice a5 (acc.length+1) cap5,acc++[x],⟨?_,?_,?_⟩,k05.tr k56 fun b o hb hm => .inl hm,n05,?_,h5,by omega,by simp; omega⟩ (by omega)
     ·exact bO
     ·rw [hw6]; exact bk @c4
     ·rw [aJ]
      refine aT o5 k56 ?_
      intro g hg o he
      rcases n15 g hg with h | h
      ·exact hvH g h he.1
      ·have:=x3'.size; have:=aD h1.hd; omega
     ·intro y hy
      rcases aV.1 hy with h | h
      ·exact h1.good y h
      ·rw [aQ] at h; subst h; exact hg
     ·rw [h4,bX]; rfl
  ·have hi':¬ (i:Int) < l.length:=by omega
   obtain rfl:i=l.length:=by omega
   rw [List.drop_length] at h4 h5
   refine bf @hi' ?_
   refine hK _ _ (-1) ?_ ⟨v1,?_,h2,h3,.inl ⟨rfl,h5⟩⟩
   ·exact bO
   ·rw [h4,show jG snap []=[] from rfl,av]; exact h1
 rintro e1 di w1 ⟨v1,h1,h2,h3,hdi⟩
 have hv1:∀ g,v1.ownBlock=some g→g≠Hb∧cx d g∧(0 < l.length→g≠gk):=fun g hg=>by
  rcases h3 g hg with h | h
  ·exact ⟨(hne g h).1,(hne g h).2.2,fun _=>(hne g h).2.1⟩
  ·have:=aD hc
   exact ⟨by omega,hinc.out h,fun hl=>by have:=hkl hl; omega⟩
 have hinc1:cN d w1:=hinc.keep h2 fun b o hb=>by
  rcases hb with ⟨rfl,rfl⟩ | h
  ·exact hoH
  ·exact (hne b h).2.2 o
 have hc1:w1.cell? ⟨Hb,ho,none⟩=some (.func (.func 102) #[] #[]):=h2.some hc (by
  rintro (⟨_,h⟩ | h)
  ·omega
  ·exact (hne _ h).1 rfl)
 have hpl:(jG snap l).length≤l.length:=jX.length_le
 refine an ?_
 refine wP (tag:=fun x=>18446744073709551616 - x.k.tr) h1 hinc1 (fun g hg=>⟨(hv1 g hg).1,(hv1 g hg).2.1⟩) hc1 (F9 (snap:=snap) (l:=l) (by simp) hd fun x hx=>(hgood x hx).1) (by omega) fun w2 s h4 h5 h6 k2 => ?_
 have hcr:CoR snap l (ui none s):=by
  have:=F8 (snap:=snap) (l:=l) (a:=(jG snap l).toArray) (b:=s.toArray) (by simp) (by simpa using h5) fun x hx=>(hgood x hx).1
  simpa using this
 have fH2:∀ x,w2.frozen? ⟨Hb,x,none⟩=false:=fun x=>by rw [k2.frozen Hb x (aD h1.hd),h2.frozen Hb x (aD hc)]; exact hf x
 have h4H:=h4.hd
 have h4o:=h4.own
 obtain ⟨n,hn⟩:∃ n,n=s.length:=⟨_,rfl⟩
 have hnl:n≤l.length:=by omega
 rw [← hn] at h4o
 have hva:0 < n→∃ g c,v1 = .slice (some ⟨g,0,none⟩) n c:=by
  intro h0
  rcases cR h4o with ⟨_,h,_⟩ | ⟨g,c,h,_⟩
  ·omega
  ·exact ⟨g,c,h⟩
 obtain ⟨va,vcap,hv1e,hvcap,hvm⟩:=ao h4o
 subst hv1e
 have k02:Keep (iJ Hb (ho+1) vs) w w2:=h2.tr k2 fun b o hb hm=>h3.m b o hb (.inr hm)
 have z0:(0:Int).toNat=0:=rfl
 have zc:(0:Int)≤vcap:=by omega
 simp (disch:=first | exact dZ | fail) only [go_sem,h4H,qq Tryz.es110,z0,zc,fH2]
 obtain ⟨w3,hw3⟩:∃ w3,w3=w2.setCell ⟨Hb,ho+1,none⟩ (.slice va 0 vcap):=⟨_,rfl⟩
 rw [← hw3]
 have k23:Keep (fun b o=>b=Hb∧o=ho+1) w2 w3:=by rw [hw3]; exact bW ⟨rfl,rfl⟩
 have h3H:w3.cell? ⟨Hb,ho+1,none⟩=some (.slice va 0 vcap):=by rw [hw3]; exact bk @h4H
 have o3:w3.ownsRow 0 256 3 (.slice va n vcap) n (flat s):=aT h4o k23 fun g hg o he=>(hv1 g hg).1 he.1
 refine bR (fun x:Nat × Value × Bool=>[(0,.func (.func 103) #[] #[]),(1,.pointer (some ⟨Hb,ho,none⟩)),(3,.slice ka l.length cap),(9,.int .i64 di),(11,.slice va n vcap),(12,x.2.1),(13,.bool x.2.2),(83,.int .i64 n),(84,.int .i64 x.1)])
  (fun x w'=>∃ c dd,w'.cell? ⟨Hb,ho+1,none⟩=some (.slice va (if x.2.2 then dd.length else 0) vcap)∧w'.ownsRow 0 256 3 (.slice va n vcap) n (flat c)∧(∀ y ∈ c,y.good d)∧c.length=n∧c.take dd.length=dd∧c.drop x.1=s.drop x.1∧dd.length≤x.1∧(x.2.2=false→dd.length=x.1)∧(x.2.2=true→dd.length < x.1) ∧
   ui none s=dd++ui (if x.1=0 then none else some s[x.1 - 1]!.k.suf) (s.drop x.1)∧(0 < x.1→eN d x.2.1 s[x.1 - 1]!.k.suf)∧Keep (iJ Hb (ho+1) (.slice va n vcap)) w2 w'∧x.1≤n)
  (fun x _=>n - x.1) (0,.slice none 0 0,false) (by kernel_rfl) ?_ ⟨s,[],h3H,o3,h4.good,hn.symm,rfl,rfl,aE _,fun _=>rfl,fun h=>by simp at h,rfl,fun h=>by simp at h,k23.mono fun b o _ h => .inl h,aP _⟩ ?_
 ·exact bO
 rintro K e2 ⟨i,pv,sh⟩ w4 ⟨c,dd,i1,i2,i3,i4,i5,i6,i7,i8,i9,i10,i11,i12,i13⟩ hK
 simp only at i1 i2 i3 i4 i5 i6 i7 i8 i9 i10 i11 i12 i13
 have fH4:∀ x,w4.frozen? ⟨Hb,x,none⟩=false:=fun x=>by rw [i12.frozen Hb x (aD h4H)]; exact fH2 x
 by_cases hi:i < n
 ·have hi':(i:Int) < n:=by omega
  obtain ⟨g,vcap',hvg⟩:=hva (by omega)
  simp only [aW,true_and] at hvg
  obtain ⟨rfl,rfl⟩:=hvg
  obtain ⟨x,hx⟩:∃ x,s[i]? = some x:=⟨s[i],aC (by omega)⟩
  have hx2:s[i]! = x:=by rw [getElem!_def,hx]
  have hcx:c[i]? = some x:=by
   have:=congrArg (fun l=>l[0]?) i6
   simpa [hx] using this
  have hg:=i3 x (aK hcx)
  obtain ⟨a,na,b,nb,q1,q2⟩:=hg.form
  obtain ⟨f1,f2,f3⟩:=jh hcx
  have c1:=bL i2 f1
  have c2:=bL i2 f2
  have c3:=bL i2 f3
  rw [q1] at c2
  rw [q2] at c3
  have hgH:g≠Hb:=(hv1 g rfl).1
  have hdrop:s.drop i=x :: s.drop (i+1):=by
   rw [cw (by omega)]
   congr 1
   rw [aC (by omega)] at hx
   exact bn hx
  have hinc4:cN d w4:=(hinc1.keep k2 fun b o hb=>(hv1 b hb).2.1 o).keep i12 fun b o hb=>by
   rcases hb with ⟨rfl,rfl⟩ | h
   ·exact hoH
   ·exact (hv1 b h).2.1 o
  have hd6:c.drop (i+1)=s.drop (i+1):=by
   have:=congrArg (List.drop 1) i6
   simpa [Nat.add_comm] using this
  by_cases h0:i=0
  ·subst h0
   have hsh:sh=false:=by
    cases sh with
    | false=>rfl
    | true=>have:=i9 rfl; omega
   subst hsh
   have hdd:dd=[]:=aZ.1 (by omega)
   subst hdd
   have z00:¬ (0:Int) < ((0:Nat):Int):=by decide
   refine gq @hi' @z00 @c1 @c2 @c3 ?_
   refine hK _ _ (1,.slice a x.k.suf.length na,false) ?_ ⟨c,[x],by simpa using i1,i2,i3,i4,?_,hd6,aE _,fun _=>rfl,fun h=>by simp at h,?_,fun _ => ?_,i12,by simp only; omega⟩ (by simp only; omega)
   ·exact bO
   ·have:c=x :: c.drop 1:=by
      cases c with
      | nil=>simp at hcx
      | cons y c=>simp at hcx; simp [hcx]
    rw [this]; rfl
   ·rw [i10,if_pos rfl,hdrop]
    simp [ui,hx2]
   ·simp only
    rw [show 1 - 1=0 from rfl,hx2,← q1]
    exact hg.2.1
  ·have h0':(0:Int) < i:=by omega
   rw [if_neg h0] at i10
   have i11:=i11 (by omega)
   refine gq @hi' @h0' @c1 @c2 @c3 ?_
   refine j0 (i11.inc hinc4) (by rw [← q1]; exact hg.2.1.inc hinc4) ?_
   by_cases he:s[i - 1]!.k.suf=x.k.suf
   ·rw [aU he]
    rw [hdrop] at i10
    have i10':ui none s=dd++ui (some s[i - 1]!.k.suf) (s.drop (i+1)):=by
     rw [i10]
     congr 1
     conv=>lhs; unfold ui
     rw [if_pos (by rw [he])]
    have e1:i+1 - 1=i:=by omega
    cases sh with
    | false =>
     have hl:=i8 rfl
     have z1:(0:Int)≤i:=by omega
     have z2:(i:Int)≤vcap:=by omega
     simp only [Bool.false_eq_true,if_false] at i1
     simp (disch:=first | exact dZ | fail) only [go_sem,i1,qq Tryz.es110,z1,z2,fH4]
     refine hK _ _ (i+1,pv,true) ?_ ⟨c,dd,?_,?_,i3,i4,i5,hd6,by simp only; omega,fun h=>by simp at h,fun _=>by simp only; omega,?_,fun _ => ?_,i12.set (fun _ => .inl ⟨rfl,rfl⟩),by simp only; omega⟩ (by simp only; omega)
     ·exact bO
     ·rw [hl]; exact bk @i1
     ·exact aT i2 (bW (M:=fun b o=>b=Hb∧o=ho+1) ⟨rfl,rfl⟩) fun g' hg' o h=>(hv1 g' hg').1 h.1
     ·simp only
      rw [if_neg (by omega),e1,hx2,i10',he]
     ·simp only
      rw [e1,hx2,← he]; exact i11
    | true =>
     have hl:=i9 rfl
     refine an ?_
     refine hK _ _ (i+1,pv,true) ?_ ⟨c,dd,i1,i2,i3,i4,i5,hd6,by simp only; omega,fun h=>by simp at h,fun _=>by simp only; omega,?_,fun _ => ?_,i12,by simp only; omega⟩ (by simp only; omega)
     ·exact bO
     ·simp only
      rw [if_neg (by omega),e1,hx2,i10',he]
     ·simp only
      rw [e1,hx2,← he]; exact i11
   ·rw [aF he]
    rw [hdrop] at i10
    have i10':ui none s=(dd++[x])++ui (some x.k.suf) (s.drop (i+1)):=by
     rw [i10,bX]
     congr 1
     conv=>lhs; unfold ui
     rw [if_neg (by simpa using he)]
     rfl
    have e1:i+1 - 1=i:=by omega
    cases sh with
    | false =>
     have hl:=i8 rfl
     simp only [Bool.false_eq_true,if_false] at i1
     refine eA @c1 @c2 @c3 ?_
     refine hK _ _ (i+1,.slice a x.k.suf.length na,false) ?_ ⟨c,dd++[x],by simpa using i1,i2,i3,i4,?_,hd6,by simp; omega,fun _=>by simp; omega,fun h=>by simp at h,?_,fun _ => ?_,i12,by simp only; omega⟩ (by simp only; omega)
     ·exact bO
     ·rw [aJ,ar,List.take_add_one,i5,hl,hcx]; rfl
     ·simp only
      rw [if_neg (by omega),e1,hx2,i10']
     ·simp only
      rw [e1,hx2,← q1]; exact hg.2.1
    | true =>
     have hl:=i9 rfl
     simp only [if_true] at i1
     have hHb4:=aD i1
     have hg4:=aD c1
     refine eA @c1 @c2 @c3 ?_
     refine ay (sq [0,1,2,3] (.read 4 (sq [5,6,7] (.read 8 (.eff 9 [4] (.eff 10 [] (sq [11,12] (.eff 13 [] .done)))))))) ?_
     refine fI @c1 @c2 @c3 @i1 ?_
     have hcells : #[Value.int IntKind.u64 x.k.tr,Value.slice a x.k.suf.length na,Value.slice b x.k.val.length nb]=x.cells.toArray:=by unfold KR.cells; rw [q1,q2]
     obtain ⟨w5,hw5⟩:∃ w5,w5=w4.alloc (.cells x.cells.toArray 256):=⟨_,rfl⟩
     rw [hcells,← hw5]
     have k5:bj w4 w5:=by rw [hw5]; exact aM _
     obtain ⟨w6,hw6⟩:∃ w6,w6=(((w5.setCell ⟨g,dd.length * 3,none⟩ (.int .u64 x.k.tr)).setCell ⟨g,dd.length * 3+1,none⟩ x.sv).setCell ⟨g,dd.length * 3+2,none⟩ x.vv):=⟨_,rfl⟩
     have hclen:(flat c).length=n * 3:=by rw [gw,i4]
     have bridge:∀ q:au,lY prog #[110,110] 110 #[.slice (some ⟨g,0,none⟩) dd.length vcap,.slice (some ⟨w4.heap.size,0,none⟩) 1 1] q w5.drew=q (.slice (some ⟨g,0,none⟩) (dd.length+1) vcap) w6.drew:=by
      intro q
      have:=qz (k:=q) (w:=w5.drew) (by_:=56) (ty:=110) (news:=x.cells) (m:=1) (c:=1) (cap:=vcap) (b:=g) (off:=0) (n:=dd.length) (a:=⟨w4.heap.size,0,none⟩) rw110 rfl ?_ (gI hg) (by omega) ?_ ?_
      ·rw [Nat.zero_add] at this
       rw [hw6]; exact this
      ·intro j u hu
       rw [df rfl,Nat.zero_add,hw5]
       rw [show (w4.alloc (Obj.cells x.cells.toArray 256)).drew.cell? ⟨w4.heap.size,j,none⟩=(w4.alloc (Obj.cells x.cells.toArray 256)).cell? ⟨w4.heap.size,j,none⟩ from rfl]
       refine an ?_
       simpa using hu
      ·intro j hj
       have hj:j < 3:=hj
       have:(flat c)[dd.length * 3+j]? = some (flat c)[dd.length * 3+j]:=aC (by omega)
       rw [Nat.zero_add]
       exact ⟨_,(k5.cell (bL i2 this):w5.drew.cell? _=_)⟩
      ·intro o
       have:=cl (aT i2 k5 (fun _ _ _ h=>h)) rfl o
       exact this
     rw [bridge]
     have l1:=k5.cell c1
     have l2:=k5.cell c2
     have l3:=k5.cell c3
     have l4:=k5.cell i1
     have l5:∀ o,w5.frozen? ⟨Hb,o,none⟩=false:=fun o=>by rw [k5.frozen Hb o hHb4]; exact fH4 o
     have d1:dd.length * 3≠i * 3:=by omega
     have hxc:Value.agg x.cells.toArray = .agg [.int .u64 x.k.tr,.slice a x.k.suf.length na,.slice b x.k.val.length nb].toArray:=by unfold KR.cells; rw [q1,q2]
     rw [hxc]
     have m1:w6.cell? ⟨g,i * 3,none⟩=some (.int .u64 x.k.tr):=by rw [hw6]; exact bk @l1
     have m2:w6.cell? ⟨g,i * 3+1,none⟩=some (.slice a x.k.suf.length na):=by rw [hw6]; exact bk @l2
     have m3:w6.cell? ⟨g,i * 3+2,none⟩=some (.slice b x.k.val.length nb):=by rw [hw6]; exact bk @l3
     have m4:w6.cell? ⟨Hb,ho+1,none⟩=some (.slice (some ⟨g,0,none⟩) dd.length vcap):=by rw [hw6]; exact bk @l4
     have m5:∀ o,w6.frozen? ⟨Hb,o,none⟩=false:=fun o=>by rw [hw6]; exact bk @l5
     refine gq @m1 @m2 @m3 @m4 @m5 ?_
     obtain ⟨w7,hw7⟩:∃ w7,w7=w6.setCell ⟨Hb,ho+1,none⟩ (.slice (some ⟨g,0,none⟩) (dd.length+1) vcap):=⟨_,rfl⟩
     rw [← hw7]
     have o6:w6.ownsRow 0 256 3 (.slice (some ⟨g,0,none⟩) n vcap) n (flat (c.set dd.length x)):=by
      have:=cS (cS (cS (aT i2 k5 (fun _ _ _ h=>h)) (dd.length * 3) (.int .u64 x.k.tr)) (dd.length * 3+1) x.sv) (dd.length * 3+2) x.vv
      rw [mC c dd.length x (by omega),← hw6] at this
      exact this
     have k56:Keep (fun b _=>b=g) w5 w6:=by
      rw [hw6]
      exact (((Keep.refl (fun b _=>b=g) w5).set (fun _=>rfl)).set (fun _=>rfl)).set (fun _=>rfl)
     have k67:Keep (fun b o=>b=Hb∧o=ho+1) w6 w7.drew:=by rw [hw7]; exact (bW ⟨rfl,rfl⟩).drew
     have k46:Keep (iJ Hb (ho+1) (.slice (some ⟨g,0,none⟩) n vcap)) w4 w6:=k5.keep.trans (k56.mono fun b o _ h => .inr (by rw [h]; rfl))
     have kall:Keep (iJ Hb (ho+1) (.slice (some ⟨g,0,none⟩) n vcap)) w2 w7.drew:=(i12.trans k46).trans (k67.mono fun b o _ h => .inl h)
     refine hK _ _ (i+1,.slice a x.k.suf.length na,true) ?_ ⟨c.set dd.length x,dd++[x],?_,aT o6 k67 fun g' hg' o h=>(hv1 g' hg').1 h.1,fun y hy => ?_,by simp [i4],?_,?_,by simp; omega,fun h=>by simp at h,fun _=>by simp; omega,?_,fun _ => ?_,kall,by simp only; omega⟩ (by simp only; omega)
     ·exact bO
     ·simp only [if_true,aJ,ar]
      rw [hw7]; exact bk @m4
     ·rcases List.mem_or_eq_of_mem_set hy with h | h
      ·exact i3 y h
      ·subst h; exact hg
     ·rw [aJ,ar,List.take_add_one,List.take_set_of_le (aE _),i5,List.getElem?_set_self (by omega)]; rfl
     ·simp only
      rw [List.drop_set_of_lt (by omega)]; exact hd6
     ·simp only
      rw [if_neg (by omega),e1,hx2,i10']
     ·simp only
      rw [e1,hx2,← q1]; exact hg.2.1
 ·have hi':¬ (i:Int) < n:=by omega
  obtain rfl:i=n:=by omega
  rw [hn,List.drop_length,show ∀ q,ui q []=[] from fun q=>by cases q <;> rfl,av] at i10
  have hvb:∀ g',(Value.slice va i vcap).ownBlock=some g'→g'≠Hb:=fun g' hg'=>(hv1 g' hg').1
  have k24:Keep (iJ Hb (ho+1) vs) w w4:=k02.tr i12 fun b o hb hm=>h3.m b o hb hm
  refine bf @hi' ?_
  refine pP (fun _:Unit=>[(1,.pointer (some ⟨Hb,ho,none⟩)),(3,.slice ka l.length cap),(9,.int .i64 di)]) (fun _ w'=>KOwn d w' Hb (ho+1) (.slice va dd.length vcap) dd∧Keep (iJ Hb (ho+1) vs) w w') (by kernel_rfl) (by kernel_rfl) (fun K2 hK2 => ?_) ?_
  ·have gd:∀ x ∈ dd,x.good d:=fun x hx=>i3 x (by rw [← i5] at hx; exact List.mem_of_mem_take hx)
   have od:w4.ownsRow 0 256 3 (.slice va dd.length vcap) dd.length (flat dd):=by
    have:=rT i2 (show dd.length≤i by omega)
    rw [Au,i5] at this
    exact this
   cases sh with
   | true =>
    simp only [if_true] at i1
    refine an ?_
    refine hK2 _ _ () ?_ ⟨⟨i1,od,gd⟩,k24⟩
    exact bO
   | false =>
    simp only [Bool.false_eq_true,if_false] at i1
    have hl:=i8 rfl
    refine dU @i1 @fH4 ?_
    refine hK2 _ _ () ?_ ⟨⟨?_,aT od (bW (M:=fun b o=>b=Hb∧o=ho+1) ⟨rfl,rfl⟩) fun g' hg' o h=>hvb g' (by rw [b7 va i dd.length]; exact hg') h.1,gd⟩,k24.set (fun _ => .inl ⟨rfl,rfl⟩)⟩
    ·exact bO
    ·rw [hl]; exact bk @i1
  ·rintro e5 _ w5 ⟨t1,t2⟩
   have hcr':CoR snap l dd:=by rw [← i10]; exact hcr
   have hddl:dd.length≤l.length:=by
    have:dd.length=(c.take dd.length).length:=by rw [i5]
    rw [bB] at this
    omega
   rcases hdi with ⟨rfl,hdn⟩ | ⟨q,rfl,hdq,hql⟩
   ·refine an ?_
    rw [hdn] at hk
    refine hk w5 (.slice va dd.length vcap) dd (by simpa using t1) hcr' hddl t2 fun g' hg'=>h3 g' ?_
    rw [b7 va i dd.length]; exact hg'
   ·obtain ⟨x,hx⟩:∃ x,l[q]? = some x:=⟨l[q],aC hql⟩
    rw [hx] at hdq
    have hg:=hgood x (aK hx)
    have hka':=hkv (by omega)
    subst hka'
    have hgm:∀ o,¬ iJ Hb (ho+1) vs gk o:=by
     rintro o (⟨h,_⟩ | h)
     ·exact hgk h
     ·exact (hne _ h).2.1 rfl
    obtain ⟨c1,c2,c3⟩:=(hka.keep t2 hgm) q x hx
    obtain ⟨a,na,b,nb,q1,q2⟩:=hg.form
    rw [q1] at c2
    rw [q2] at c3
    have hq0:(0:Int)≤q:=by omega
    have hq':(q:Int) < l.length:=by omega
    have c4:=t1.hd
    have hHb5:=aD c4
    have hgk5:=aD c1
    have fH5:∀ x,w5.frozen? ⟨Hb,x,none⟩=false:=fun x=>by rw [t2.frozen Hb x (aD hc)]; exact hf x
    refine bf @hq0 ?_
    refine ay (sq [0,1,2,3] (.read 4 (sq [5,6,7] (.read 8 (.eff 9 [4] (.eff 10 [] (sq [11,12] (.eff 13 [] .done)))))))) ?_
    refine gq @c1 @c2 @c3 @c4 @hq' ?_
    have hcells : #[Value.int IntKind.u64 x.k.tr,Value.slice a x.k.suf.length na,Value.slice b x.k.val.length nb]=x.cells.toArray:=by unfold KR.cells; rw [q1,q2]
    have hxc:Value.agg x.cells.toArray = .agg [.int .u64 x.k.tr,.slice a x.k.suf.length na,.slice b x.k.val.length nb].toArray:=by unfold KR.cells; rw [q1,q2]
    rw [hcells]
    have hdl:dd.length < 1000000:=by
     have:dd.length=(c.take dd.length).length:=by rw [i5]
     rw [bB] at this
     omega
    have hvv:∀ g',(Value.slice va dd.length vcap).ownBlock=some g'→g'≠Hb∧g'≠gk:=fun g' hg'=>by
     have:=hv1 g' (by rw [b7 va i dd.length]; exact hg')
     exact ⟨this.1,this.2.2 (by omega)⟩
    refine GC t1.own hg hdl fun a6 cap6 w6 o6 k6 n6 => ?_
    have c1:=k6.some c1 (fun h=>(hvv _ h).2 rfl)
    have c2:=k6.some c2 (fun h=>(hvv _ h).2 rfl)
    have c3:=k6.some c3 (fun h=>(hvv _ h).2 rfl)
    have c4:=k6.some c4 (fun h=>(hvv _ h).1 rfl)
    have fH6:∀ x,w6.frozen? ⟨Hb,x,none⟩=false:=fun x=>by rw [k6.frozen Hb x hHb5]; exact fH5 x
    rw [hxc]
    refine gq @c1 @c2 @c3 @c4 @fH6 ?_
    have n06:cP w vs (.slice a6 (dd.length+1) cap6):=by
     refine cP.trans (v2 := .slice va dd.length vcap) (fun g' hg'=>h3 g' ?_) n6 t2.size
     rw [b7 va i dd.length]; exact hg'
    refine hk _ (.slice a6 (dd.length+1) cap6) dd ⟨?_,?_,?_⟩ hcr' hddl ?_ n06
    ·exact bk @c4
    ·rw [← hdq]
     simp only [Option.toList_some,aJ,ar]
     refine aT o6 ((bW (M:=fun b o=>b=Hb∧o=ho+1) ⟨rfl,rfl⟩)) fun g' hg' o h => ?_
     rcases n6 g' hg' with h' | h'
     ·exact (hvv g' h').1 h.1
     ·have:=h.1; omega
    ·intro y hy
     rw [← hdq] at hy
     rcases aV.1 hy with h | h
     ·exact t1.good y h
     ·simp only [Option.toList_some,aQ] at h
      subst h; exact hg
    ·exact (t2.tr k6 fun b o hb hm=>h3.m b o hb (.inr (by rw [b7 va i dd.length]; exact hm))).set (fun _ => .inl ⟨rfl,rfl⟩)
end
end Go.Proofs
end
section
namespace Go.E
open Go Go.Sort Go.Proofs Go.Proofs.Tryz
theorem mX {snap:Nat} {l:List KR} {x:KR} (h:gP snap l=some x):bI x.k.tr=19:=by
 induction l with
 | nil=>simp [gP] at h
 | cons y l ih =>
  rw [td] at h
  split at h
  ·split at h
   ·simp only [aL] at h
    subst h; assumption
   ·exact ih h
  ·exact ih h
theorem KOwn.drew {d w:World} {Hb ho:Nat} {v:Value} {l:List KR} (h:KOwn d w Hb ho v l):KOwn d w.drew Hb ho v l:=⟨h.hd,h.own.drew,h.good⟩
theorem KOwn.keep {d w w2:World} {Hb ho:Nat} {v:Value} {l:List KR} {M:Nat→Nat→Prop} (h:KOwn d w Hb ho v l) (hk:Keep M w w2) (h1:¬ M Hb ho) (h2:∀ g,v.ownBlock=some g→∀ x,¬ M g x):KOwn d w2 Hb ho v l:=⟨hk.some h.hd h1,aT h.own hk h2,h.good⟩
end Go.E
namespace Go.Proofs
open Go Go.E Go.Sort Go.Proofs.Tryz
section
variable {k:au} {d w:World}
theorem Hy {g n cap j:Nat} {c:List KR} {x:KR} (o:w.ownsRow 0 256 3 (.slice (some ⟨g,0,none⟩) n cap) n (flat c)) (hc:c.length=n) (hj:j < n) (hcap:n≤cap) (hg:x.good d) :
    ∃ w6,(∀ q:au,lY prog #[110,110] 110 #[.slice (some ⟨g,0,none⟩) j cap,.slice (some ⟨w.heap.size,0,none⟩) 1 1] q (w.alloc (.cells x.cells.toArray 256)).drew=q (.slice (some ⟨g,0,none⟩) (j+1) cap) w6) ∧
     w6.ownsRow 0 256 3 (.slice (some ⟨g,0,none⟩) n cap) n (flat (c.set j x))∧Keep (fun b o=>b=g∧j * 3≤o∧o < j * 3+3) w w6:=by
 obtain ⟨w5,hw5⟩:∃ w5,w5=w.alloc (.cells x.cells.toArray 256):=⟨_,rfl⟩
 rw [← hw5]
 have k5:bj w w5:=by rw [hw5]; exact aM _
 obtain ⟨w6,hw6⟩:∃ w6,w6=(((w5.setCell ⟨g,j * 3,none⟩ (.int .u64 x.k.tr)).setCell ⟨g,j * 3+1,none⟩ x.sv).setCell ⟨g,j * 3+2,none⟩ x.vv):=⟨_,rfl⟩
 have hclen:(flat c).length=n * 3:=by rw [gw,hc]
 refine ⟨w6.drew,?_,?_,?_⟩
 ·intro q
  have:=qz (k:=q) (w:=w5.drew) (by_:=56) (ty:=110) (news:=x.cells) (m:=1) (c:=1) (cap:=cap) (b:=g) (off:=0) (n:=j) (a:=⟨w.heap.size,0,none⟩) rw110 rfl ?_ (gI hg) (by omega) ?_ ?_
  ·rw [Nat.zero_add] at this
   rw [hw6]; exact this
  ·intro i u hu
   rw [df rfl,Nat.zero_add,hw5]
   rw [show (w.alloc (Obj.cells x.cells.toArray 256)).drew.cell? ⟨w.heap.size,i,none⟩=(w.alloc (Obj.cells x.cells.toArray 256)).cell? ⟨w.heap.size,i,none⟩ from rfl]
   refine an ?_
   simpa using hu
  ·intro i hi
   have hi:i < 3:=hi
   have:(flat c)[j * 3+i]? = some (flat c)[j * 3+i]:=aC (by omega)
   rw [Nat.zero_add]
   exact ⟨_,(k5.cell (bL o this):w5.drew.cell? _=_)⟩
  ·intro i
   have:=cl (aT o k5 (fun _ _ _ h=>h)) rfl i
   exact this
 ·have:=cS (cS (cS (aT o k5 (fun _ _ _ h=>h)) (j * 3) (.int .u64 x.k.tr)) (j * 3+1) x.sv) (j * 3+2) x.vv
  rw [mC c j x (by omega),← hw6] at this
  exact this.drew
 ·rw [hw6]
  exact (((k5.keep.set (fun _=>⟨rfl,by omega,by omega⟩)).set (fun _=>⟨rfl,by omega,by omega⟩)).set (fun _=>⟨rfl,by omega,by omega⟩)).drew
def JU (U Bf:Nat) (vk vs:Value):Nat→Nat→Prop:=fun b x=>b=U∧6≤x∧x≤9∨b=Bf∧9≤x∧x≤10∨vk.ownBlock=some b∨vs.ownBlock=some b
set_option maxHeartbeats 1000000 in
theorem mz {U Bf C snap cap:Nat} {ka sa ea:Option Addr} {sn sc en ec:Nat} {vs:Value} {l ls:List KR}
    (u0:w.cell? ⟨U,0,none⟩=some (.int .u64 snap)) (u1:w.cell? ⟨U,1,none⟩=some (.pointer (some ⟨C,0,none⟩))) (u93:w.cell? ⟨U,93,none⟩=some (.bool false)) (u94:w.cell? ⟨U,94,none⟩=some (.pointer (some ⟨Bf,0,none⟩)))
    (hC:d.cell? ⟨C,1,none⟩=some (.func (.func 103) #[] #[])) (c9:∃ v,w.cell? ⟨Bf,9,none⟩=some v) (hkey:KOwn d w Bf 0 (.slice ka l.length cap) l) (hsort:KOwn d w Bf 10 vs ls)
    (u6:∃ v,w.cell? ⟨U,6,none⟩=some v) (u7:∃ v,w.cell? ⟨U,7,none⟩=some v) (u8:w.cell? ⟨U,8,none⟩=some (.slice ka l.length cap)) (u9:∃ v,w.cell? ⟨U,9,none⟩=some v)
    (fU:∀ x,w.frozen? ⟨U,x,none⟩=false) (fB:∀ x,w.frozen? ⟨Bf,x,none⟩=false) (hinc:cN d w) (oU:cx d U) (oB:cx d Bf) (hUB:Bf≠U)
    (hvk:∀ g,(Value.slice ka l.length cap).ownBlock=some g→g≠U∧g≠Bf∧cx d g) (hvs:∀ g,vs.ownBlock=some g→g≠U∧g≠Bf∧cx d g∧(Value.slice ka l.length cap).ownBlock≠some g)
    (hd:DK l) (hl:l.length < 100000) (hkind:∀ x ∈ l,bI x.k.tr=19∨bI x.k.tr=20∨bI x.k.tr=21) (hs:snap < 18446744073709551616)
    (hk:∀ w' r c vs' ls',CoR snap l r→w'.cell? ⟨U,6,none⟩=some (.slice sa sn sc)→w'.cell? ⟨U,7,none⟩=some (.slice ea en ec)→w'.cell? ⟨U,8,none⟩=some (.slice ka (r.filter fun x=>bI x.k.tr == 21).length cap)→w'.cell? ⟨U,9,none⟩=some (.int .i8 1) →
     KOwn d w' Bf 0 (.slice ka l.length cap) c→c.length=l.length→c.take (r.filter fun x=>bI x.k.tr == 21).length=r.filter (fun x=>bI x.k.tr == 21)→KOwn d w' Bf 10 vs' ls'→(∃ v,w'.cell? ⟨Bf,9,none⟩=some v)→cP w vs vs'→Keep (JU U Bf (.slice ka l.length cap) vs) w w'→k .nilIface w') :
    aX prog 190 #[.pointer (some ⟨U,0,none⟩),.func (.func 102) #[] #[],.agg [.slice sa sn sc,.slice ea en ec,.slice ka l.length cap,.int .i8 0].toArray,.pointer (some ⟨U,6,none⟩)] k w:=by
 obtain ⟨v6,u6⟩:=u6
 obtain ⟨v7,u7⟩:=u7
 obtain ⟨v9,u9⟩:=u9
 obtain ⟨b9,c9⟩:=c9
 obtain ⟨va,vcap,hvse,hvcap,hvm⟩:=ao hsort.own
 subst hvse
 have c10:=hsort.hd
 have hUs:=aD u0
 have hBs:=aD c9
 have hUB':=Ne.symm hUB
 have z0:(0:Int).toNat=0:=rfl
 have zc:(0:Int)≤vcap:=by omega
 refine ae [.tmp 8] func190 ?_
 refine fI @u6 @u7 @fU @aA ?_
 refine ay (sq [0,1,2] (.read 3 (sq [4,5,6,7] (.read 8 (sq [9,10,11] (.read 12 (sq [13,14,15,16] (.eff 17 [] .done)))))))) ?_
 simp (disch:=first | exact dZ | fail) only [go_sem,u94,c9,c10,fB,qq Tryz.es110,z0,zc,aA]
 obtain ⟨w1,hw1⟩:∃ w1,w1=((((((w.setCell ⟨U,6,none⟩ (.slice sa sn sc)).setCell ⟨U,7,none⟩ (.slice ea en ec)).setCell ⟨Bf,9,none⟩ (.func (.func 102) #[] #[])).setCell ⟨Bf,10,none⟩ (.slice va 0 vcap)).alloc (.cells #[.slice sa sn sc,.slice ea en ec,.slice ka l.length cap,.int .i8 0] 114)).drew):=⟨_,rfl⟩
 rw [← hw1]
 obtain ⟨sb,hsb⟩:∃ sb,sb=w.heap.size:=⟨_,rfl⟩
 rw [← hsb]
 have k1:Keep (fun b x=>b=U∧6≤x∧x≤7∨b=Bf∧9≤x∧x≤10) w w1:=by
  rw [hw1]
  exact ((((((Keep.refl _ w).set (fun _ => .inl ⟨rfl,by omega,by omega⟩)).set (fun _ => .inl ⟨rfl,by omega,by omega⟩)).set (fun _ => .inr ⟨rfl,by omega,by omega⟩)).set (fun _ => .inr ⟨rfl,by omega,by omega⟩)).alloc _).drew
 have s0:w1.cell? ⟨sb,2,none⟩=some (.slice ka l.length cap):=by rw [hw1,hsb]; exact bk @aA
 have s3:w1.cell? ⟨sb,3,none⟩=some (.int .i8 0):=by rw [hw1,hsb]; exact bk @aA
 have p6:w1.cell? ⟨U,6,none⟩=some (.slice sa sn sc):=by rw [hw1]; exact bk @u6
 have p7:w1.cell? ⟨U,7,none⟩=some (.slice ea en ec):=by rw [hw1]; exact bk @u7
 have p9:w1.cell? ⟨Bf,9,none⟩=some (.func (.func 102) #[] #[]):=by rw [hw1]; exact bk @c9
 have p10:w1.cell? ⟨Bf,10,none⟩=some (.slice va 0 vcap):=by rw [hw1]; exact bk @c10
 have nU:∀ x,x < 6∨7 < x→¬ (U=U∧6≤x∧x≤7∨U=Bf∧9≤x∧x≤10):=by
  rintro x hx (⟨_,h⟩ | ⟨h,_⟩)
  ·omega
  ·exact hUB' h
 have nB:∀ x,x < 9∨10 < x→¬ (Bf=U∧6≤x∧x≤7∨Bf=Bf∧9≤x∧x≤10):=by
  rintro x hx (⟨h,_⟩ | ⟨_,h⟩)
  ·exact hUB h
  ·omega
 have nK:∀ g,(Value.slice ka l.length cap).ownBlock=some g→∀ x,¬ (g=U∧6≤x∧x≤7∨g=Bf∧9≤x∧x≤10):=by
  rintro g hg x (⟨h,_⟩ | ⟨h,_⟩)
  ·exact (hvk g hg).1 h
  ·exact (hvk g hg).2.1 h
 have u0:=k1.some u0 (nU _ (by omega))
 have u1:=k1.some u1 (nU _ (by omega))
 have u8:=k1.some u8 (nU _ (by omega))
 have u9:=k1.some u9 (nU _ (by omega))
 have u93:=k1.some u93 (nU _ (by omega))
 have u94:=k1.some u94 (nU _ (by omega))
 have key1:KOwn d w1 Bf 0 (.slice ka l.length cap) l:=⟨k1.some hkey.hd (nB _ (by omega)),aT hkey.own k1 nK,hkey.good⟩
 have sort1:KOwn d w1 Bf 10 (.slice va 0 vcap) []:=by
  refine ⟨p10,aT (dV hsort.own) k1 fun g hg x h => ?_,fun x h=>by simp at h⟩
  have:=hvs g (by rw [b7 va ls.length 0]; exact hg)
  rcases h with ⟨h,_⟩ | ⟨h,_⟩
  ·exact this.1 h
  ·exact this.2.1 h
 have inc1:cN d w1:=hinc.keep k1 fun b x h=>by
  rcases h with ⟨rfl,_⟩ | ⟨rfl,_⟩
  ·exact oU x
  ·exact oB x
 have fU1:∀ x,w1.frozen? ⟨U,x,none⟩=false:=fun x=>by rw [k1.frozen U x hUs]; exact fU x
 have fB1:∀ x,w1.frozen? ⟨Bf,x,none⟩=false:=fun x=>by rw [k1.frozen Bf x hBs]; exact fB x
 have hsbl:sb < w1.heap.size:=aD s0
 have hC1:=inc1 _ _ _ hC
 refine ay (sq [0,1,2] (.read 3 (sq [4,5] (.read 6 (sq [7,8,9] (.read 10 (sq [11,12,13,14,15] (.read 16 (sq [17] (.read 18 (.eff 19 [] (sq [20] .done)))))))))))) ?_
 refine gq @u0 @u1 @u94 @hC1 @s0 ?_
 obtain ⟨gk,hgk⟩:∃ gk,(0 < l.length→ka=some ⟨gk,0,none⟩)∧gk≠Bf∧Hx w1 gk l∧(0 < l.length→gk < w1.heap.size)∧(∀ g,(Value.slice va 0 vcap).ownBlock=some g→g≠gk):=by
  rcases cR key1.own with ⟨h1,h2,_⟩ | ⟨g,c',h1,_,h3⟩
  ·have:l=[]:=aZ.1 h2
   subst this
   refine ⟨U,fun h=>by simp at h,hUB',fun i x h=>by simp at h,fun h=>by simp at h,fun g hg=>(hvs g (by rw [b7 va ls.length 0]; exact hg)).1⟩
  ·simp only [aW,true_and] at h1
   obtain ⟨rfl,rfl⟩:=h1
   refine ⟨g,fun _=>rfl,(hvk g rfl).2.1,fun i x hx => ?_,fun _=>h3,fun g' hg' he => ?_⟩
   ·obtain ⟨f1,f2,f3⟩:=jh hx
    exact ⟨bL key1.own f1,bL key1.own f2,bL key1.own f3⟩
   ·subst he
    exact (hvs g' (by rw [b7 va ls.length 0]; exact hg')).2.2.2 rfl
 obtain ⟨g1,g2,g3,g4,g5⟩:=hgk
 refine og (d:=d) (ho:=9) (by exact p9) sort1.drew (by exact fB1) (fun g hg=>⟨(hvs g (by rw [b7 va ls.length 0]; exact hg)).2.1,g5 g hg,(hvs g (by rw [b7 va ls.length 0]; exact hg)).2.2.1⟩) g2 (oB _) g1 (by exact g3) (by exact g4) hkey.good (by exact inc1) hd hl hs fun w2 vs2 r sort2 hcr hrl k2 n2 => ?_
 have k2:Keep (iJ Bf 10 (.slice va 0 vcap)) w1 w2:=(Keep.refl _ w1).drew.trans k2
 have n2:cP w1 (.slice va 0 vcap) vs2:=n2
 have hv0:∀ g,(Value.slice va 0 vcap).ownBlock=some g→g≠U∧g≠Bf∧cx d g∧(Value.slice ka l.length cap).ownBlock≠some g:=fun g hg=>hvs g (by rw [b7 va ls.length 0]; exact hg)
 have nU2:∀ x,¬ iJ Bf 10 (.slice va 0 vcap) U x:=by
  rintro x (⟨h,_⟩ | h)
  ·exact hUB' h
  ·exact (hv0 U h).1 rfl
 have nB2:∀ x,x≠10→¬ iJ Bf 10 (.slice va 0 vcap) Bf x:=by
  rintro x hx (⟨_,h⟩ | h)
  ·exact hx h
  ·exact (hv0 Bf h).2.1 rfl
 have nK2:∀ g,(Value.slice ka l.length cap).ownBlock=some g→∀ x,¬ iJ Bf 10 (.slice va 0 vcap) g x:=by
  rintro g hg x (⟨h,_⟩ | h)
  ·exact (hvk g hg).2.1 h
  ·exact (hv0 g h).2.2.2 hg
 have key2:=key1.keep k2 (nB2 _ (by omega)) nK2
 have p6:=k2.some p6 (nU2 _)
 have p7:=k2.some p7 (nU2 _)
 have u0:=k2.some u0 (nU2 _)
 have u1:=k2.some u1 (nU2 _)
 have u8:=k2.some u8 (nU2 _)
 have u9:=k2.some u9 (nU2 _)
 have u93:=k2.some u93 (nU2 _)
 have u94:=k2.some u94 (nU2 _)
 have hC2:=k2.some hC1 (by
  rintro (⟨h,_⟩ | h)
  ·exact cN.ne hC oB h
  ·exact cN.ne hC (hv0 _ h).2.2.1 rfl)
 have s0:=k2.some s0 (by
  rintro (⟨h,_⟩ | h)
  ·omega
  ·rcases cR sort1.own with ⟨e,_⟩ | ⟨g,c',e,_,hg⟩
   ·rw [e] at h; simp [Value.ownBlock] at h
   ·simp only [aW] at e
    obtain ⟨rfl,_,_⟩:=e
    simp only [Value.ownBlock,aL] at h
    have hz:(Value.slice (some ⟨g,0,none⟩) ls.length vcap).ownBlock=some g:=rfl
    rcases cR hsort.own with ⟨e,_⟩ | ⟨g',c'',e,_,hg'⟩
    ·simp at e
    ·simp only [aW,aL,Addr.mk.injEq] at e
     omega)
 have fU2:∀ x,w2.frozen? ⟨U,x,none⟩=false:=fun x=>by rw [k2.frozen U x (aD (k1.some (by assumption) (nU 0 (by omega))))]; exact fU1 x
 obtain ⟨R,hR⟩:∃ R,R=r++(gP snap l).toList:=⟨_,rfl⟩
 rw [← hR] at sort2
 obtain ⟨ra,rcap,hre,hrcap,hrm⟩:=ao sort2.own
 subst hre
 have p10:=sort2.hd
 have zk:(0:Int)≤cap:=by omega
 simp (disch:=first | exact dZ | fail) only [go_sem,s0,u0,u94,hC2,u1,u93,p10,u8,qq Tryz.es110,z0,zk,fU2]
 obtain ⟨w3,hw3⟩:∃ w3,w3=w2.setCell ⟨U,8,none⟩ (.slice ka 0 cap):=⟨_,rfl⟩
 rw [← hw3]
 have k23:Keep (fun b x=>b=U∧x=8∨(Value.slice ka l.length cap).ownBlock=some b) w2 w3:=by rw [hw3]; exact bW (.inl ⟨rfl,rfl⟩)
 have q8:w3.cell? ⟨U,8,none⟩=some (.slice ka 0 cap):=by rw [hw3]; exact bk @u8
 have hkU:∀ g,(Value.slice ka l.length cap).ownBlock=some g→g≠U:=fun g hg=>(hvk g hg).1
 have k23':Keep (fun b x=>b=U∧x=8) w2 w3:=by rw [hw3]; exact bW ⟨rfl,rfl⟩
 have key3:w3.ownsRow 0 256 3 (.slice ka l.length cap) l.length (flat l):=aT key2.own k23' fun g hg x h=>hkU g hg h.1
 have hUs2:U < w1.heap.size:=aI hUs k1.size
 have hsR:∀ g,(Value.slice ra R.length rcap).ownBlock=some g→g≠U∧(Value.slice ka l.length cap).ownBlock≠some g:=fun g hg=>by
  rcases n2 g hg with h | h
  ·exact ⟨(hv0 g h).1,(hv0 g h).2.2.2⟩
  ·refine ⟨by omega,fun he => ?_⟩
   have:=(key1.own.lt g he).2
   omega
 have hRl:∀ x ∈ R,x ∈ l:=fun x hx=>by
  rw [hR] at hx
  rcases aV.1 hx with h | h
  ·exact hcr.sub h
  ·exact oS (by simpa using h)
 refine bR (fun i:Nat=>[(3,.pointer (some ⟨U,6,none⟩)),(10,.slice ra R.length rcap),(102,.int .i64 R.length),(103,.int .i64 i)])
  (fun i w'=>∃ c,w'.ownsRow 0 256 3 (.slice ka l.length cap) l.length (flat c)∧c.length=l.length∧(∀ x ∈ c,x.good d)∧c.take ((R.take i).filter fun x=>bI x.k.tr == 21).length=(R.take i).filter (fun x=>bI x.k.tr == 21) ∧
   w'.cell? ⟨U,8,none⟩=some (.slice ka ((R.take i).filter fun x=>bI x.k.tr == 21).length cap)∧Keep (fun b x=>b=U∧x=8∨(Value.slice ka l.length cap).ownBlock=some b) w2 w'∧i≤R.length) (fun i _=>R.length - i) 0 (by kernel_rfl) ?_ ⟨l,key3,rfl,hkey.good,rfl,q8,k23,aP _⟩ ?_
 ·exact bO
 rintro K e2 i w4 ⟨c,i1,i2,i3,i4,i5,i6,i7⟩ hK
 have fU4:∀ x,w4.frozen? ⟨U,x,none⟩=false:=fun x=>by rw [i6.frozen U x (aD u8)]; exact fU2 x
 have sort4:w4.ownsRow 0 256 3 (.slice ra R.length rcap) R.length (flat R):=aT sort2.own i6 fun g hg x h=>by
  rcases h with ⟨h,_⟩ | h
  ·exact (hsR g hg).1 h
  ·exact (hsR g hg).2 h
 by_cases hi:i < R.length
 ·have hi':(i:Int) < R.length:=by omega
  obtain ⟨x,hx⟩:∃ x,R[i]? = some x:=⟨R[i],aC hi⟩
  have hxm:x ∈ R:=aK hx
  have hg:=hkey.good x (hRl x hxm)
  obtain ⟨a,na,b,nb,q1,q2⟩:=hg.form
  have hv:x.v = .agg [.int .u64 x.k.tr,.slice a x.k.suf.length na,.slice b x.k.val.length nb].toArray:=by unfold KR.v; rw [q1,q2]
  obtain ⟨gs,sc',hgs⟩:∃ gs sc',Value.slice ra R.length rcap = .slice (some ⟨gs,0,none⟩) R.length sc':=by
   rcases cR sort4 with ⟨_,h,_⟩ | ⟨g,c',h,_⟩
   ·omega
   ·exact ⟨g,c',h⟩
  simp only [aW,true_and] at hgs
  obtain ⟨rfl,rfl⟩:=hgs
  obtain ⟨f1,f2,f3⟩:=jh hx
  have c1:=bL sort4 f1
  have c2:=bL sort4 f2
  have c3:=bL sort4 f3
  rw [q1] at c2
  rw [q2] at c3
  have htk:R.take (i+1)=R.take i++[x]:=by rw [List.take_add_one,hx]; rfl
  refine fI @hi' @c1 @c2 @c3 ?_
  rw [← hv]
  refine wN hg fun w5 x5 => ?_
  have i5':=x5.cell i5
  have c1:=x5.cell c1
  have c2:=x5.cell c2
  have c3:=x5.cell c3
  have fU5:∀ x,w5.frozen? ⟨U,x,none⟩=false:=fun x=>by rw [x5.frozen U x (aD i5)]; exact fU4 x
  by_cases h21:bI x.k.tr=21
  ·have e21:(((bI x.k.tr:Nat):Int) == 21)=true:=by rw [h21]; rfl
   refine bf @e21 ?_
   refine ay (sq [0,1,2,3] (.read 4 (sq [5,6,7,8,9,10,11,12] (.read 13 (sq [14,15,16] (.read 17 (sq [18,19,20,21] (.read 22 (sq [23,24,25,26] (.read 27 (.eff 28 [] (sq [29,30] .done)))))))))))) ?_
   refine an ?_
   have hir:i < r.length:=by
    refine Classical.byContradiction fun hn => ?_
    rw [hR,bC (by omega)] at hx
    have hm:=aK hx
    have:=mX (l:=l) (snap:=snap) (x:=x) (by simpa using hm)
    omega
   have hout:((R.take i).filter fun x=>bI x.k.tr == 21).length≤i:=by
    have:=bz (fun x:KR=>bI x.k.tr == 21) (R.take i)
    rw [bB] at this
    omega
   obtain ⟨g,cap',hga⟩:∃ g c',Value.slice ka l.length cap = .slice (some ⟨g,0,none⟩) l.length c':=by
    rcases cR i1 with ⟨_,h,_⟩ | ⟨g,c',h,_⟩
    ·omega
    ·exact ⟨g,c',h⟩
   simp only [aW,true_and] at hga
   obtain ⟨rfl,rfl⟩:=hga
   have hcap:l.length≤cap:=by
    obtain ⟨_,_,e,h,_⟩:=ao i1
    simp only [aW,true_and] at e
    rw [e.2]; exact h
   obtain ⟨out,ho⟩:∃ out,out=(R.take i).filter fun x=>bI x.k.tr == 21:=⟨_,rfl⟩
   rw [← ho] at i4 i5 i5' hout
   have hUs5:=aD i5'
   have hgs5:=aD c1
   have hgsU:gs≠U:=(hsR gs rfl).1
   have hgsg:gs≠g:=fun e=>(hsR gs rfl).2 (by rw [e]; rfl)
   have hgU:g≠U:=hkU g rfl
   refine ay (sq [0,1,2,3] (.read 4 (sq [5,6,7] (.read 8 (.eff 9 [4] (.eff 10 [] (sq [11,12] (.eff 13 [] .done)))))))) ?_
   refine fI @c1 @c2 @c3 @i5' ?_
   have hcells : #[Value.int IntKind.u64 x.k.tr,Value.slice a x.k.suf.length na,Value.slice b x.k.val.length nb]=x.cells.toArray:=by unfold KR.cells; rw [q1,q2]
   have hxc:Value.agg x.cells.toArray = .agg [.int .u64 x.k.tr,.slice a x.k.suf.length na,.slice b x.k.val.length nb].toArray:=by unfold KR.cells; rw [q1,q2]
   obtain ⟨w6,a1,a2,a3⟩:=Hy (w:=w5.drew) (j:=out.length) (aT i1 x5 (fun _ _ _ h=>h)).drew i2 (by omega) hcap hg
   have a1:∀ q:au,lY prog #[110,110] 110 #[.slice (some ⟨g,0,none⟩) out.length cap,.slice (some ⟨w5.heap.size,0,none⟩) 1 1] q (w5.alloc (.cells x.cells.toArray 256)).drew.drew=q (.slice (some ⟨g,0,none⟩) (out.length+1) cap) w6:=a1
   have a3:Keep (fun b o=>b=g∧out.length * 3≤o∧o < out.length * 3+3) w5 w6:=(Keep.refl _ w5).drew.trans a3
   rw [hcells,a1]
   have c1:=a3.some c1 (fun h=>hgsg h.1)
   have c2:=a3.some c2 (fun h=>hgsg h.1)
   have c3:=a3.some c3 (fun h=>hgsg h.1)
   have i6':=a3.some i5' (fun h=>hgU h.1.symm)
   have fU6:∀ x,w6.frozen? ⟨U,x,none⟩=false:=fun x=>by rw [a3.frozen U x hUs5]; exact fU5 x
   rw [hxc]
   refine gq @c1 @c2 @c3 @i6' @fU6 ?_
   have hfl:(R.take (i+1)).filter (fun x=>bI x.k.tr == 21)=out++[x]:=by
    rw [htk,List.filter_append,← ho]
    simp [h21]
   refine hK _ _ (i+1) ?_ ⟨c.set out.length x,aT a2 (M:=fun b o=>b=U∧o=8) (bW ⟨rfl,rfl⟩) fun g' hg' x' h=>hkU g' hg' h.1,by simp [i2],fun y hy => ?_,?_,?_,?_,by omega⟩ (by omega)
   ·exact bO
   ·rcases List.mem_or_eq_of_mem_set hy with h | h
    ·exact i3 y h
    ·subst h; exact hg
   ·rw [hfl,aJ,ar,List.take_add_one,List.take_set_of_le (aE _),i4,List.getElem?_set_self (by omega)]; rfl
   ·rw [hfl,aJ,ar]
    exact bk @i6'
   ·exact ((i6.trans x5.keep).trans (a3.mono fun b o _ h => .inr (by rw [h.1]; rfl))).set (fun _ => .inl ⟨rfl,rfl⟩)
  ·have e21:(((bI x.k.tr:Nat):Int) == 21)=false:=by rw [beq_eq_false_iff_ne]; omega
   have hfl:(R.take (i+1)).filter (fun x=>bI x.k.tr == 21)=(R.take i).filter (fun x=>bI x.k.tr == 21):=by
    rw [htk,List.filter_append]
    simp [h21]
   by_cases h20:bI x.k.tr=20
   ·have e20:(((bI x.k.tr:Nat):Int) == 20)=true:=by rw [h20]; rfl
    refine dU @e21 @e20 ?_
    refine ay (sq [0,1,2,3] (.read 4 (sq [5,6,7,8,9,10,11,12] (.read 13 (sq [14,15,16] (.read 17 (sq [18,19,20,21] (.read 22 (sq [23,24,25,26] (.read 27 (.eff 28 [] (sq [29,30] .done)))))))))))) ?_
    refine an ?_
    refine hK _ _ (i+1) ?_ ⟨c,(aT i1 x5 (fun _ _ _ h=>h)).drew,i2,i3,by rw [hfl]; exact i4,by rw [hfl]; exact i5',(i6.trans x5.keep).drew,by omega⟩ (by omega)
    exact bO
   ·have e20:(((bI x.k.tr:Nat):Int) == 20)=false:=by rw [beq_eq_false_iff_ne]; omega
    have h19:bI x.k.tr=19:=by
     rcases hkind x (hRl x hxm) with h | h | h
     ·exact h
     ·exact absurd h h20
     ·exact absurd h h21
    have e19:(((bI x.k.tr:Nat):Int) == 19)=true:=by rw [h19]; rfl
    refine eA @e21 @e20 @e19 ?_
    refine hK _ _ (i+1) ?_ ⟨c,aT i1 x5 (fun _ _ _ h=>h),i2,i3,by rw [hfl]; exact i4,by rw [hfl]; exact i5',i6.trans x5.keep,by omega⟩ (by omega)
    exact bO
 ·have hi':¬ (i:Int) < R.length:=by omega
  obtain rfl:i=R.length:=by omega
  have hflt:R.filter (fun x=>bI x.k.tr == 21)=r.filter fun x=>bI x.k.tr == 21:=by
   rw [hR,List.filter_append]
   cases hdl:gP snap l with
   | none=>simp
   | some x=>simp [mX hdl]
  rw [ah,hflt] at i4 i5
  have u9':=i6.some u9 (by
   rintro (⟨_,h⟩ | h)
   ·omega
   ·exact hkU U h rfl)
  have nU4:∀ x,x≠8→¬ (U=U∧x=8∨(Value.slice ka l.length cap).ownBlock=some U):=by
   rintro x hx (⟨_,h⟩ | h)
   ·exact hx h
   ·exact hkU U h rfl
  have nB4:∀ x,¬ (Bf=U∧x=8∨(Value.slice ka l.length cap).ownBlock=some Bf):=by
   rintro x (⟨h,_⟩ | h)
   ·exact hUB h
   ·exact (hvk Bf h).2.1 rfl
  have p6:=i6.some p6 (nU4 _ (by omega))
  have p7:=i6.some p7 (nU4 _ (by omega))
  refine eA @hi' @u9' @fU4 ?_
  have k45:Keep (fun b x=>b=U∧x=9) w4 (w4.setCell ⟨U,9,none⟩ (.int .i8 1)):=bW ⟨rfl,rfl⟩
  refine hk _ r c _ R hcr ?_ ?_ ?_ ?_ ⟨k45.some (i6.some key2.hd (nB4 _)) (fun h=>hUB h.1),by rw [i2]; exact aT i1 k45 fun g hg x h=>hkU g hg h.1,i3⟩ i2 i4 ⟨k45.some (i6.some p10 (nB4 _)) (fun h=>hUB h.1),aT sort4 k45 fun g hg x h=>(hsR g hg).1 h.1,sort2.good⟩ ⟨_,k45.some (i6.some (k2.some p9 (nB2 _ (by omega))) (nB4 _)) (fun h=>hUB h.1)⟩ ?_ ?_
  ·exact bk @p6
  ·exact bk @p7
  ·exact bk @i5
  ·exact bk @u9'
  ·intro g hg
   rcases n2 g hg with h | h
   ·exact .inl (by rw [b7 va ls.length 0]; exact h)
   ·exact .inr (ai k1.size h)
  ·have b1:Keep (JU U Bf (.slice ka l.length cap) (.slice va ls.length vcap)) w w1:=k1.mono fun b x _ h=>by
     rcases h with ⟨h1,h2,h3⟩ | h
     ·exact .inl ⟨h1,by omega,by omega⟩
     ·exact .inr (.inl h)
   refine (((b1.trans (k2.mono fun b x _ h => ?_)).trans (i6.mono fun b x _ h => ?_)).trans (k45.mono fun b x _ h => .inl ⟨h.1,by omega,by omega⟩))
   ·rcases h with ⟨h1,h2⟩ | h
    ·exact .inr (.inl ⟨h1,by omega,by omega⟩)
    ·exact .inr (.inr (.inr (by rw [b7 va ls.length 0]; exact h)))
   ·rcases h with ⟨h1,h2⟩ | h
    ·exact .inl ⟨h1,by omega,by omega⟩
    ·exact .inr (.inr (.inl h))
end
end Go.Proofs
end
