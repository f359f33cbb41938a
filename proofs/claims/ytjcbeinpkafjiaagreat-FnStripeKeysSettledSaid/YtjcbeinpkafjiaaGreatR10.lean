/- Parts of the proof: Co. -/
import Derived.Test.YtjcbeinpkafjiaaGreatR09
set_option linter.all false
set_option maxRecDepth 10000
namespace Go.E
open Go Go.Sort Go.Proofs.Tryz
theorem Gz (a:Nat):a &&& 255=a % 256:=by
 have:=Nat.and_two_pow_sub_one_eq_mod a 8
 simpa using this
theorem aA {w:World} {b o:Nat} {c:Array Value} {t:TypeId} (h:w.heap.size≤b) (h2:b < w.heap.size+1):(w.alloc (.cells c t)).cell? ⟨b,o,none⟩=c[o]? := by
 obtain rfl:b=w.heap.size:=by omega
 exact World.cell?_alloc_new w c t o
def KR.v (x:KR):Value := .agg [.int .u64 x.k.tr,x.sv,x.vv].toArray
theorem KR.good.form {d:World} {x:KR} (h:x.good d):∃ a n b m,x.sv = .slice a x.k.suf.length n∧x.vv = .slice b x.k.val.length m:=by
 obtain ⟨a,n,e⟩:=bI h.2.1
 obtain ⟨b,m,e2⟩:=bI h.2.2
 exact ⟨a,n,b,m,e,e2⟩
theorem Keep.tr {M M1:Nat→Nat→Prop} {w w1 w2:World} (h:Keep M w w1) (h2:Keep M1 w1 w2) (hm:∀ b o,b < w.heap.size→M1 b o→M b o):Keep M w w2 where
 size:=aU h.size h2.size
 cell b o hb hn:=by rw [h2.cell b o (aI hb h.size) fun h1=>hn (hm b o hb h1),h.cell b o hb hn]
 frozen b o hb:=by rw [h2.frozen b o (aI hb h.size),h.frozen b o hb]
 block b hb hn:=by rw [h2.block b (aI hb h.size) fun o h1=>hn o (hm b o hb h1),h.block b hb hn]
 st:=⟨h2.st.1.trans h.st.1,h2.st.2.1.trans h.st.2.1,h2.st.2.2.trans h.st.2.2⟩
end Go.E
namespace Go.Proofs
open Go Go.E Go.Sort Go.Proofs.Tryz
section
variable {k:aq} {d w:World}
theorem l9 {x:KR} (h:x.good d) (hk:∀ w',bY w w'→k (.int .u8 (an x.k.tr)) w'):aX prog 140 #[x.v] k w:=by
 obtain ⟨a,n,b,m,e1,e2⟩:=h.form
 have ht:=h.1
 unfold KR.v
 rw [e1,e2]
 have e:∀ {t:TypeId} {xo yo:Operand} {q:Value→Prop},cx prog .and t xo yo (.int .u64 x.k.tr) (.int .u64 255) q=q (.int .u64 (x.k.tr % 256:Nat)):=by
  intro t xo yo q
  have:=mU (P:=prog) (t:=t) (xo:=xo) (yo:=yo) (q:=q) (a:=x.k.tr) (b:=255) ht (by decide)
  rw [Gz] at this
  exact this
 refine ai [.tmp 2] func140 ?_
 refine bf @e ?_
 have e8:IntKind.u8.wrap ((x.k.tr % 256:Nat):Int)=(an x.k.tr:Nat):=by
  unfold an
  have:x.k.tr % 256 < 256:=Nat.mod_lt _ (by decide)
  generalize x.k.tr % 256=m at this
  simp [IntKind.wrap,IntKind.bits,IntKind.signed]
  omega
 rw [e8]
 exact hk _ (aL _)
theorem sI {x:KR} (h:x.good d) (hk:∀ w',bY w w'→k (.int .u64 (x.k.tr / 256:Nat)) w'):aX prog 147 #[x.v] k w:=by
 obtain ⟨a,n,b,m,e1,e2⟩:=h.form
 unfold KR.v
 rw [e1,e2]
 have h8:(0:Int)≤8:=by decide
 have e:=FS (a:=x.k.tr) (s:=8) (n:=8) (m:=256) rfl rfl
 refine ai [.tmp 2] func147 ?_
 simp (disch:=first | exact dZ | fail) only [go_sem,gL h8,e]
 exact hk _ (aL _)
theorem mw {x:KR} {snap:Nat} (h:x.good d) (hs:snap < 18446744073709551616) (hk:∀ w',bY w w'→k (.bool (fu snap x.k.tr)) w'):aX prog 139 #[x.v,.int .u64 snap] k w:=by
 obtain ⟨a,n,b,m,e1,e2⟩:=h.form
 have hv:x.v = .agg [.int .u64 x.k.tr,.slice a x.k.suf.length n,.slice b x.k.val.length m].toArray:=by unfold KR.v; rw [e1,e2]
 rw [hv]
 have ht:=h.1
 have e:∀ {t:TypeId} {xo yo:Operand} {q:Value→Prop},cx prog .and t xo yo (.int .u64 (x.k.tr / 256:Nat)) (.int .u64 36028797018963968) q=q (.int .u64 (x.k.tr / 256 &&& 36028797018963968:Nat)):=by
  intro t xo yo q
  exact mU (P:=prog) (t:=t) (xo:=xo) (yo:=yo) (q:=q) (a:=x.k.tr / 256) (b:=36028797018963968) (by omega) (by decide)
 refine ai [.tmp 4] func139 ?_
 refine al ?_
 rw [← hv]
 refine sI h fun w2 x2 => ?_
 have x3:bY w w2:=(aL _).trans x2
 by_cases hl:x.k.tr / 256 < snap
 ·have hl':((x.k.tr / 256:Nat):Int) < snap:=by omega
  refine bf @hl' ?_
  have hv:fu snap x.k.tr=true:=by unfold fu; simp [hl]
  rw [hv] at hk
  exact hk _ x3
 ·have hl':¬ ((x.k.tr / 256:Nat):Int) < snap:=by omega
  refine dV @hl' @e ?_
  have hv:fu snap x.k.tr=(((x.k.tr / 256 &&& 36028797018963968:Nat):Int) != 0):=by
   unfold fu
   rw [bJ]
   simp [hl]
  rw [hv] at hk
  exact hk _ x3
end
end Go.Proofs
namespace Go.E
open Go Go.Sort Go.Proofs Go.Proofs.Tryz
theorem uU (snap:Nat) (x:KR) (l:List KR):fw snap (x :: l)=if fu snap x.k.tr then (if an x.k.tr=19 then [] else x :: fw snap l) else fw snap l:=rfl
theorem qB (snap:Nat) (x:KR) (l:List KR):fy snap (x :: l)=if fu snap x.k.tr then (if an x.k.tr=19 then some x else fy snap l) else fy snap l:=rfl
def Iu (w:World) (g:Nat) (l:List KR):Prop:=∀ i x,l[i]? = some x→w.cell? ⟨g,i * 3,none⟩=some (.int .u64 x.k.tr)∧w.cell? ⟨g,i * 3+1,none⟩=some x.sv∧w.cell? ⟨g,i * 3+2,none⟩=some x.vv
theorem Iu.keep {w w2:World} {g:Nat} {l:List KR} {M:Nat→Nat→Prop} (h:Iu w g l) (hk:Keep M w w2) (hm:∀ o,¬ M g o):Iu w2 g l:=fun i x hx=>by
 obtain ⟨h1,h2,h3⟩:=h i x hx
 exact ⟨hk.some h1 (hm _),hk.some h2 (hm _),hk.some h3 (hm _)⟩
structure KOwn (d w:World) (Hb ho:Nat) (v:Value) (l:List KR):Prop where
 hd:w.cell? ⟨Hb,ho,none⟩=some v
 own:w.ownsRow 0 256 3 v l.length (flat l)
 good:∀ x ∈ l,x.good d
def g9 (Hb ho:Nat) (v:Value):Nat→Nat→Prop:=fun b x=>b=Hb∧x=ho∨v.ownBlock=some b
def cZ (w:World) (v v2:Value):Prop:=∀ g,v2.ownBlock=some g→v.ownBlock=some g∨w.heap.size≤g
theorem cZ.refl (w:World) (v:Value):cZ w v v:=fun _ h => .inl h
theorem cZ.trans {w w2:World} {v v2 v3:Value} (h:cZ w v v2) (h2:cZ w2 v2 v3) (hs:w.heap.size≤w2.heap.size):cZ w v v3:=fun g hg=>by
 rcases h2 g hg with h3 | h3
 ·exact h g h3
 ·exact .inr (by omega)
theorem cZ.m {w:World} {Hb ho:Nat} {v v2:Value} (h:cZ w v v2) (b x:Nat) (hb:b < w.heap.size) (hm:g9 Hb ho v2 b x):g9 Hb ho v b x:=by
 rcases hm with hm | hm
 ·exact .inl hm
 ·rcases h b hm with h1 | h1
  ·exact .inr h1
  ·omega
theorem fQ {d:World} {x:KR} (h:x.good d):∀ u ∈ x.cells,u.oneCell'=true:=by
 obtain ⟨a,n,b,m,e1,e2⟩:=h.form
 intro u hu
 unfold KR.cells at hu
 rw [e1,e2] at hu
 simp only [ak,List.not_mem_nil,or_false] at hu
 rcases hu with rfl | rfl | rfl <;> rfl
end Go.E
namespace Go.Proofs
open Go Go.E Go.Sort Go.Proofs.Tryz
section
variable {k:aq} {d w:World}
theorem vr {Hb ho n c:Nat} {a:Option Addr} (h:w.cell? ⟨Hb,ho+1,none⟩=some (.slice a n c)) (hk:k (.int .i64 n) w):aX prog 270 #[.pointer (some ⟨Hb,ho,none⟩)] k w:=by
 refine ai [.tmp 2] func270 ?_
 refine bf @h ?_
 exact hk
theorem mA {Hb ho n c:Nat} {a:Option Addr} (h:w.cell? ⟨Hb,ho,none⟩=some (.slice a n c)) (hk:k (.int .i64 n) w):aX prog 278 #[.pointer (some ⟨Hb,ho,none⟩)] k w:=by
 refine ai [.tmp 2] func278 ?_
 refine bf @h ?_
 exact hk
theorem cI (va:Option Addr) (i j c:Nat):(Value.slice va i c).ownBlock=(Value.slice va j c).ownBlock:=by
 rcases va with _ | ⟨b,o,s⟩
 ·rfl
 ·cases o <;> cases s <;> rfl
theorem G0 {v:Value} {acc:List KR} {x:KR} {q:aq} (o:w.ownsRow 0 256 3 v acc.length (flat acc)) (hg:x.good d) (hz:acc.length < 1000000)
    (hk:∀ a c w',w'.ownsRow 0 256 3 (.slice a (acc.length+1) c) (acc.length+1) (flat (acc++[x]))→Keep (fun b _=>v.ownBlock=some b) w w'→cZ w v (.slice a (acc.length+1) c)→q (.slice a (acc.length+1) c) w') :
    pe prog #[110,110] 110 #[v,.slice (some ⟨w.heap.size,0,none⟩) 1 1] q (w.alloc (.cells x.cells.toArray 256)).drew:=by
 obtain ⟨w4,hw4⟩:∃ w4,w4=w.alloc (.cells x.cells.toArray 256):=⟨_,rfl⟩
 rw [← hw4]
 have k4:bY w w4:=by rw [hw4]; exact aL _
 simp only [pe]
 refine rB (m:=1) (news:=x.cells) rw110 ((aZ o k4 (fun _ _ _ h=>h)).drew) (by rfl) ⟨rfl,?_⟩ (fQ hg) ?_ fun v5 w5 o5 k5 n5 _ => ?_
 ·intro j u hj
  rw [dm rfl,Nat.zero_add,hw4]
  rw [show (w.alloc (Obj.cells x.cells.toArray 256)).drew.cell? ⟨w.heap.size,j,none⟩=(w.alloc (Obj.cells x.cells.toArray 256)).cell? ⟨w.heap.size,j,none⟩ from rfl]
  refine al ?_
  simpa using hj
 ·omega
 obtain ⟨a5,cap5,e5,_⟩:=bZ o5
 subst e5
 have fl:flat acc++x.cells=flat (acc++[x]):=by rw [ij]; rfl
 rw [fl] at o5
 have kk5:Keep (fun b _=>v.ownBlock=some b) w4 w5:=(Keep.refl _ w4).drew.trans (k5 _ fun b o hb _=>hb)
 refine hk a5 cap5 w5 o5 (k4.keep.trans kk5) fun g hg => ?_
 rcases n5 with h | ⟨g2,h,h',_⟩
 ·exact .inl (by rw [← h]; exact hg)
 ·rw [h] at hg
  simp only [aK] at hg
  subst hg
  have:w4.drew.heap.size=w4.heap.size:=rfl
  have:=k4.size
  exact .inr (by omega)
theorem xp {Hb ho:Nat} {v:Value} {l:List KR} {tag:KR→Nat} (h:KOwn d w Hb (ho+1) v l) (hinc:bz d w) (hne:∀ g,v.ownBlock=some g→g≠Hb∧cq d g) (hc:w.cell? ⟨Hb,ho,none⟩=some (.func (.func 102) #[] #[])) (hO:kA rM tag l.toArray) (hz:l.length < 1000000)
    (hk:∀ w' l',KOwn d w' Hb (ho+1) v l'→Mg rM tag 0 l.length l.toArray l'.toArray→l'.length=l.length→Keep (fun b _=>v.ownBlock=some b) w w'→k (.tuple #[]) w') :
    aX prog 141 #[.iface 252 (.pointer (some ⟨Hb,ho,none⟩))] k w:=by
 have hHb:=aE hc
 rcases cY h.own with ⟨rfl,h0,hf⟩ | ⟨g,cap,rfl,hcap,hg⟩
 ·have hl:l=[]:=ao.1 h0
  subst hl
  have S:Srt prog (.iface 252 (.pointer (some ⟨Hb,ho,none⟩))) rM w.heap.size (fun w' (b:Array KR)=>b = #[]∧bY w w'):=by
   refine ⟨fun h=>h.2.size,fun h=>by rw [h.1]; simp,fun h hi _ _ => ?_,fun h hi _ _ => ?_,fun ob h=>⟨h.1,h.2.alloc ob⟩,fun h hb=>⟨h.1,h.2.set (fun hlt=>by omega)⟩,fun h=>⟨h.1,h.2.drew⟩⟩
   ·rw [h.1] at hi; simp at hi
   ·rw [h.1] at hi; simp at hi
  refine nj S vh (tag:=tag) (d := #[]) ⟨rfl,bY.refl w⟩ hO (fun {w2 d2 k2} hR hk2 => ?_) fun w' d' h1 h2 => ?_
  ·rw [Tryz.iv252_Len]
   obtain ⟨rfl,hx⟩:=hR
   exact vr (hx.cell h.hd) hk2
  ·obtain ⟨rfl,hx⟩:=h1
   exact hk w' [] ⟨hx.cell h.hd,aZ h.own hx (fun _ _ _ h=>h),h.good⟩ h2 rfl hx.keep
 ·obtain ⟨hgH,hgo⟩:=hne g rfl
  have K0:KRow d w w Hb (ho+1) g cap l.toArray:=⟨by simpa using h.hd,by simpa using h.own,by simpa using h.good,Keep.refl _ w,hinc,hg,hHb,Ne.symm hgH,hgo⟩
  refine nj (Gv (d:=d) (w0:=w) (g:=g) (cap:=cap) hc) vh (tag:=tag) (d:=l.toArray) ⟨K0,by simpa using hz⟩ hO (fun {w2 d2 k2} hR hk2 => ?_) fun w' d' h1 h2 => ?_
  ·rw [Tryz.iv252_Len]
   exact vr hR.1.hd hk2
  ·have hsz:d'.size=l.length:=by have:=h2.1.1; simpa using this
   have e:=h1.1.own
   have e2:=h1.1.hd
   rw [hsz] at e e2
   refine hk w' d'.toList ⟨e2,by simpa [hsz] using e,h1.1.good⟩ (by simpa using h2) (by simpa using hsz) (h1.1.keep.mono fun b o _ hb=>by rw [hb]; rfl)
theorem H4 {Hb ho:Nat} {v:Value} {l:List KR} (h:KOwn d w Hb ho v l) (hinc:bz d w) (hne:∀ g,v.ownBlock=some g→g≠Hb∧cq d g) (hz:l.length < 1000000)
    (hk:∀ w' l',KOwn d w' Hb ho v l'→l'.Perm l→l'.Pairwise (fun x y=>y.k.tr≤x.k.tr)→Keep (fun b _=>v.ownBlock=some b) w w'→k (.tuple #[]) w') :
    aX prog 122 #[.iface 263 (.pointer (some ⟨Hb,ho,none⟩))] k w:=by
 have hHb:=aE h.hd
 rcases cY h.own with ⟨rfl,h0,hf⟩ | ⟨g,cap,rfl,hcap,hg⟩
 ·have hl:l=[]:=ao.1 h0
  subst hl
  have S:Srt prog (.iface 263 (.pointer (some ⟨Hb,ho,none⟩))) AW w.heap.size (fun w' (b:Array KR)=>b = #[]∧bY w w'):=by
   refine ⟨fun h=>h.2.size,fun h=>by rw [h.1]; simp,fun h hi _ _ => ?_,fun h hi _ _ => ?_,fun ob h=>⟨h.1,h.2.alloc ob⟩,fun h hb=>⟨h.1,h.2.set (fun hlt=>by omega)⟩,fun h=>⟨h.1,h.2.drew⟩⟩
   ·rw [h.1] at hi; simp at hi
   ·rw [h.1] at hi; simp at hi
  refine xX S AX (d := #[]) ⟨rfl,bY.refl w⟩ (fun {w2 d2 k2} hR hk2 => ?_) fun w' d' h1 h2 h3 => ?_
  ·rw [Tryz.iv263_Len]
   obtain ⟨rfl,hx⟩:=hR
   exact mA (hx.cell h.hd) hk2
  ·obtain ⟨rfl,hx⟩:=h1
   exact hk w' [] ⟨hx.cell h.hd,aZ h.own hx (fun _ _ _ h=>h),h.good⟩ (List.Perm.refl _) List.Pairwise.nil hx.keep
 ·obtain ⟨hgH,hgo⟩:=hne g rfl
  have K0:KRow d w w Hb ho g cap l.toArray:=⟨by simpa using h.hd,by simpa using h.own,by simpa using h.good,Keep.refl _ w,hinc,hg,hHb,Ne.symm hgH,hgo⟩
  refine xX (FX (d:=d) (w0:=w) (Hb:=Hb) (ho:=ho) (g:=g) (cap:=cap)) AX (d:=l.toArray) ⟨K0,by simpa using hz⟩ (fun {w2 d2 k2} hR hk2 => ?_) fun w' d' h1 h2 h3 => ?_
  ·rw [Tryz.iv263_Len]
   exact mA hR.1.hd hk2
  ·have hsz:d'.size=l.length:=by have:=h2.1; simpa using this
   have e:=h1.1.own
   have e2:=h1.1.hd
   rw [hsz] at e e2
   refine hk w' d'.toList ⟨e2,by simpa [hsz] using e,h1.1.good⟩ (by simpa using dp h2 (aD _)) ?_ (h1.1.keep.mono fun b o _ hb=>by rw [hb]; rfl)
   rw [bA]
   intro i j hi hj hij
   simp only [Array.length_toList] at hi hj
   have s:=h3 i j (aQ _) hij (by simp; omega)
   rw [aG d' i hi,aG d' j hj] at s
   simp only [AW,decide_eq_false_iff_not] at s
   simp only [Array.getElem_toList]
   omega
def Ez (x y:K):Bool:=decide (y.tr < x.tr)
theorem rN:SWO Ez where
 irrefl x:=by unfold Ez; simp
 trans x y z:=by unfold Ez; simp; omega
 ntrans x y z:=by unfold Ez; simp; omega
def mB (l:List K):List K:=(DW Ez l.toArray).toList
theorem mC {a:Array KR} {i:Nat} (h:i < a.size):(a.map KR.k)[i]! = a[i]!.k:=by
 rw [aG (a.map KR.k) i (by simpa using h),aG a i h]
 simp
theorem Ad {a:Array KR} {i j:Nat} (hi:i < a.size) (hj:j < a.size):(swp a i j).map KR.k=swp (a.map KR.k) i j:=by
 have e1:(swp a i j).toList=(a.toList.set i a[j]!).set j a[i]! := by simp [swp]
 have e2:(swp (a.map KR.k) i j).toList=((a.map KR.k).toList.set i (a.map KR.k)[j]!).set j (a.map KR.k)[i]! := by simp [swp]
 apply Array.toList_inj.1
 rw [e2,mC hi,mC hj,Array.toList_map,e1,List.map_set,List.map_set,Array.toList_map]
theorem qC {Hb ho:Nat} {v:Value} {l:List KR} (h:KOwn d w Hb ho v l) (hinc:bz d w) (hne:∀ g,v.ownBlock=some g→g≠Hb∧cq d g) (hz:l.length < 1000000)
    (hk:∀ w' l',KOwn d w' Hb ho v l'→l'.length=l.length→l'.map KR.k=mB (l.map KR.k)→(l'.map KR.k).Perm (l.map KR.k)→l'.Pairwise (fun x y=>y.k.tr≤x.k.tr)→Keep (fun b _=>v.ownBlock=some b) w w'→k (.tuple #[]) w') :
    aX prog 122 #[.iface 263 (.pointer (some ⟨Hb,ho,none⟩))] k w:=by
 have hHb:=aE h.hd
 rcases cY h.own with ⟨rfl,h0,hf⟩ | ⟨g,cap,rfl,hcap,hg⟩
 ·have hl:l=[]:=ao.1 h0
  subst hl
  have S:Srt prog (.iface 263 (.pointer (some ⟨Hb,ho,none⟩))) Ez w.heap.size (fun w' (b:Array K)=>b = #[]∧bY w w'):=by
   refine ⟨fun h=>h.2.size,fun h=>by rw [h.1]; simp,fun h hi _ _ => ?_,fun h hi _ _ => ?_,fun ob h=>⟨h.1,h.2.alloc ob⟩,fun h hb=>⟨h.1,h.2.set (fun hlt=>by omega)⟩,fun h=>⟨h.1,h.2.drew⟩⟩
   ·rw [h.1] at hi; simp at hi
   ·rw [h.1] at hi; simp at hi
  refine mW S rN (d := #[]) ⟨rfl,bY.refl w⟩ (fun {w2 d2 k2} hR hk2 => ?_) fun w' d' h0 h1 h2 h3 => ?_
  ·rw [Tryz.iv263_Len]
   obtain ⟨rfl,hx⟩:=hR
   exact mA (hx.cell h.hd) hk2
  ·obtain ⟨rfl,hx⟩:=h1
   exact hk w' [] ⟨hx.cell h.hd,aZ h.own hx (fun _ _ _ h=>h),h.good⟩ rfl rfl (List.Perm.refl _) List.Pairwise.nil hx.keep
 ·obtain ⟨hgH,hgo⟩:=hne g rfl
  have K0:KRow d w w Hb ho g cap l.toArray:=⟨by simpa using h.hd,by simpa using h.own,by simpa using h.good,Keep.refl _ w,hinc,hg,hHb,Ne.symm hgH,hgo⟩
  have S:Srt prog (.iface 263 (.pointer (some ⟨Hb,ho,none⟩))) Ez w.heap.size (fun w' (b:Array K)=>∃ a:Array KR,KRow d w w' Hb ho g cap a∧a.map KR.k=b∧a.size < 1000000):=by
   refine ⟨fun ⟨a,h,_⟩=>h.keep.size,fun ⟨a,h,e,hz⟩=>by rw [← e]; simp; omega,fun {w' b i j k} ⟨a,h,e,hz⟩ hi hj hk => ?_,fun {w' b i j k} ⟨a,h,e,hz⟩ hi hj hk => ?_,fun ob ⟨a,h,e,hz⟩=>⟨a,h.alloc ob,e,hz⟩,fun ⟨a,h,e,hz⟩ hb=>⟨a,h.set hb,e,hz⟩,fun ⟨a,h,e,hz⟩=>⟨a,h.drew,e,hz⟩⟩
   ·subst e
    have hi:i < a.size:=by simpa using hi
    have hj:j < a.size:=by simpa using hj
    rw [Tryz.iv263_Less]
    refine o9 h hi hj ?_
    have:=hk w'.drew ⟨a,h.drew,rfl,hz⟩ rfl
    rwa [mC hi,mC hj] at this
   ·subst e
    have hi:i < a.size:=by simpa using hi
    have hj:j < a.size:=by simpa using hj
    rw [Tryz.iv263_Swap]
    refine pA h hi hj fun w2 h2 h3 h4=>hk w2 ⟨_,h2,Ad hi hj,by rw [swp_size]; exact hz⟩ h3 fun b hb _=>h4 b ?_
    omega
  refine mW S rN (d:=(l.map KR.k).toArray) ⟨l.toArray,K0,by simp,by simpa using hz⟩ (fun {w2 d2 k2} hR hk2 => ?_) fun w' d' h0 h1 h2 h3 => ?_
  ·obtain ⟨a,hR,e,_⟩:=hR
   subst e
   rw [Array.size_map] at hk2
   rw [Tryz.iv263_Len]
   exact mA hR.hd hk2
  ·obtain ⟨a,hR,e,_⟩:=h1
   have hsz:a.size=l.length:=by have:=h2.1; rw [← e] at this; simpa using this
   have e1:=hR.own
   have e2:=hR.hd
   rw [hsz] at e1 e2
   have em:a.toList.map KR.k=d'.toList:=by rw [← e]; simp
   refine hk w' a.toList ⟨e2,by simpa [hsz] using e1,hR.good⟩ (by simpa using hsz) (by rw [em,h0]; rfl) (by rw [em]; simpa using dp h2 (aD _)) ?_ (hR.keep.mono fun b o _ hb=>by rw [hb]; rfl)
   rw [bA]
   intro i j hi hj hij
   simp only [Array.length_toList] at hi hj
   have s:=h3 i j (aQ _) hij (by simp; omega)
   rw [← e,mC hi,mC hj,aG a i hi,aG a j hj] at s
   simp only [Ez,decide_eq_false_iff_not] at s
   simp only [Array.getElem_toList]
   omega
set_option maxHeartbeats 1000000 in
theorem vt {Hb ho gk snap cap:Nat} {ka:Option Addr} {vs:Value} {l:List KR} (hc:w.cell? ⟨Hb,ho,none⟩=some (.func (.func 102) #[] #[])) (ho0:KOwn d w Hb (ho+1) vs []) (hf:∀ x,w.frozen? ⟨Hb,x,none⟩=false)
    (hne:∀ g,vs.ownBlock=some g→g≠Hb∧g≠gk∧cq d g) (hgk:gk≠Hb) (hoH:d.cell? ⟨Hb,ho+1,none⟩=none) (hkv:0 < l.length→ka=some ⟨gk,0,none⟩) (hka:Iu w gk l) (hkl:0 < l.length→gk < w.heap.size) (hgood:∀ x ∈ l,x.good d) (hinc:bz d w) (hd:DK l) (hl:l.length < 100000) (hs:snap < 18446744073709551616)
    (hk:∀ w' vs' r,KOwn d w' Hb (ho+1) vs' (r++(fy snap l).toList)→CoR snap l r→r.length≤l.length→Keep (g9 Hb (ho+1) vs) w w'→cZ w vs vs'→k .nilIface w') :
    aX prog 124 #[.func (.func 103) #[] #[],.pointer (some ⟨Hb,ho,none⟩),.int .u64 snap,.slice ka l.length cap] k w:=by
 refine ai [.tmp 8] func124 ?_
 refine al ?_
 refine gm (fun di:Int=>[(0,.func (.func 103) #[] #[]),(1,.pointer (some ⟨Hb,ho,none⟩)),(3,.slice ka l.length cap),(9,.int .i64 di)]) (fun di w1=>∃ v1,KOwn d w1 Hb (ho+1) v1 (fw snap l)∧Keep (g9 Hb (ho+1) vs) w w1∧cZ w vs v1∧((di = -1∧fy snap l=none)∨∃ i:Nat,di=i∧l[i]? = fy snap l∧i < l.length)) (by kernel_rfl) (fun K hK => ?_) ?_
 ·refine bO (fun i:Nat=>[(0,.func (.func 103) #[] #[]),(1,.pointer (some ⟨Hb,ho,none⟩)),(2,.int .u64 snap),(3,.slice ka l.length cap),(9,.int .i64 (-1)),(16,.int .i64 l.length),(17,.int .i64 i)])
    (fun i w1=>∃ v1 acc,KOwn d w1 Hb (ho+1) v1 acc∧Keep (g9 Hb (ho+1) vs) w w1∧cZ w vs v1∧fw snap l=acc++fw snap (l.drop i)∧fy snap l=fy snap (l.drop i)∧i≤l.length∧acc.length≤i) (fun i _=>l.length - i) 0 (by kernel_rfl) ?_ ⟨vs,[],ho0,Keep.refl _ w,cZ.refl w vs,rfl,rfl,aQ _,aQ _⟩ ?_
  ·exact bE
  rintro K2 e2 i w1 ⟨v1,acc,h1,h2,h3,h4,h5,h6,h7⟩ hK2
  by_cases hi:i < l.length
  ·have hi':(i:Int) < l.length:=by omega
   obtain ⟨x,hx⟩:∃ x,l[i]? = some x:=⟨l[i],aC hi⟩
   have hxm:x ∈ l:=aJ hx
   have hg:=hgood x hxm
   obtain ⟨a,n,b,m,q1,q2⟩:=hg.form
   have hv:x.v = .agg [.int .u64 x.k.tr,.slice a x.k.suf.length n,.slice b x.k.val.length m].toArray:=by unfold KR.v; rw [q1,q2]
   have hgm:∀ o,¬ g9 Hb (ho+1) vs gk o:=by
    rintro o (⟨h,_⟩ | h)
    ·exact hgk h
    ·exact (hne _ h).2.1 rfl
   obtain ⟨c1,c2,c3⟩:=(hka.keep h2 hgm) i x hx
   rw [q1] at c2
   rw [q2] at c3
   have hka':=hkv (by omega)
   subst hka'
   have hdrop:l.drop i=x :: l.drop (i+1):=by
    rw [cN hi]
    congr 1
    rw [aC hi] at hx
    exact bQ hx
   rw [hdrop,uU] at h4
   rw [hdrop,qB] at h5
   refine bf @hi' ?_
   refine ay (sq [0,1,2,3,4,5,6,7,8] (.read 9 (sq [10,11,12,13,14] (.read 15 (sq [16,17] .done))))) ?_
   refine eI @c1 @c2 @c3 ?_
   rw [← hv]
   refine mw hg hs fun w2 x2 => ?_
   have x2:bY w1 w2:=(Keep.refl _ w1).drew.trans x2
   have x2':=x2
   cases hvis:fu snap x.k.tr with
   | false =>
    rw [hvis,if_neg (by simp)] at h4 h5
    refine al ?_
    refine hK2 _ _ (i+1) ?_ ⟨v1,acc,⟨x2.cell h1.hd,aZ h1.own x2 (fun _ _ _ h=>h),h1.good⟩,h2.trans x2.keep,h3,h4,h5,by omega,by omega⟩ (by omega)
    exact bE
   | true =>
    rw [hvis,if_pos rfl] at h4 h5
    have c1:=x2.cell c1
    have c2:=x2.cell c2
    have c3:=x2.cell c3
    refine eI @c1 @c2 @c3 ?_
    rw [← hv]
    refine l9 hg fun w3 x3 => ?_
    have x3':bY w1 w3:=x2'.trans x3
    by_cases h9:an x.k.tr=19
    ·have h9':(((an x.k.tr:Nat):Int) == 19)=true:=by rw [h9]; rfl
     rw [if_pos h9] at h4 h5
     refine bf @h9' ?_
     refine hK _ _ (i:Int) ?_ ⟨v1,?_,?_,h3,.inr ⟨i,rfl,by rw [h5,hx],hi⟩⟩
     ·exact bE
     ·rw [h4,au]
      exact ⟨x3'.cell h1.hd,aZ h1.own x3' (fun _ _ _ h=>h),h1.good⟩
     ·exact h2.trans x3'.keep
    ·have h9':(((an x.k.tr:Nat):Int) == 19)=false:=by
       rw [beq_eq_false_iff_ne]; omega
     rw [if_neg h9] at h4 h5
     have c1:=x3.cell c1
     have c2:=x3.cell c2
     have c3:=x3.cell c3
     have c4:=x3'.cell h1.hd
     have hHb:=aE c4
     have o3:=aZ h1.own x3' (fun _ _ _ h=>h)
     have fH:∀ x,w3.frozen? ⟨Hb,x,none⟩=false:=fun x=>by rw [x3'.frozen Hb x (aE h1.hd),h2.frozen Hb x (aE hc)]; exact hf x
     have hvH:∀ g,v1.ownBlock=some g→g≠Hb:=fun g hg=>by
      rcases h3 g hg with h | h
      ·exact (hne g h).1
      ·have:=aE hc; omega
     refine bf @h9' ?_
     refine ay (sq [0,1,2,3] (.read 4 (sq [5,6,7] (.read 8 (.eff 9 [4] (.eff 10 [] (sq [11,12] (.eff 13 [] .done)))))))) ?_
     refine fW @c1 @c2 @c3 @c4 ?_
     obtain ⟨w4,hw4⟩:∃ w4,w4=w3.alloc (.cells x.cells.toArray 256):=⟨_,rfl⟩
     have hcells : #[Value.int IntKind.u64 x.k.tr,Value.slice a x.k.suf.length n,Value.slice b x.k.val.length m]=x.cells.toArray:=by unfold KR.cells; rw [q1,q2]
     rw [hcells,← hw4]
     have k4:bY w3 w4:=by rw [hw4]; exact aL _
     have hz4:w4.heap.size=w3.heap.size+1:=by rw [hw4,World.size_alloc]
     simp only [pe]
     refine rB (m:=1) (news:=x.cells) rw110 ((aZ o3 k4 (fun _ _ _ h=>h)).drew) (by rfl) ⟨rfl,?_⟩ (fQ hg) ?_ fun v5 w5 o5 k5 n5 _ => ?_
     ·intro j u hj
      rw [dm rfl,Nat.zero_add,hw4]
      rw [show (w3.alloc (Obj.cells x.cells.toArray 256)).drew.cell? ⟨w3.heap.size,j,none⟩=(w3.alloc (Obj.cells x.cells.toArray 256)).cell? ⟨w3.heap.size,j,none⟩ from rfl]
      refine al ?_
      simpa using hj
     ·omega
     have kk5:Keep (fun b _=>v1.ownBlock=some b) w4 w5:=(Keep.refl _ w4).drew.trans (k5 _ fun b o hb _=>hb)
     have k15:Keep (fun b _=>v1.ownBlock=some b) w1 w5:=(x3'.trans k4).keep.trans kk5
     have hvg:∀ g,v1.ownBlock=some g→g≠gk:=fun g hg=>by
      rcases h3 g hg with h | h
      ·exact (hne g h).2.1
      ·have:=hkl (by omega); omega
     have k35:Keep (fun b _=>v1.ownBlock=some b) w3 w5:=k4.keep.trans kk5
     have c1:=k35.some c1 (fun h=>hvg _ h rfl)
     have c2:=k35.some c2 (fun h=>hvg _ h rfl)
     have c3:=k35.some c3 (fun h=>hvg _ h rfl)
     have c4:=k35.some c4 (fun h=>hvH _ h rfl)
     have fH5:∀ x,w5.frozen? ⟨Hb,x,none⟩=false:=fun x=>by rw [k35.frozen Hb x hHb]; exact fH x
     have hxc:Value.agg x.cells.toArray = .agg [.int .u64 x.k.tr,.slice a x.k.suf.length n,.slice b x.k.val.length m].toArray:=by unfold KR.cells; rw [q1,q2]
     rw [hxc]
     obtain ⟨a5,cap5,e5,_⟩:=bZ o5
     subst e5
     refine gH @c1 @c2 @c3 @c4 @fH5 ?_
     have fl:flat acc++x.cells=flat (acc++[x]):=by rw [ij]; rfl
     rw [fl] at o5
     obtain ⟨w6,hw6⟩:∃ w6,w6=w5.setCell ⟨Hb,ho+1,none⟩ (.slice a5 (acc.length+1) cap5):=⟨_,rfl⟩
     rw [← hw6]
     have k56:Keep (fun b o=>b=Hb∧o=ho+1) w5 w6:=by rw [hw6]; exact bR ⟨rfl,rfl⟩
     have n15:cZ w1 v1 (.slice a5 (acc.length+1) cap5):=fun g hg=>by
      rcases n5 with h | ⟨g2,h,h',_⟩
      ·exact .inl (by rw [← h]; exact hg)
      ·rw [h] at hg
       simp only [aK] at hg
       subst hg
       have:w4.drew.heap.size=w4.heap.size:=rfl
       have:=k4.size
       have:=x3'.size
       exact .inr (by omega)
     have n05:=h3.trans n15 h2.size
     have k05:Keep (g9 Hb (ho+1) vs) w w5:=h2.tr k15 fun b o hb hm=>h3.m b o hb (.inr hm)
     refine hK2 _ _ (i+1) ?_ ⟨.slice a5 (acc.length+1) cap5,acc++[x],⟨?_,?_,?_⟩,k05.tr k56 fun b o hb hm => .inl hm,n05,?_,h5,by omega,by simp; omega⟩ (by omega)
     ·exact bE
     ·rw [hw6]; exact bb @c4
     ·rw [aM]
      refine aZ o5 k56 ?_
      intro g hg o he
      rcases n15 g hg with h | h
      ·exact hvH g h he.1
      ·have:=x3'.size; have:=aE h1.hd; omega
     ·intro y hy
      rcases ax.1 hy with h | h
      ·exact h1.good y h
      ·rw [ae] at h; subst h; exact hg
     ·rw [h4,bt]; rfl
  ·have hi':¬ (i:Int) < l.length:=by omega
   obtain rfl:i=l.length:=by omega
   rw [List.drop_length] at h4 h5
   refine bf @hi' ?_
   refine hK _ _ (-1) ?_ ⟨v1,?_,h2,h3,.inl ⟨rfl,h5⟩⟩
   ·exact bE
   ·rw [h4,show fw snap []=[] from rfl,au]; exact h1
 rintro e1 di w1 ⟨v1,h1,h2,h3,hdi⟩
 have hv1:∀ g,v1.ownBlock=some g→g≠Hb∧cq d g∧(0 < l.length→g≠gk):=fun g hg=>by
  rcases h3 g hg with h | h
  ·exact ⟨(hne g h).1,(hne g h).2.2,fun _=>(hne g h).2.1⟩
  ·have:=aE hc
   exact ⟨by omega,hinc.out h,fun hl=>by have:=hkl hl; omega⟩
 have hinc1:bz d w1:=hinc.keep h2 fun b o hb=>by
  rcases hb with ⟨rfl,rfl⟩ | h
  ·exact hoH
  ·exact (hne b h).2.2 o
 have hc1:w1.cell? ⟨Hb,ho,none⟩=some (.func (.func 102) #[] #[]):=h2.some hc (by
  rintro (⟨_,h⟩ | h)
  ·omega
  ·exact (hne _ h).1 rfl)
 have hpl:(fw snap l).length≤l.length:=kB.length_le
 refine al ?_
 refine xp (tag:=fun x=>18446744073709551616 - x.k.tr) h1 hinc1 (fun g hg=>⟨(hv1 g hg).1,(hv1 g hg).2.1⟩) hc1 (Db (snap:=snap) (l:=l) (by simp) hd fun x hx=>(hgood x hx).1) (by omega) fun w2 s h4 h5 h6 k2 => ?_
 have hcr:CoR snap l (nz none s):=by
  have:=Da (snap:=snap) (l:=l) (a:=(fw snap l).toArray) (b:=s.toArray) (by simp) (by simpa using h5) fun x hx=>(hgood x hx).1
  simpa using this
 have fH2:∀ x,w2.frozen? ⟨Hb,x,none⟩=false:=fun x=>by rw [k2.frozen Hb x (aE h1.hd),h2.frozen Hb x (aE hc)]; exact hf x
 have h4H:=h4.hd
 have h4o:=h4.own
 obtain ⟨n,hn⟩:∃ n,n=s.length:=⟨_,rfl⟩
 have hnl:n≤l.length:=by omega
 rw [← hn] at h4o
 have hva:0 < n→∃ g c,v1 = .slice (some ⟨g,0,none⟩) n c:=by
  intro h0
  rcases cY h4o with ⟨_,h,_⟩ | ⟨g,c,h,_⟩
  ·omega
  ·exact ⟨g,c,h⟩
 obtain ⟨va,vcap,hv1e,hvcap,hvm⟩:=bZ h4o
 subst hv1e
 have k02:Keep (g9 Hb (ho+1) vs) w w2:=h2.tr k2 fun b o hb hm=>h3.m b o hb (.inr hm)
 have z0:(0:Int).toNat=0:=rfl
 have zc:(0:Int)≤vcap:=by omega
 simp (disch:=first | exact dZ | fail) only [go_sem,h4H,sD Tryz.es110,z0,zc,fH2]
 obtain ⟨w3,hw3⟩:∃ w3,w3=w2.setCell ⟨Hb,ho+1,none⟩ (.slice va 0 vcap):=⟨_,rfl⟩
 rw [← hw3]
 have k23:Keep (fun b o=>b=Hb∧o=ho+1) w2 w3:=by rw [hw3]; exact bR ⟨rfl,rfl⟩
 have h3H:w3.cell? ⟨Hb,ho+1,none⟩=some (.slice va 0 vcap):=by rw [hw3]; exact bb @h4H
 have o3:w3.ownsRow 0 256 3 (.slice va n vcap) n (flat s):=aZ h4o k23 fun g hg o he=>(hv1 g hg).1 he.1
 refine bO (fun x:Nat × Value × Bool=>[(0,.func (.func 103) #[] #[]),(1,.pointer (some ⟨Hb,ho,none⟩)),(3,.slice ka l.length cap),(9,.int .i64 di),(11,.slice va n vcap),(12,x.2.1),(13,.bool x.2.2),(83,.int .i64 n),(84,.int .i64 x.1)])
  (fun x w'=>∃ c dd,w'.cell? ⟨Hb,ho+1,none⟩=some (.slice va (if x.2.2 then dd.length else 0) vcap)∧w'.ownsRow 0 256 3 (.slice va n vcap) n (flat c)∧(∀ y ∈ c,y.good d)∧c.length=n∧c.take dd.length=dd∧c.drop x.1=s.drop x.1∧dd.length≤x.1∧(x.2.2=false→dd.length=x.1)∧(x.2.2=true→dd.length < x.1) ∧
   nz none s=dd++nz (if x.1=0 then none else some s[x.1 - 1]!.k.suf) (s.drop x.1)∧(0 < x.1→fV d x.2.1 s[x.1 - 1]!.k.suf)∧Keep (g9 Hb (ho+1) (.slice va n vcap)) w2 w'∧x.1≤n)
  (fun x _=>n - x.1) (0,.slice none 0 0,false) (by kernel_rfl) ?_ ⟨s,[],h3H,o3,h4.good,hn.symm,rfl,rfl,aD _,fun _=>rfl,fun h=>by simp at h,rfl,fun h=>by simp at h,k23.mono fun b o _ h => .inl h,aQ _⟩ ?_
 ·exact bE
 rintro K e2 ⟨i,pv,sh⟩ w4 ⟨c,dd,i1,i2,i3,i4,i5,i6,i7,i8,i9,i10,i11,i12,i13⟩ hK
 simp only at i1 i2 i3 i4 i5 i6 i7 i8 i9 i10 i11 i12 i13
 have fH4:∀ x,w4.frozen? ⟨Hb,x,none⟩=false:=fun x=>by rw [i12.frozen Hb x (aE h4H)]; exact fH2 x
 by_cases hi:i < n
 ·have hi':(i:Int) < n:=by omega
  obtain ⟨g,vcap',hvg⟩:=hva (by omega)
  simp only [aW,true_and] at hvg
  obtain ⟨rfl,rfl⟩:=hvg
  obtain ⟨x,hx⟩:∃ x,s[i]? = some x:=⟨s[i],aC (by omega)⟩
  have hx2:s[i]! = x:=by rw [getElem!_def,hx]
  have hcx:c[i]? = some x:=by
   have:=congrArg (fun l=>l[0]?) i6
   simpa [hx] using this
  have hg:=i3 x (aJ hcx)
  obtain ⟨a,na,b,nb,q1,q2⟩:=hg.form
  obtain ⟨f1,f2,f3⟩:=dz hcx
  have c1:=av i2 f1
  have c2:=av i2 f2
  have c3:=av i2 f3
  rw [q1] at c2
  rw [q2] at c3
  have hgH:g≠Hb:=(hv1 g rfl).1
  have hdrop:s.drop i=x :: s.drop (i+1):=by
   rw [cN (by omega)]
   congr 1
   rw [aC (by omega)] at hx
   exact bQ hx
  have hinc4:bz d w4:=(hinc1.keep k2 fun b o hb=>(hv1 b hb).2.1 o).keep i12 fun b o hb=>by
   rcases hb with ⟨rfl,rfl⟩ | h
   ·exact hoH
   ·exact (hv1 b h).2.1 o
  have hd6:c.drop (i+1)=s.drop (i+1):=by
   have:=congrArg (List.drop 1) i6
   simpa [Nat.add_comm] using this
  by_cases h0:i=0
  ·subst h0
   have hsh:sh=false:=by
    cases sh with
    | false=>rfl
    | true=>have:=i9 rfl; omega
   subst hsh
   have hdd:dd=[]:=ao.1 (by omega)
   subst hdd
   have z00:¬ (0:Int) < ((0:Nat):Int):=by decide
   refine gH @hi' @z00 @c1 @c2 @c3 ?_
   refine hK _ _ (1,.slice a x.k.suf.length na,false) ?_ ⟨c,[x],by simpa using i1,i2,i3,i4,?_,hd6,aD _,fun _=>rfl,fun h=>by simp at h,?_,fun _ => ?_,i12,by simp only; omega⟩ (by simp only; omega)
   ·exact bE
   ·have:c=x :: c.drop 1:=by
      cases c with
      | nil=>simp at hcx
      | cons y c=>simp at hcx; simp [hcx]
    rw [this]; rfl
   ·rw [i10,if_pos rfl,hdrop]
    simp [nz,hx2]
   ·simp only
    rw [show 1 - 1=0 from rfl,hx2,← q1]
    exact hg.2.1
  ·have h0':(0:Int) < i:=by omega
   rw [if_neg h0] at i10
   have i11:=i11 (by omega)
   refine gH @hi' @h0' @c1 @c2 @c3 ?_
   refine ga (i11.inc hinc4) (by rw [← q1]; exact hg.2.1.inc hinc4) ?_
   by_cases he:s[i - 1]!.k.suf=x.k.suf
   ·rw [aO he]
    rw [hdrop] at i10
    have i10':nz none s=dd++nz (some s[i - 1]!.k.suf) (s.drop (i+1)):=by
     rw [i10]
     congr 1
     conv=>lhs; unfold nz
     rw [if_pos (by rw [he])]
    have e1:i+1 - 1=i:=by omega
    cases sh with
    | false =>
     have hl:=i8 rfl
     have z1:(0:Int)≤i:=by omega
     have z2:(i:Int)≤vcap:=by omega
     simp only [Bool.false_eq_true,if_false] at i1
     simp (disch:=first | exact dZ | fail) only [go_sem,i1,sD Tryz.es110,z1,z2,fH4]
     refine hK _ _ (i+1,pv,true) ?_ ⟨c,dd,?_,?_,i3,i4,i5,hd6,by simp only; omega,fun h=>by simp at h,fun _=>by simp only; omega,?_,fun _ => ?_,i12.set (fun _ => .inl ⟨rfl,rfl⟩),by simp only; omega⟩ (by simp only; omega)
     ·exact bE
     ·rw [hl]; exact bb @i1
     ·exact aZ i2 (bR (M:=fun b o=>b=Hb∧o=ho+1) ⟨rfl,rfl⟩) fun g' hg' o h=>(hv1 g' hg').1 h.1
     ·simp only
      rw [if_neg (by omega),e1,hx2,i10',he]
     ·simp only
      rw [e1,hx2,← he]; exact i11
    | true =>
     have hl:=i9 rfl
     refine al ?_
     refine hK _ _ (i+1,pv,true) ?_ ⟨c,dd,i1,i2,i3,i4,i5,hd6,by simp only; omega,fun h=>by simp at h,fun _=>by simp only; omega,?_,fun _ => ?_,i12,by simp only; omega⟩ (by simp only; omega)
     ·exact bE
     ·simp only
      rw [if_neg (by omega),e1,hx2,i10',he]
     ·simp only
      rw [e1,hx2,← he]; exact i11
   ·rw [aF he]
    rw [hdrop] at i10
    have i10':nz none s=(dd++[x])++nz (some x.k.suf) (s.drop (i+1)):=by
     rw [i10,bt]
     congr 1
     conv=>lhs; unfold nz
     rw [if_neg (by simpa using he)]
     rfl
    have e1:i+1 - 1=i:=by omega
    cases sh with
    | false =>
     have hl:=i8 rfl
     simp only [Bool.false_eq_true,if_false] at i1
     refine eI @c1 @c2 @c3 ?_
     refine hK _ _ (i+1,.slice a x.k.suf.length na,false) ?_ ⟨c,dd++[x],by simpa using i1,i2,i3,i4,?_,hd6,by simp; omega,fun _=>by simp; omega,fun h=>by simp at h,?_,fun _ => ?_,i12,by simp only; omega⟩ (by simp only; omega)
     ·exact bE
     ·rw [aM,aY,List.take_add_one,i5,hl,hcx]; rfl
     ·simp only
      rw [if_neg (by omega),e1,hx2,i10']
     ·simp only
      rw [e1,hx2,← q1]; exact hg.2.1
    | true =>
     have hl:=i9 rfl
     simp only [if_true] at i1
     have hHb4:=aE i1
     have hg4:=aE c1
     refine eI @c1 @c2 @c3 ?_
     refine ay (sq [0,1,2,3] (.read 4 (sq [5,6,7] (.read 8 (.eff 9 [4] (.eff 10 [] (sq [11,12] (.eff 13 [] .done)))))))) ?_
     refine fW @c1 @c2 @c3 @i1 ?_
     have hcells : #[Value.int IntKind.u64 x.k.tr,Value.slice a x.k.suf.length na,Value.slice b x.k.val.length nb]=x.cells.toArray:=by unfold KR.cells; rw [q1,q2]
     obtain ⟨w5,hw5⟩:∃ w5,w5=w4.alloc (.cells x.cells.toArray 256):=⟨_,rfl⟩
     rw [hcells,← hw5]
     have k5:bY w4 w5:=by rw [hw5]; exact aL _
     obtain ⟨w6,hw6⟩:∃ w6,w6=(((w5.setCell ⟨g,dd.length * 3,none⟩ (.int .u64 x.k.tr)).setCell ⟨g,dd.length * 3+1,none⟩ x.sv).setCell ⟨g,dd.length * 3+2,none⟩ x.vv):=⟨_,rfl⟩
     have hclen:(flat c).length=n * 3:=by rw [fq,i4]
     have bridge:∀ q:aq,pe prog #[110,110] 110 #[.slice (some ⟨g,0,none⟩) dd.length vcap,.slice (some ⟨w4.heap.size,0,none⟩) 1 1] q w5.drew=q (.slice (some ⟨g,0,none⟩) (dd.length+1) vcap) w6.drew:=by
      intro q
      have:=ov (k:=q) (w:=w5.drew) (by_:=56) (ty:=110) (news:=x.cells) (m:=1) (c:=1) (cap:=vcap) (b:=g) (off:=0) (n:=dd.length) (a:=⟨w4.heap.size,0,none⟩) rw110 rfl ?_ (fQ hg) (by omega) ?_ ?_
      ·rw [Nat.zero_add] at this
       rw [hw6]; exact this
      ·intro j u hu
       rw [dm rfl,Nat.zero_add,hw5]
       rw [show (w4.alloc (Obj.cells x.cells.toArray 256)).drew.cell? ⟨w4.heap.size,j,none⟩=(w4.alloc (Obj.cells x.cells.toArray 256)).cell? ⟨w4.heap.size,j,none⟩ from rfl]
       refine al ?_
       simpa using hu
      ·intro j hj
       have hj:j < 3:=hj
       have:(flat c)[dd.length * 3+j]? = some (flat c)[dd.length * 3+j]:=aC (by omega)
       rw [Nat.zero_add]
       exact ⟨_,(k5.cell (av i2 this):w5.drew.cell? _=_)⟩
      ·intro o
       have:=cS (aZ i2 k5 (fun _ _ _ h=>h)) rfl o
       exact this
     rw [bridge]
     have l1:=k5.cell c1
     have l2:=k5.cell c2
     have l3:=k5.cell c3
     have l4:=k5.cell i1
     have l5:∀ o,w5.frozen? ⟨Hb,o,none⟩=false:=fun o=>by rw [k5.frozen Hb o hHb4]; exact fH4 o
     have d1:dd.length * 3≠i * 3:=by omega
     have hxc:Value.agg x.cells.toArray = .agg [.int .u64 x.k.tr,.slice a x.k.suf.length na,.slice b x.k.val.length nb].toArray:=by unfold KR.cells; rw [q1,q2]
     rw [hxc]
     have m1:w6.cell? ⟨g,i * 3,none⟩=some (.int .u64 x.k.tr):=by rw [hw6]; exact bb @l1
     have m2:w6.cell? ⟨g,i * 3+1,none⟩=some (.slice a x.k.suf.length na):=by rw [hw6]; exact bb @l2
     have m3:w6.cell? ⟨g,i * 3+2,none⟩=some (.slice b x.k.val.length nb):=by rw [hw6]; exact bb @l3
     have m4:w6.cell? ⟨Hb,ho+1,none⟩=some (.slice (some ⟨g,0,none⟩) dd.length vcap):=by rw [hw6]; exact bb @l4
     have m5:∀ o,w6.frozen? ⟨Hb,o,none⟩=false:=fun o=>by rw [hw6]; exact bb @l5
     refine gH @m1 @m2 @m3 @m4 @m5 ?_
     obtain ⟨w7,hw7⟩:∃ w7,w7=w6.setCell ⟨Hb,ho+1,none⟩ (.slice (some ⟨g,0,none⟩) (dd.length+1) vcap):=⟨_,rfl⟩
     rw [← hw7]
     have o6:w6.ownsRow 0 256 3 (.slice (some ⟨g,0,none⟩) n vcap) n (flat (c.set dd.length x)):=by
      have:=bp (bp (bp (aZ i2 k5 (fun _ _ _ h=>h)) (dd.length * 3) (.int .u64 x.k.tr)) (dd.length * 3+1) x.sv) (dd.length * 3+2) x.vv
      rw [ik c dd.length x (by omega),← hw6] at this
      exact this
     have k56:Keep (fun b _=>b=g) w5 w6:=by
      rw [hw6]
      exact (((Keep.refl (fun b _=>b=g) w5).set (fun _=>rfl)).set (fun _=>rfl)).set (fun _=>rfl)
     have k67:Keep (fun b o=>b=Hb∧o=ho+1) w6 w7.drew:=by rw [hw7]; exact (bR ⟨rfl,rfl⟩).drew
     have k46:Keep (g9 Hb (ho+1) (.slice (some ⟨g,0,none⟩) n vcap)) w4 w6:=k5.keep.trans (k56.mono fun b o _ h => .inr (by rw [h]; rfl))
     have kall:Keep (g9 Hb (ho+1) (.slice (some ⟨g,0,none⟩) n vcap)) w2 w7.drew:=(i12.trans k46).trans (k67.mono fun b o _ h => .inl h)
     refine hK _ _ (i+1,.slice a x.k.suf.length na,true) ?_ ⟨c.set dd.length x,dd++[x],?_,aZ o6 k67 fun g' hg' o h=>(hv1 g' hg').1 h.1,fun y hy => ?_,by simp [i4],?_,?_,by simp; omega,fun h=>by simp at h,fun _=>by simp; omega,?_,fun _ => ?_,kall,by simp only; omega⟩ (by simp only; omega)
     ·exact bE
     ·simp only [if_true,aM,aY]
      rw [hw7]; exact bb @m4
     ·rcases List.mem_or_eq_of_mem_set hy with h | h
      ·exact i3 y h
      ·subst h; exact hg
     ·rw [aM,aY,List.take_add_one,List.take_set_of_le (aD _),i5,List.getElem?_set_self (by omega)]; rfl
     ·simp only
      rw [List.drop_set_of_lt (by omega)]; exact hd6
     ·simp only
      rw [if_neg (by omega),e1,hx2,i10']
     ·simp only
      rw [e1,hx2,← q1]; exact hg.2.1
 ·have hi':¬ (i:Int) < n:=by omega
  obtain rfl:i=n:=by omega
  rw [hn,List.drop_length,show ∀ q,nz q []=[] from fun q=>by cases q <;> rfl,au] at i10
  have hvb:∀ g',(Value.slice va i vcap).ownBlock=some g'→g'≠Hb:=fun g' hg'=>(hv1 g' hg').1
  have k24:Keep (g9 Hb (ho+1) vs) w w4:=k02.tr i12 fun b o hb hm=>h3.m b o hb hm
  refine bf @hi' ?_
  refine rC (fun _:Unit=>[(1,.pointer (some ⟨Hb,ho,none⟩)),(3,.slice ka l.length cap),(9,.int .i64 di)]) (fun _ w'=>KOwn d w' Hb (ho+1) (.slice va dd.length vcap) dd∧Keep (g9 Hb (ho+1) vs) w w') (by kernel_rfl) (by kernel_rfl) (fun K2 hK2 => ?_) ?_
  ·have gd:∀ x ∈ dd,x.good d:=fun x hx=>i3 x (by rw [← i5] at hx; exact List.mem_of_mem_take hx)
   have od:w4.ownsRow 0 256 3 (.slice va dd.length vcap) dd.length (flat dd):=by
    have:=xU i2 (show dd.length≤i by omega)
    rw [Be,i5] at this
    exact this
   cases sh with
   | true =>
    simp only [if_true] at i1
    refine al ?_
    refine hK2 _ _ () ?_ ⟨⟨i1,od,gd⟩,k24⟩
    exact bE
   | false =>
    simp only [Bool.false_eq_true,if_false] at i1
    have hl:=i8 rfl
    refine dV @i1 @fH4 ?_
    refine hK2 _ _ () ?_ ⟨⟨?_,aZ od (bR (M:=fun b o=>b=Hb∧o=ho+1) ⟨rfl,rfl⟩) fun g' hg' o h=>hvb g' (by rw [cI va i dd.length]; exact hg') h.1,gd⟩,k24.set (fun _ => .inl ⟨rfl,rfl⟩)⟩
    ·exact bE
    ·rw [hl]; exact bb @i1
  ·rintro e5 _ w5 ⟨t1,t2⟩
   have hcr':CoR snap l dd:=by rw [← i10]; exact hcr
   have hddl:dd.length≤l.length:=by
    have:dd.length=(c.take dd.length).length:=by rw [i5]
    rw [ar] at this
    omega
   rcases hdi with ⟨rfl,hdn⟩ | ⟨q,rfl,hdq,hql⟩
   ·refine al ?_
    rw [hdn] at hk
    refine hk w5 (.slice va dd.length vcap) dd (by simpa using t1) hcr' hddl t2 fun g' hg'=>h3 g' ?_
    rw [cI va i dd.length]; exact hg'
   ·obtain ⟨x,hx⟩:∃ x,l[q]? = some x:=⟨l[q],aC hql⟩
    rw [hx] at hdq
    have hg:=hgood x (aJ hx)
    have hka':=hkv (by omega)
    subst hka'
    have hgm:∀ o,¬ g9 Hb (ho+1) vs gk o:=by
     rintro o (⟨h,_⟩ | h)
     ·exact hgk h
     ·exact (hne _ h).2.1 rfl
    obtain ⟨c1,c2,c3⟩:=(hka.keep t2 hgm) q x hx
    obtain ⟨a,na,b,nb,q1,q2⟩:=hg.form
    rw [q1] at c2
    rw [q2] at c3
    have hq0:(0:Int)≤q:=by omega
    have hq':(q:Int) < l.length:=by omega
    have c4:=t1.hd
    have hHb5:=aE c4
    have hgk5:=aE c1
    have fH5:∀ x,w5.frozen? ⟨Hb,x,none⟩=false:=fun x=>by rw [t2.frozen Hb x (aE hc)]; exact hf x
    refine bf @hq0 ?_
    refine ay (sq [0,1,2,3] (.read 4 (sq [5,6,7] (.read 8 (.eff 9 [4] (.eff 10 [] (sq [11,12] (.eff 13 [] .done)))))))) ?_
    refine gH @c1 @c2 @c3 @c4 @hq' ?_
    have hcells : #[Value.int IntKind.u64 x.k.tr,Value.slice a x.k.suf.length na,Value.slice b x.k.val.length nb]=x.cells.toArray:=by unfold KR.cells; rw [q1,q2]
    have hxc:Value.agg x.cells.toArray = .agg [.int .u64 x.k.tr,.slice a x.k.suf.length na,.slice b x.k.val.length nb].toArray:=by unfold KR.cells; rw [q1,q2]
    rw [hcells]
    have hdl:dd.length < 1000000:=by
     have:dd.length=(c.take dd.length).length:=by rw [i5]
     rw [ar] at this
     omega
    have hvv:∀ g',(Value.slice va dd.length vcap).ownBlock=some g'→g'≠Hb∧g'≠gk:=fun g' hg'=>by
     have:=hv1 g' (by rw [cI va i dd.length]; exact hg')
     exact ⟨this.1,this.2.2 (by omega)⟩
    refine G0 t1.own hg hdl fun a6 cap6 w6 o6 k6 n6 => ?_
    have c1:=k6.some c1 (fun h=>(hvv _ h).2 rfl)
    have c2:=k6.some c2 (fun h=>(hvv _ h).2 rfl)
    have c3:=k6.some c3 (fun h=>(hvv _ h).2 rfl)
    have c4:=k6.some c4 (fun h=>(hvv _ h).1 rfl)
    have fH6:∀ x,w6.frozen? ⟨Hb,x,none⟩=false:=fun x=>by rw [k6.frozen Hb x hHb5]; exact fH5 x
    rw [hxc]
    refine gH @c1 @c2 @c3 @c4 @fH6 ?_
    have n06:cZ w vs (.slice a6 (dd.length+1) cap6):=by
     refine cZ.trans (v2 := .slice va dd.length vcap) (fun g' hg'=>h3 g' ?_) n6 t2.size
     rw [cI va i dd.length]; exact hg'
    refine hk _ (.slice a6 (dd.length+1) cap6) dd ⟨?_,?_,?_⟩ hcr' hddl ?_ n06
    ·exact bb @c4
    ·rw [← hdq]
     simp only [Option.toList_some,aM,aY]
     refine aZ o6 ((bR (M:=fun b o=>b=Hb∧o=ho+1) ⟨rfl,rfl⟩)) fun g' hg' o h => ?_
     rcases n6 g' hg' with h' | h'
     ·exact (hvv g' h').1 h.1
     ·have:=h.1; omega
    ·intro y hy
     rw [← hdq] at hy
     rcases ax.1 hy with h | h
     ·exact t1.good y h
     ·simp only [Option.toList_some,ae] at h
      subst h; exact hg
    ·exact (t2.tr k6 fun b o hb hm=>h3.m b o hb (.inr (by rw [cI va i dd.length]; exact hm))).set (fun _ => .inl ⟨rfl,rfl⟩)
end
end Go.Proofs
