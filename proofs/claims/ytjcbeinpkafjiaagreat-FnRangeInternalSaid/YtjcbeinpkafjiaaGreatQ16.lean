/- Parts of the proof: Bq, Br, By, Bz, Df. -/
import Derived.Laws.MakeOwn
import Derived.Test.YtjcbeinpkafjiaaGreatQ15
set_option linter.all false
set_option maxRecDepth 10000
section
namespace Go.E
open Go Go.Sort Go.Proofs Go.Proofs.Tryz
def Bd (d:World) (U pb po:Nat) (rt:TypeId) (rv lov hiv:Value) (lo hi:Option Bytes) (G:List Sp) (R:World→(Nat→Prop)→Int→Prop) (w:World) (S:Nat→Prop) (p:Int):Prop :=
 ∃ q is ps,R w S q∧BS d w U rt rv lov hiv lo hi is ps ∧
  (p = -2 ∨
   0≤p∧p < (GB G lo hi).length∧ps=0∧is=some ⟨pb,po,none⟩∧q=aB G lo+p ∨
   p=(GB G lo hi).length∧ps=0∧is=none∧q=aB G lo+p ∨
   p = -1∧ps=0∧is=none∧q=(aB G lo:Int) - 1 ∨
   p=(GB G lo hi).length∧ps=1∧is=some ⟨pb,po,none⟩∧q=aB G lo+p - 1∧0 < p ∨
   p = -1∧ps = -1∧is=some ⟨pb,po,none⟩∧q=aB G lo∧0 < (GB G lo hi).length)
def bT (U:Nat) (T:Nat→Nat→Prop):Nat→Nat→Prop:=fun b x=>T b x∨bM U b x
theorem bu (pb po:Nat) (G:List Sp) (q:Int):fN pb po G q = .pointer (if 0≤q∧q < G.length then some ⟨pb,po,none⟩ else none):=by
 unfold fN
 split <;> rfl
section
variable {d w:World} {U pb po:Nat} {rt:TypeId} {rv lov hiv:Value} {lo hi:Option Bytes} {G:List Sp} {pF pL:Prop} {pK:Bytes→Prop} {T:Nat→Nat→Prop} {R:World→(Nat→Prop)→Int→Prop} {S:Nat→Prop} {q:Int} {ord:Int} {r:Option Addr}
theorem Bd.fwd (bc:BC d U pb po rt rv lo hi G pF pL pK T R ord) (h:R w S q) (b:BS d w U rt rv lov hiv lo hi r 0) (hr:r=(if 0≤q∧q < eB G hi then some ⟨pb,po,none⟩ else none)) (h1:aB G lo≤q) (h2:q≤eB G hi) :
    Bd d U pb po rt rv lov hiv lo hi G R w S (q - aB G lo)∧fN pb po (GB G lo hi) (q - aB G lo) = .pointer r:=by
 have hab:=fZ bc.f.wf bc.b
 have hl:=cS (G:=G) (lo:=lo) (hi:=hi)
 by_cases hq:q < eB G hi
 ·rw [if_pos ⟨by omega,hq⟩] at hr
  exact ⟨⟨q,r,0,h,b,.inr (.inl ⟨by omega,by omega,rfl,hr,by omega⟩)⟩,by rw [hr,dm (by omega) (by omega)]⟩
 ·rw [if_neg fun hh=>hq hh.2] at hr
  exact ⟨⟨q,r,0,h,b,.inr (.inr (.inl ⟨by omega,rfl,hr,by omega⟩))⟩,by rw [hr,dp (by omega)]⟩
theorem Bd.bwd (bc:BC d U pb po rt rv lo hi G pF pL pK T R ord) (h:R w S q) (b:BS d w U rt rv lov hiv lo hi r 0) (hr:r=(if (aB G lo:Int)≤q∧q < G.length then some ⟨pb,po,none⟩ else none)) (h1:(aB G lo:Int)≤q+1) (h2:q < eB G hi) :
    Bd d U pb po rt rv lov hiv lo hi G R w S (q - aB G lo)∧fN pb po (GB G lo hi) (q - aB G lo) = .pointer r:=by
 have hab:=fZ bc.f.wf bc.b
 have he:=iS (G:=G) (hi:=hi)
 have hl:=cS (G:=G) (lo:=lo) (hi:=hi)
 by_cases hq:(aB G lo:Int)≤q
 ·rw [if_pos ⟨hq,by omega⟩] at hr
  exact ⟨⟨q,r,0,h,b,.inr (.inl ⟨by omega,by omega,rfl,hr,by omega⟩)⟩,by rw [hr,dm (by omega) (by omega)]⟩
 ·rw [if_neg fun hh=>hq hh.1] at hr
  exact ⟨⟨q,r,0,h,b,.inr (.inr (.inr (.inl ⟨by omega,rfl,hr,by omega⟩)))⟩,by rw [hr,dp (by omega)]⟩
theorem Bd.rg {p:Int} (h:Bd d U pb po rt rv lov hiv lo hi G R w S p) : -2≤p∧p≤(GB G lo hi).length:=by
 obtain ⟨q,is,ps,_,_,h | h | h | h | h | h⟩:=h <;> omega
end
end Go.E
namespace Go.Proofs
open Go Go.E Go.Sort Go.Proofs.Tryz
section
variable {k:ae} {d w:World} {U pb po:Nat} {rt:TypeId} {rv lov hiv:Value} {lo hi:Option Bytes} {is:Option Addr} {ps:Int} {G:List Sp} {pF pL:Prop} {pK:Bytes→Prop} {T:Nat→Nat→Prop} {R:World→(Nat→Prop)→Int→Prop} {S:Nat→Prop} {p q:Int} {ord:Int}
theorem BC.drew (bc:BC d U pb po rt rv lo hi G pF pL pK T R ord) (h:R w S q):R w.drew S q:=bc.f.keep h (M:=fun _ _=>False) (Keep.refl _ w).drew (fun _ _ _ h=>h.elim)
theorem wq  (bc:BC d U pb po rt rv lo hi G pF pL pK T R ord) (h:Bd d U pb po rt rv lov hiv lo hi G R w S p) (h1:pF∧lo=none)
    (hk:FK (.pointer none) pb po (GB G lo hi) (bT U T) (Bd d U pb po rt rv lov hiv lo hi G R) w S (0) k):aU prog 230 #[.pointer (some ⟨U,72,none⟩)] k w:=by
 obtain ⟨q,is,ps,hR,b,_⟩:=h
 have c0:=b.c0
 have hab:=fZ bc.f.wf bc.b
 have hle:=iS (G:=G) (hi:=hi)
 have hl:=cS (G:=G) (lo:=lo) (hi:=hi)
 skip
 refine aW [.tmp 2] func230 ?_
 refine bP @c0 ?_
 refine bc.f.first hR h1.1  fun w2 S2 r1 r2 r3 => ?_
 have b2:=b.keep r3 fun x h1 h2 _ hm=>by
  rcases hm with hm | hm
  ·exact bc.t x h1 h2 hm
  ·exact bc.s hR hm
 have hp:=bu pb po G (0)
 rw [hp]
 refine aY ?_
 refine fQ b2 ?_
 rw [← hp]
 refine aY ?_
 refine nL bc (r1) (b2) fun w3 r r4 b3 k3 hr => ?_
 have k3:Keep (bM U) w2 w3:=by first | exact k3 | exact (Keep.refl _ w2).drew.trans k3
 obtain ⟨e1,e2⟩:=Bd.fwd bc r4 b3 hr (by rw [h1.2]; exact Int.le_refl _) (by omega)
 rw [show 0 - (aB G lo:Int)=0 by rw [h1.2]; rfl] at e1 e2
 refine aY ?_
 rw [← e2]
 refine hk w3 S2 e1 r2 ?_
 refine (r3.mono fun b x _ hm => ?_).trans (k3.mono fun b x _ hm => .inl (.inr hm))
 rcases hm with hm | hm
 ·exact .inl (.inl hm)
 ·exact .inr hm
theorem zA  (bc:BC d U pb po rt rv lo hi G pF pL pK T R ord) (h:Bd d U pb po rt rv lov hiv lo hi G R w S p) (h1:pL∧hi=none)
    (hk:FK (.pointer none) pb po (GB G lo hi) (bT U T) (Bd d U pb po rt rv lov hiv lo hi G R) w S ((GB G lo hi).length - 1) k):aU prog 231 #[.pointer (some ⟨U,72,none⟩)] k w:=by
 obtain ⟨q,is,ps,hR,b,_⟩:=h
 have c0:=b.c0
 have hab:=fZ bc.f.wf bc.b
 have hle:=iS (G:=G) (hi:=hi)
 have hl:=cS (G:=G) (lo:=lo) (hi:=hi)
 skip
 refine aW [.tmp 2] func231 ?_
 refine bP @c0 ?_
 refine bc.f.last hR h1.1  fun w2 S2 r1 r2 r3 => ?_
 have b2:=b.keep r3 fun x h1 h2 _ hm=>by
  rcases hm with hm | hm
  ·exact bc.t x h1 h2 hm
  ·exact bc.s hR hm
 have hp:=bu pb po G (((G.length:Int) - 1))
 rw [hp]
 refine aY ?_
 refine gp b2 ?_
 rw [← hp]
 refine aY ?_
 refine nN bc (bc.drew r1) (b2.drew) fun w3 r r4 b3 k3 hr => ?_
 have k3:Keep (bM U) w2 w3:=by first | exact k3 | exact (Keep.refl _ w2).drew.trans k3
 obtain ⟨e1,e2⟩:=Bd.bwd bc r4 b3 hr (by rw [h1.2] at hab; have h9:eB G none=G.length:=rfl; omega) (by rw [h1.2]; show (G.length:Int) - 1 < G.length; omega)
 rw [show ((G.length:Int) - 1) - (aB G lo:Int)=(GB G lo hi).length - 1 by rw [hl,h1.2]; rw [h1.2] at hab; have h9:eB G none=G.length:=rfl; omega] at e1 e2
 refine aY ?_
 rw [← e2]
 refine hk w3 S2 e1 r2 ?_
 refine (r3.mono fun b x _ hm => ?_).trans (k3.mono fun b x _ hm => .inl (.inr hm))
 rcases hm with hm | hm
 ·exact .inl (.inl hm)
 ·exact .inr hm
theorem ux {kva:Option Addr} {kn kc:Nat} {key:Bytes} (bc:BC d U pb po rt rv lo hi G pF pL pK T R ord) (h:Bd d U pb po rt rv lov hiv lo hi G R w S p) (h1:pK key∧uw lo hi key) (hkey:eO w (.slice kva kn kc) key) (hkv:zx (.slice kva kn kc) fun b=>∀ x,¬ bT U T b x∧¬ S b)
    (hk:FK (.pointer none) pb po (GB G lo hi) (bT U T) (Bd d U pb po rt rv lov hiv lo hi G R) w S (cV (GB G lo hi) key) k):aU prog 234 #[.pointer (some ⟨U,72,none⟩),.slice kva kn kc] k w:=by
 obtain ⟨q,is,ps,hR,b,_⟩:=h
 have c0:=b.c0
 have hab:=fZ bc.f.wf bc.b
 have hle:=iS (G:=G) (hi:=hi)
 have hl:=cS (G:=G) (lo:=lo) (hi:=hi)
 obtain ⟨g1,g2,g3⟩:=Cb bc.f.wf bc.b h1.2
 refine aW [.tmp 4] func234 ?_
 refine bP @c0 ?_
 refine bc.f.seekGE hR h1.1 hkey (fun a n c e x=>⟨fun ht=>(hkv a n c e x).1 (.inl ht),(hkv a n c e x).2⟩) fun w2 S2 r1 r2 r3 => ?_
 have b2:=b.keep r3 fun x h1 h2 _ hm=>by
  rcases hm with hm | hm
  ·exact bc.t x h1 h2 hm
  ·exact bc.s hR hm
 have hp:=bu pb po G ((cV G key:Int))
 rw [hp]
 refine aY ?_
 (refine fQ b2 ?_; simp (disch:=first | exact dZ | fail) only [go_sem]; refine gp b2 ?_)
 rw [← hp]
 refine aY ?_
 refine nL bc (bc.drew r1) (b2.drew) fun w3 r r4 b3 k3 hr => ?_
 have k3:Keep (bM U) w2 w3:=by first | exact k3 | exact (Keep.refl _ w2).drew.trans k3
 obtain ⟨e1,e2⟩:=Bd.fwd bc r4 b3 hr (by omega) (by omega)
 rw [show (cV G key:Int) - (aB G lo:Int)=cV (GB G lo hi) key by omega] at e1 e2
 refine aY ?_
 rw [← e2]
 refine hk w3 S2 e1 r2 ?_
 refine (r3.mono fun b x _ hm => ?_).trans (k3.mono fun b x _ hm => .inl (.inr hm))
 rcases hm with hm | hm
 ·exact .inl (.inl hm)
 ·exact .inr hm
theorem uy {kva:Option Addr} {kn kc:Nat} {key:Bytes} (bc:BC d U pb po rt rv lo hi G pF pL pK T R ord) (h:Bd d U pb po rt rv lov hiv lo hi G R w S p) (h1:pK key∧uw lo hi key) (hkey:eO w (.slice kva kn kc) key) (hkv:zx (.slice kva kn kc) fun b=>∀ x,¬ bT U T b x∧¬ S b)
    (hk:FK (.pointer none) pb po (GB G lo hi) (bT U T) (Bd d U pb po rt rv lov hiv lo hi G R) w S (dQ (GB G lo hi) key) k):aU prog 235 #[.pointer (some ⟨U,72,none⟩),.slice kva kn kc] k w:=by
 obtain ⟨q,is,ps,hR,b,_⟩:=h
 have c0:=b.c0
 have hab:=fZ bc.f.wf bc.b
 have hle:=iS (G:=G) (hi:=hi)
 have hl:=cS (G:=G) (lo:=lo) (hi:=hi)
 obtain ⟨g1,g2,g3⟩:=Cc bc.f.wf bc.b h1.2
 refine aW [.tmp 4] func235 ?_
 refine bP @c0 ?_
 refine bc.f.seekLT hR h1.1 hkey (fun a n c e x=>⟨fun ht=>(hkv a n c e x).1 (.inl ht),(hkv a n c e x).2⟩) fun w2 S2 r1 r2 r3 => ?_
 have b2:=b.keep r3 fun x h1 h2 _ hm=>by
  rcases hm with hm | hm
  ·exact bc.t x h1 h2 hm
  ·exact bc.s hR hm
 have hp:=bu pb po G ((dQ G key))
 rw [hp]
 refine aY ?_
 (refine fQ b2 ?_; simp (disch:=first | exact dZ | fail) only [go_sem]; refine gp b2 ?_)
 rw [← hp]
 refine aY ?_
 refine nN bc (bc.drew r1) (b2.drew) fun w3 r r4 b3 k3 hr => ?_
 have k3:Keep (bM U) w2 w3:=by first | exact k3 | exact (Keep.refl _ w2).drew.trans k3
 obtain ⟨e1,e2⟩:=Bd.bwd bc r4 b3 hr (by omega) (by omega)
 rw [show (dQ G key) - (aB G lo:Int)=dQ (GB G lo hi) key by omega] at e1 e2
 refine aY ?_
 rw [← e2]
 refine hk w3 S2 e1 r2 ?_
 refine (r3.mono fun b x _ hm => ?_).trans (k3.mono fun b x _ hm => .inl (.inr hm))
 rcases hm with hm | hm
 ·exact .inl (.inl hm)
 ·exact .inr hm
end
end Go.Proofs
end
section
namespace Go.Proofs
open Go Go.E Go.Sort Go.Proofs.Tryz
section
variable {k:ae} {d w:World} {U pb po:Nat} {rt:TypeId} {rv lov hiv:Value} {lo hi:Option Bytes} {is:Option Addr} {ps:Int} {G:List Sp} {pF pL:Prop} {pK:Bytes→Prop} {T:Nat→Nat→Prop} {R:World→(Nat→Prop)→Int→Prop} {S:Nat→Prop} {p q:Int} {ord:Int}
theorem pU (b:BS d w U rt rv lov hiv lo hi is ps) (n:Int):BS d (w.setCell ⟨U,80,none⟩ (.int .i8 n)) U rt rv lov hiv lo hi is n∧Keep (bM U) w (w.setCell ⟨U,80,none⟩ (.int .i8 n)):=by
 have kk:Keep (bM U) w (w.setCell ⟨U,80,none⟩ (.int .i8 n)):=(Keep.refl _ w).set (fun _=>⟨rfl,by omega,by omega⟩)
 have c8:=b.c8
 have o:∀ {y v},y≠80→w.cell? ⟨U,y,none⟩=some v→(w.setCell ⟨U,80,none⟩ (.int .i8 n)).cell? ⟨U,y,none⟩=some v:=by
  intro y v h1 hv
  exact bU @hv
 exact ⟨⟨o (by omega) b.c0,o (by omega) b.c1,o (by omega) b.c2,o (by omega) b.c4,o (by omega) b.c5,o (by omega) b.c6,by rw [cG,c8]; rfl,fun x=>by rw [kk.frozen U x (aE c8)]; exact b.fU x,b.lo,b.hi⟩,kk⟩
set_option maxHeartbeats 1000000 in
theorem zB (bc:BC d U pb po rt rv lo hi G pF pL pK T R ord) (h:Bd d U pb po rt rv lov hiv lo hi G R w S p) (h1 : -1≤p) (h2:p < (GB G lo hi).length)
    (hk:FK (.pointer none) pb po (GB G lo hi) (bT U T) (Bd d U pb po rt rv lov hiv lo hi G R) w S (p+1) k):aU prog 232 #[.pointer (some ⟨U,72,none⟩)] k w:=by
 obtain ⟨q,is,ps,hR,b,hst⟩:=h
 have c0:=b.c0
 have c1:=b.c1
 have c2:=b.c2
 have c5:=b.c5
 have c6:=b.c6
 have c8:=b.c8
 have fU:=b.fU
 have hab:=fZ bc.f.wf bc.b
 have hle:=iS (G:=G) (hi:=hi)
 have hl:=cS (G:=G) (lo:=lo) (hi:=hi)
 have m1:((-1:Int) == -1)=true:=by decide
 have m0:((0:Int) == -1)=false:=by decide
 have m00:((0:Int) == 0)=true:=by decide
 have kw:∀ w':World,Keep (fun b x=>bT U T b x∨S b) w' w':=fun w'=>Keep.refl _ w'
 rcases hst with hst | ⟨a0,a1,rfl,rfl,a4⟩ | ⟨a1,rfl,rfl,a4⟩ | ⟨a1,rfl,rfl,a4⟩ | ⟨a1,rfl,rfl,a4,a5⟩ | ⟨a1,rfl,rfl,a4,a5⟩
 ·omega
 ·
  obtain ⟨j,hj⟩:∃ j:Nat,q=j:=⟨q.toNat,by omega⟩
  have hjl:j < G.length:=by omega
  obtain ⟨_,⟨ev,e1,e2⟩,_,_⟩:=(bc.f.cur hR hj hjl).o (bc.f.inc hR)
  obtain ⟨ea,ec,rfl⟩:=av e2
  have hinc:=bc.f.inc hR
  refine aW [.tmp 2] func232 ?_
  rcases b.hi with ⟨hn,hv⟩ | ⟨l,la,ln,lc,hn,hv,hlb⟩
  ·rw [hv] at c5
   refine dg @c8 @m0 @m00 ?_
   refine ao (sq [0,1,2] (.read 3 (sq [4,5,6,7,8] (.read 9 (sq [10,11,12,13,14,15] (.read 16 (sq [17,18,19] (.read 20 (sq [21,22] (.read 23 (sq [24,25,26] (.read 27 (.eff 28 [] (sq [29,30] .done)))))))))))))) ?_
   simp (disch:=first | exact dZ | fail) only [go_sem,c1,c5,c6,c0,Option.isSome_some,Option.isSome_none]
   have hR:=bc.drew hR
   have b:=b.drew
   have kw:=(Keep.refl (fun b x=>bT U T b x∨S b) w).drew
   refine bc.f.next hR (by omega) (by omega) fun w2 S2 r1 r2 r3 => ?_
   have b2:=b.keep r3 fun x h1 h2 _ hm=>by
    rcases hm with hm | hm
    ·exact bc.t x h1 h2 hm
    ·exact bc.s hR hm
   have hp:=bu pb po G ((q+1))
   rw [hp]
   refine aY ?_
   refine fQ b2 ?_
   rw [← hp]
   refine aY ?_
   refine nL bc (r1) (b2) fun w3 r r4 b3 k3 hr => ?_
   have k3:Keep (bM U) w2 w3:=by first | exact k3 | exact (Keep.refl _ w2).drew.trans k3
   obtain ⟨e1,e2⟩:=Bd.fwd bc r4 b3 hr (by omega) (by omega)
   rw [show (q+1) - (aB G lo:Int)=p+1 by omega] at e1 e2
   refine aY ?_
   rw [← e2]
   refine hk w3 S2 e1 r2 ?_
   refine (kw.trans (r3.mono fun b x _ hm => ?_)).trans (k3.mono fun b x _ hm => .inl (.inr hm))
   rcases hm with hm | hm
   ·exact .inl (.inl hm)
   ·exact .inr hm
  ·rw [hv] at c5 hlb
   refine dg @c8 @m0 @m00 ?_
   refine ao (sq [0,1,2] (.read 3 (sq [4,5,6,7,8] (.read 9 (sq [10,11,12,13,14,15] (.read 16 (sq [17,18,19] (.read 20 (sq [21,22] (.read 23 (sq [24,25,26] (.read 27 (.eff 28 [] (sq [29,30] .done)))))))))))))) ?_
   simp (disch:=first | exact dZ | fail) only [go_sem,c1,c5,c2,e1,Option.isSome_some,Option.isSome_none]
   refine dJ (l1:=G[j]!.e) (by exact e2) (by exact hlb.inc hinc) ?_
   by_cases hge:l≤G[j]!.e
   ·have hge':(0:Int)≤cz G[j]!.e l:=dw.2 hge
    refine dg @hge' @c8 @fU ?_
    have hend:eB G hi=j+1:=by
     rcases aH (j+1) (eB G hi) with h | h
     ·exfalso
      have a:=(ou bc.f.wf (hi:=hi) (show j+1 < G.length by omega)).1 h l hn
      have b:=bc.f.wf.2 j (j+1) (by omega) (by omega)
      exact List.not_lt.2 hge (cT (List.not_lt.2 b) a)
     ·omega
    obtain ⟨b2,k2⟩:=pU b 1
    have k2:Keep (bM U) w (w.setCell ⟨U,80,none⟩ (.int .i8 1)).drew:=k2.drew
    have:=hk _ S ⟨q,_,1,bc.keep hR k2,b2.drew,.inr (.inr (.inr (.inr (.inl ⟨by omega,rfl,rfl,by omega,by omega⟩))))⟩ (fun _ h => .inl h) (k2.mono fun b x _ h => .inl (.inr h))
    rwa [dp (by omega)] at this
   ·have hge':¬ (0:Int)≤cz G[j]!.e l:=fun h=>hge (dw.1 h)
    simp (disch:=first | exact dZ | fail) only [go_sem,hge',c1,c6,c0,Option.isSome_some,Option.isSome_none]
    have hR:=bc.drew hR
    have b:=b.drew
    have kw:=(Keep.refl (fun b x=>bT U T b x∨S b) w).drew
    refine bc.f.next hR (by omega) (by omega) fun w2 S2 r1 r2 r3 => ?_
    have b2:=b.keep r3 fun x h1 h2 _ hm=>by
     rcases hm with hm | hm
     ·exact bc.t x h1 h2 hm
     ·exact bc.s hR hm
    have hp:=bu pb po G ((q+1))
    rw [hp]
    refine aY ?_
    refine fQ b2 ?_
    rw [← hp]
    refine aY ?_
    refine nL bc (r1) (b2) fun w3 r r4 b3 k3 hr => ?_
    have k3:Keep (bM U) w2 w3:=by first | exact k3 | exact (Keep.refl _ w2).drew.trans k3
    obtain ⟨e1,e2⟩:=Bd.fwd bc r4 b3 hr (by omega) (by omega)
    rw [show (q+1) - (aB G lo:Int)=p+1 by omega] at e1 e2
    refine aY ?_
    rw [← e2]
    refine hk w3 S2 e1 r2 ?_
    refine (kw.trans (r3.mono fun b x _ hm => ?_)).trans (k3.mono fun b x _ hm => .inl (.inr hm))
    rcases hm with hm | hm
    ·exact .inl (.inl hm)
    ·exact .inr hm
 ·omega
 ·
  refine aW [.tmp 2] func232 ?_
  refine dg @c8 @m0 @m00 ?_
  refine ao (sq [0,1,2] (.read 3 (sq [4,5,6,7,8] (.read 9 (sq [10,11,12,13,14,15] (.read 16 (sq [17,18,19] (.read 20 (sq [21,22] (.read 23 (sq [24,25,26] (.read 27 (.eff 28 [] (sq [29,30] .done)))))))))))))) ?_
  simp (disch:=first | exact dZ | fail) only [go_sem,c1,c0,Option.isSome_none]
  have hR:=bc.drew hR
  have b:=b.drew
  have kw:=(Keep.refl (fun b x=>bT U T b x∨S b) w).drew
  refine bc.f.next hR (by omega) (by omega) fun w2 S2 r1 r2 r3 => ?_
  have b2:=b.keep r3 fun x h1 h2 _ hm=>by
   rcases hm with hm | hm
   ·exact bc.t x h1 h2 hm
   ·exact bc.s hR hm
  have hp:=bu pb po G ((q+1))
  rw [hp]
  refine aY ?_
  refine fQ b2 ?_
  rw [← hp]
  refine aY ?_
  refine nL bc (r1) (b2) fun w3 r r4 b3 k3 hr => ?_
  have k3:Keep (bM U) w2 w3:=by first | exact k3 | exact (Keep.refl _ w2).drew.trans k3
  obtain ⟨e1,e2⟩:=Bd.fwd bc r4 b3 hr (by omega) (by omega)
  rw [show (q+1) - (aB G lo:Int)=p+1 by omega] at e1 e2
  refine aY ?_
  rw [← e2]
  refine hk w3 S2 e1 r2 ?_
  refine (kw.trans (r3.mono fun b x _ hm => ?_)).trans (k3.mono fun b x _ hm => .inl (.inr hm))
  rcases hm with hm | hm
  ·exact .inl (.inl hm)
  ·exact .inr hm
 ·omega
 ·
  refine aW [.tmp 2] func232 ?_
  refine eI @c8 @c1 @m1 @fU ?_
  obtain ⟨b2,k2⟩:=pU b 0
  have:=hk _ S ⟨q,_,0,bc.keep hR k2,b2,.inr (.inl ⟨by omega,by omega,rfl,rfl,by omega⟩)⟩ (fun _ h => .inl h) (k2.mono fun b x _ h => .inl (.inr h))
  rwa [dm (by omega) (by omega)] at this
set_option maxHeartbeats 1000000 in
theorem zD (bc:BC d U pb po rt rv lo hi G pF pL pK T R ord) (h:Bd d U pb po rt rv lov hiv lo hi G R w S p) (h1 : -1 < p)
    (hk:FK (.pointer none) pb po (GB G lo hi) (bT U T) (Bd d U pb po rt rv lov hiv lo hi G R) w S (p - 1) k):aU prog 233 #[.pointer (some ⟨U,72,none⟩)] k w:=by
 obtain ⟨q,is,ps,hR,b,hst⟩:=h
 have c0:=b.c0
 have c1:=b.c1
 have c2:=b.c2
 have c5:=b.c4
 have c6:=b.c6
 have c8:=b.c8
 have fU:=b.fU
 have hab:=fZ bc.f.wf bc.b
 have hle:=iS (G:=G) (hi:=hi)
 have hl:=cS (G:=G) (lo:=lo) (hi:=hi)
 have m1:((-1:Int) == -1)=true:=by decide
 have m0:((0:Int) == -1)=false:=by decide
 have m1':((1:Int) == -1)=false:=by decide
 have m10:((1:Int) == 0)=false:=by decide
 have m11:((1:Int) == 1)=true:=by decide
 have m00:((0:Int) == 0)=true:=by decide
 have kw:∀ w':World,Keep (fun b x=>bT U T b x∨S b) w' w':=fun w'=>Keep.refl _ w'
 rcases hst with hst | ⟨a0,a1,rfl,rfl,a4⟩ | ⟨a1,rfl,rfl,a4⟩ | ⟨a1,rfl,rfl,a4⟩ | ⟨a1,rfl,rfl,a4,a5⟩ | ⟨a1,rfl,rfl,a4,a5⟩
 ·omega
 ·
  obtain ⟨j,hj⟩:∃ j:Nat,q=j:=⟨q.toNat,by omega⟩
  have hjl:j < G.length:=by omega
  obtain ⟨⟨ev,e1,e2⟩,_,_,_⟩:=(bc.f.cur hR hj hjl).o (bc.f.inc hR)
  obtain ⟨ea,ec,rfl⟩:=av e2
  have hinc:=bc.f.inc hR
  refine aW [.tmp 2] func233 ?_
  rcases b.lo with ⟨hn,hv⟩ | ⟨l,la,ln,lc,hn,hv,hlb⟩
  ·rw [hv] at c5
   refine dg @c8 @m0 @m00 ?_
   refine ao (sq [0,1,2] (.read 3 (sq [4,5,6,7,8] (.read 9 (sq [10,11,12,13,14,15] (.read 16 (sq [17,18,19] (.read 20 (sq [21,22] (.read 23 (sq [24,25,26] (.read 27 (.eff 28 [] (sq [29,30] .done)))))))))))))) ?_
   simp (disch:=first | exact dZ | fail) only [go_sem,c1,c5,c6,c0,Option.isSome_some,Option.isSome_none]
   have hR:=bc.drew hR
   have b:=b.drew
   have kw:=(Keep.refl (fun b x=>bT U T b x∨S b) w).drew
   refine bc.f.prev hR (by omega) fun w2 S2 r1 r2 r3 => ?_
   have b2:=b.keep r3 fun x h1 h2 _ hm=>by
    rcases hm with hm | hm
    ·exact bc.t x h1 h2 hm
    ·exact bc.s hR hm
   have hp:=bu pb po G ((q - 1))
   rw [hp]
   refine aY ?_
   refine gp b2 ?_
   rw [← hp]
   refine aY ?_
   refine nN bc (bc.drew r1) (b2.drew) fun w3 r r4 b3 k3 hr => ?_
   have k3:Keep (bM U) w2 w3:=by first | exact k3 | exact (Keep.refl _ w2).drew.trans k3
   obtain ⟨e1,e2⟩:=Bd.bwd bc r4 b3 hr (by omega) (by omega)
   rw [show (q - 1) - (aB G lo:Int)=p - 1 by omega] at e1 e2
   refine aY ?_
   rw [← e2]
   refine hk w3 S2 e1 r2 ?_
   refine (kw.trans (r3.mono fun b x _ hm => ?_)).trans (k3.mono fun b x _ hm => .inl (.inr hm))
   rcases hm with hm | hm
   ·exact .inl (.inl hm)
   ·exact .inr hm
  ·rw [hv] at c5 hlb
   refine dg @c8 @m0 @m00 ?_
   refine ao (sq [0,1,2] (.read 3 (sq [4,5,6,7,8] (.read 9 (sq [10,11,12,13,14,15] (.read 16 (sq [17,18,19] (.read 20 (sq [21,22] (.read 23 (sq [24,25,26] (.read 27 (.eff 28 [] (sq [29,30] .done)))))))))))))) ?_
   simp (disch:=first | exact dZ | fail) only [go_sem,c1,c5,c2,e1,Option.isSome_some,Option.isSome_none]
   refine dJ (l1:=G[j]!.s) (by exact e2) (by exact hlb.inc hinc) ?_
   by_cases hge:G[j]!.s≤l
   ·have hge':cz G[j]!.s l≤0:=fM.2 hge
    refine dg @hge' @c8 @fU ?_
    have hend:aB G lo=j:=by
     rcases aH (aB G lo) j with h | h
     ·exfalso
      have a:=(oq bc.f.wf (lo:=lo) (show j - 1 < G.length by omega)).1 (by omega) l hn
      have b:=bc.f.wf.2 (j - 1) j (by omega) (by omega)
      exact List.not_lt.2 hge (bw a (List.not_lt.2 b))
     ·omega
    obtain ⟨b2,k2⟩:=pU b (-1)
    have k2:Keep (bM U) w (w.setCell ⟨U,80,none⟩ (.int .i8 (-1))).drew:=k2.drew
    have:=hk _ S ⟨q,_,-1,bc.keep hR k2,b2.drew,.inr (.inr (.inr (.inr (.inr ⟨by omega,rfl,rfl,by omega,by omega⟩))))⟩ (fun _ h => .inl h) (k2.mono fun b x _ h => .inl (.inr h))
    rwa [dp (by omega)] at this
   ·have hge':¬ cz G[j]!.s l≤0:=fun h=>hge (fM.1 h)
    simp (disch:=first | exact dZ | fail) only [go_sem,hge',c1,c6,c0,Option.isSome_some,Option.isSome_none]
    have hR:=bc.drew hR
    have b:=b.drew
    have kw:=(Keep.refl (fun b x=>bT U T b x∨S b) w).drew
    refine bc.f.prev hR (by omega) fun w2 S2 r1 r2 r3 => ?_
    have b2:=b.keep r3 fun x h1 h2 _ hm=>by
     rcases hm with hm | hm
     ·exact bc.t x h1 h2 hm
     ·exact bc.s hR hm
    have hp:=bu pb po G ((q - 1))
    rw [hp]
    refine aY ?_
    refine gp b2 ?_
    rw [← hp]
    refine aY ?_
    refine nN bc (bc.drew r1) (b2.drew) fun w3 r r4 b3 k3 hr => ?_
    have k3:Keep (bM U) w2 w3:=by first | exact k3 | exact (Keep.refl _ w2).drew.trans k3
    obtain ⟨e1,e2⟩:=Bd.bwd bc r4 b3 hr (by omega) (by omega)
    rw [show (q - 1) - (aB G lo:Int)=p - 1 by omega] at e1 e2
    refine aY ?_
    rw [← e2]
    refine hk w3 S2 e1 r2 ?_
    refine (kw.trans (r3.mono fun b x _ hm => ?_)).trans (k3.mono fun b x _ hm => .inl (.inr hm))
    rcases hm with hm | hm
    ·exact .inl (.inl hm)
    ·exact .inr hm
 ·
  refine aW [.tmp 2] func233 ?_
  refine dg @c8 @m0 @m00 ?_
  refine ao (sq [0,1,2] (.read 3 (sq [4,5,6,7,8] (.read 9 (sq [10,11,12,13,14,15] (.read 16 (sq [17,18,19] (.read 20 (sq [21,22] (.read 23 (sq [24,25,26] (.read 27 (.eff 28 [] (sq [29,30] .done)))))))))))))) ?_
  simp (disch:=first | exact dZ | fail) only [go_sem,c1,c0,Option.isSome_none]
  have hR:=bc.drew hR
  have b:=b.drew
  have kw:=(Keep.refl (fun b x=>bT U T b x∨S b) w).drew
  refine bc.f.prev hR (by omega) fun w2 S2 r1 r2 r3 => ?_
  have b2:=b.keep r3 fun x h1 h2 _ hm=>by
   rcases hm with hm | hm
   ·exact bc.t x h1 h2 hm
   ·exact bc.s hR hm
  have hp:=bu pb po G ((q - 1))
  rw [hp]
  refine aY ?_
  refine gp b2 ?_
  rw [← hp]
  refine aY ?_
  refine nN bc (bc.drew r1) (b2.drew) fun w3 r r4 b3 k3 hr => ?_
  have k3:Keep (bM U) w2 w3:=by first | exact k3 | exact (Keep.refl _ w2).drew.trans k3
  obtain ⟨e1,e2⟩:=Bd.bwd bc r4 b3 hr (by omega) (by omega)
  rw [show (q - 1) - (aB G lo:Int)=p - 1 by omega] at e1 e2
  refine aY ?_
  rw [← e2]
  refine hk w3 S2 e1 r2 ?_
  refine (kw.trans (r3.mono fun b x _ hm => ?_)).trans (k3.mono fun b x _ hm => .inl (.inr hm))
  rcases hm with hm | hm
  ·exact .inl (.inl hm)
  ·exact .inr hm
 ·omega
 ·
  refine aW [.tmp 2] func233 ?_
  refine me @c8 @c1 @m1' @m10 @m11 @fU ?_
  obtain ⟨b2,k2⟩:=pU b 0
  have:=hk _ S ⟨q,_,0,bc.keep hR k2,b2,.inr (.inl ⟨by omega,by omega,rfl,rfl,by omega⟩)⟩ (fun _ h => .inl h) (k2.mono fun b x _ h => .inl (.inr h))
  rwa [dm (by omega) (by omega)] at this
 ·omega
theorem wt (bc:BC d U pb po rt rv lo hi G pF pL pK T R ord) (h:Bd d U pb po rt rv lov hiv lo hi G R w S p) (hk:∀ w',Bd d U pb po rt rv lov hiv lo hi G R w' S p→bV w w'→k .nilIface w'):aU prog 229 #[.pointer (some ⟨U,72,none⟩)] k w:=by
 obtain ⟨q,is,ps,hR,b,hst⟩:=h
 have c0:=b.c0
 refine aW [.tmp 2] func229 ?_
 refine bP @c0 ?_
 refine bc.f.error hR fun w2 r1 r2 => ?_
 refine aY ?_
 exact hk w2 ⟨q,is,ps,r1,b.keep r2 fun _ _ _ _ h=>h,hst⟩ r2
theorem H5 (bc:BC d U pb po rt rv lo hi G pF pL pK T R ord):FJ prog (.iface 226 (.pointer (some ⟨U,72,none⟩))) d pb po ord (GB G lo hi) (pF∧lo=none) (pL∧hi=none) (fun key=>pK key∧uw lo hi key) (bT U T) (Bd d U pb po rt rv lov hiv lo hi G R) where
 wf:=DO bc.f.wf
 small:=by
  rw [cS]
  have:=bc.f.small
  have:=iS (G:=G) (hi:=hi)
  omega
 inc h:=by obtain ⟨q,is,ps,hR,_⟩:=h; exact bc.f.inc hR
 rg h:=h.rg
 cur {w S p j} h hp hj:=by
  obtain ⟨q,is,ps,hR,b,hst⟩:=h
  rw [nJ hj]
  refine bc.f.cur hR ?_ ?_
  ·rcases hst with h | h | h | h | h | h <;> omega
  ·have:=cS (G:=G) (lo:=lo) (hi:=hi)
   have:=iS (G:=G) (hi:=hi)
   omega
 keep {w w2 S p M} h hk hM:=by
  obtain ⟨q,is,ps,hR,b,hst⟩:=h
  refine ⟨q,is,ps,bc.f.keep hR hk fun b x hb hm => ?_,b.keep hk fun x h1 h2 hb hm=>(hM _ _ hb hm).1 (.inr ⟨rfl,h1,h2⟩),hst⟩
  obtain ⟨a1,a2,a3⟩:=hM b x hb hm
  exact ⟨fun h=>a1 (.inl h),a2,a3⟩
 outS h b hb:=by obtain ⟨q,is,ps,hR,_⟩:=h; exact bc.f.outS hR b hb
 outT h:=by
  rcases h with h | ⟨rfl,_⟩
  ·exact bc.f.outT h
  ·exact bc.o _
 next h h1 h2 hk:=by
  rw [Tryz.iv226_Next]
  exact zB bc h h1 h2 hk
 prev h h1 hk:=by
  rw [Tryz.iv226_Prev]
  exact zD bc h h1 hk
 first h h1 hk:=by
  rw [Tryz.iv226_First]
  exact wq bc h h1 hk
 last h h1 hk:=by
  rw [Tryz.iv226_Last]
  exact zA bc h h1 hk
 seekGE {w S p k kv key} h h1 hkv hin hk:=by
  obtain ⟨a,c,rfl⟩:=av hkv
  rw [Tryz.iv226_SeekGE]
  exact ux bc h h1 hkv hin hk
 seekLT {w S p k kv key} h h1 hkv hin hk:=by
  obtain ⟨a,c,rfl⟩:=av hkv
  rw [Tryz.iv226_SeekLT]
  exact uy bc h h1 hkv hin hk
 error h hk:=by
  rw [Tryz.iv226_Error]
  exact wt bc h hk
end
end Go.Proofs
end
section
namespace Go.E
open Go Go.Sort Go.Proofs Go.Proofs.Tryz
theorem DQ {P:Program} {k:ae} {w:World} {t el:TypeId} {sz by_:Nat} {c:Nat} (h:fi P t=some (el,sz,by_)) (hb:by_ * c≤281474976710656) (hc:c≤9223372036854775807)
    (hk:∀ w2,w2.ownsRow 0 el sz (.slice (some ⟨w.heap.size,0,none⟩) 0 c) 0 []→bV w w2→k (.slice (some ⟨w.heap.size,0,none⟩) 0 c) w2):HA P t (.int .i64 0) (.int .i64 c) k w:=by
 obtain ⟨i,z,h1,h2,h3,rfl,rfl,h6,h7⟩:=jG h
 obtain ⟨w2,hr,o,g⟩:=run_make_own (P:=P) (w:=w) 0 t el i z i.size h1 h2 h3 rfl .i64 .i64 c hb (by unfold maxLen; omega) (aM _)
 simp only [HA,dW,hr]
 exact hk w2 o (jx g (by simp) (by simp))
theorem qP {w:World} {g n m cap:Nat} {xs:List Value} {e:TypeId} (h:w.ownsRow 0 e 1 (.slice (some ⟨g,0,none⟩) n cap) n xs) (hn:n≤m) (hm:m≤cap):∃ ys,w.ownsRow 0 e 1 (.slice (some ⟨g,0,none⟩) m cap) m ys∧ys.take n=xs:=by
 rcases h.2 with ⟨hv,_⟩ | ⟨g',cap',cur,hv,hb,hc,hn',hmx,hs,ht⟩
 ·simp at hv
 ·simp only [aV,aJ,Addr.mk.injEq,true_and,and_true] at hv
  obtain ⟨rfl,rfl⟩:=hv
  refine ⟨cur.toList.take m,⟨by simp [hs]; omega,.inr ⟨g,cap,cur,rfl,hb,hc,hm,hmx,hs,by rw [Nat.mul_one]⟩⟩,?_⟩
  rw [List.take_take,Nat.min_eq_left hn]
  simpa using ht
end Go.E
namespace Go.Proofs
open Go Go.E Go.Sort Go.Proofs.Tryz
section
variable {k:ae} {d w:World}
theorem uz {a:Option Addr} {n cap m:Nat} (hc:cap≤8589934592) (hm:m≤4294967296)
    (hk:∀ c w2,m≤c→c≤8589934592→w2.ownsRow 0 5 1 (.slice (some ⟨w.heap.size,0,none⟩) 0 c) 0 []→bV w w2→k (.slice (some ⟨w.heap.size,0,none⟩) 0 c) w2):aU prog 256 #[.slice a n cap,.int .i64 m] k w:=by
 have e1:IntKind.i64.wrap ((cap:Int) * 2)=((cap * 2:Nat):Int):=by rw [iO (by omega) (by omega)]; omega
 have fin:∀ (c:Nat),c≤4294967296∨c=524288→(c:Int)=c→True:=fun _ _ _=>trivial
 refine aW [.tmp 4] func256 ?_
 refine bP @e1 ?_
 refine pN (fun s:Nat=>[(1,.int .i64 m),(5,.int .i64 s)]) (fun s w'=>w'=w∧s≤524288) (by kernel_rfl) (by kernel_rfl) (fun K hK => ?_) ?_
 ·by_cases h1:cap * 2 < 512
  ·have h1':((cap * 2:Nat):Int) < 512:=by omega
   refine bP @h1' ?_
   refine hK _ _ 512 ?_ ⟨rfl,by omega⟩
   exact bA
  ·have h1':¬ ((cap * 2:Nat):Int) < 512:=by omega
   by_cases h2:524288 < cap * 2
   ·have h2':(524288:Int) < ((cap * 2:Nat):Int):=by omega
    refine dU @h1' @h2' ?_
    refine hK _ _ 524288 ?_ ⟨rfl,by omega⟩
    exact bA
   ·have h2':¬ (524288:Int) < ((cap * 2:Nat):Int):=by omega
    refine dU @h1' @h2' ?_
    refine hK _ _ (cap * 2) ?_ ⟨rfl,by omega⟩
    exact bA
 ·rintro e s w1 ⟨rfl,hs⟩
  by_cases h3:s < m
  ·have h3':(s:Int) < m:=by omega
   refine bP @h3' ?_
   refine DQ (c:=m) rw107 (by omega) (by omega) fun w2 o2 x2 => ?_
   refine aY ?_
   exact hk m w2 (aD _) (by omega) o2 x2
  ·have h3':¬ (s:Int) < m:=by omega
   refine bP @h3' ?_
   refine DQ (c:=s) rw107 (by omega) (by omega) fun w2 o2 x2 => ?_
   refine aY ?_
   exact hk s w2 (by omega) (by omega) o2 x2
end
end Go.Proofs
end
section
namespace Go.E
open Go Go.Sort Go.Proofs Go.Proofs.Tryz
theorem F8 {P:Program} {t:TypeId} {n:Nat} (h:kP P t=some n) {a:Option Addr} {len cap:Nat} {kd kd2 kd3:IntKind} {l i m:Int} {q:Value→Prop} (c1:0≤l) (c2:l≤i) (c3:i≤m) (c4:m≤cap) :
    dR P t (.slice a len cap) (some (.int kd l)) (some (.int kd2 i)) (some (.int kd3 m)) q=q (.slice (if m=l then a else a.map (·.add (l.toNat * n))) (i.toNat - l.toNat) (m.toNat - l.toNat)):=by
 rw [iG h rfl rfl c1 (by simpa [bd] using c2) (by simpa [bd] using c3) (by simpa [bd] using c4) (by simp)]
 rfl
theorem DS {P:Program} {k:ae} {w:World} {dT sT ty el:TypeId} {by_:Nat} {b o n c:Nat} {v:Value} {l:List Value} (h:fi P dT=some (el,1,by_)) (hl:l.length=n) (hn:0 < n) (hv:rB w v n l) (h1:∀ u ∈ l,u.oneCell'=true) (hc:∀ j,j < n→(w.cell? ⟨b,o+j,none⟩).isSome=true) (hf:∀ j,w.frozen? ⟨b,j,none⟩=false)
    (hk:k (.int .i64 n) (w.setCells b o l)):CO P #[dT,sT] ty #[.slice (some ⟨b,o,none⟩) n c,v] k w:=by
 obtain ⟨i,z,e1,e2,e3,e4,e5,e6,e7⟩:=jG h
 unfold rB at hv
 split at hv
 ·omega
 ·rename_i a m cc
  obtain ⟨rfl,hv2⟩:=hv
  have:=run_copy_cells (P:=P) w dT sT ty el b o m c a m cc l e1 (by rw [e2]; simpa using e4) (by rw [hl]; exact (Nat.min_self m).symm) hv2 (fun j hj=>hc j (by omega)) (fun j _=>hf _) h1
  simp only [CO,dW,this,hl]
  exact hk
 ·exact hv.elim
theorem vA {w:World} {g n cap o:Nat} {xs:List Value} {e:TypeId} {sz:Nat} (l:List Value) (h:w.ownsRow 0 e sz (.slice (some ⟨g,0,none⟩) n cap) n xs):∃ zs,(w.setCells g o l).ownsRow 0 e sz (.slice (some ⟨g,0,none⟩) n cap) n zs:=by
 induction l generalizing w o xs with
 | nil=>exact ⟨xs,h⟩
 | cons v l ih=>exact ih (cu h o v)
theorem lX {w w0:World} {g:Nat} {M:Nat→Nat→Prop} (l:List Value) (o:Nat) (h:Keep M w0 w) (hm:∀ j,j < l.length→M g (o+j)):Keep M w0 (w.setCells g o l):=by
 induction l generalizing w o with
 | nil=>exact h
 | cons v l ih =>
  refine ih (o+1) (h.set fun _=>by simpa using hm 0 (by simp)) fun j hj => ?_
  have:=hm (j+1) (by simp; omega)
  rwa [show o+1+j=o+(j+1) by omega]
theorem wu {P:Program} {k:ae} {w:World} {dT sT ty el:TypeId} {by_:Nat} {a:Option Addr} {c:Nat} {a2:Option Addr} {n2 c2:Nat} (h:fi P dT=some (el,1,by_)) (hk:k (.int .i64 0) w):CO P #[dT,sT] ty #[.slice a 0 c,.slice a2 n2 c2] k w:=by
 obtain ⟨i,z,e1,e2,e3,e4,e5,e6,e7⟩:=jG h
 have:=run_copy_none (P:=P) w dT sT ty el a a2 0 c n2 c2 e1 (by rw [e2]; simpa using e4) (Nat.min_zero _)
 simp only [CO,dW,this]
 exact hk
end Go.E
namespace Go.Proofs
open Go Go.E Go.Sort Go.Proofs.Tryz
section
variable {k:ae} {d w:World}
theorem zE {va:Option Addr} {len cap n:Nat} (hlc:len≤cap) (hc:cap≤8589934592) (hn:n≤4294967296)
    (hA:len+n≤cap→k (.tuple #[.slice va (len+n) cap,.slice (if n=0 then va else va.map (·.add len)) n n]) w)
    (hB:¬ len+n≤cap→∀ c w2,n≤c→c≤8589934592→w2.ownsRow 0 5 1 (.slice (some ⟨w.heap.size,0,none⟩) 0 c) 0 []→bV w w2→k (.tuple #[.slice (some ⟨w.heap.size,0,none⟩) n c,.slice (some ⟨w.heap.size,0,none⟩) n n]) w2) :
    aU prog 255 #[.slice va len cap,.int .i64 n] k w:=by
 have e1:IntKind.i64.wrap ((cap:Int) - len)=((cap - len:Nat):Int):=by rw [iO (by omega) (by omega)]; omega
 refine aW [.tmp 4,.tmp 5] func255 ?_
 by_cases h1:len+n≤cap
 ·have h1':¬ ((cap - len:Nat):Int) < n:=by omega
  have e2:IntKind.i64.wrap ((len:Int)+n)=((len+n:Nat):Int):=by rw [iO (by omega) (by omega)]; omega
  have c1:(0:Int)≤len:=by omega
  have c2:(len:Int)≤((len+n:Nat):Int):=by omega
  have c3:((len+n:Nat):Int)≤cap:=by omega
  have c4:(0:Int)≤((len+n:Nat):Int):=by omega
  simp (disch:=first | exact dZ | fail) only [go_sem,e1,h1',e2,F8 Tryz.es166 c1 c2 (Int.le_refl _) c3,rE Tryz.es166 c4 c3]
  have:=hA h1
  have ei:(if ((len+n:Nat):Int)=(len:Int) then va else va.map (·.add (len * 1)))=(if n=0 then va else va.map (·.add len)):=by
   rw [Nat.mul_one]
   by_cases h0:n=0
   ·rw [if_pos h0,if_pos (by omega)]
   ·rw [if_neg h0,if_neg (by omega)]
  rw [Nat.add_sub_cancel_left,ei]
  exact this
 ·have h1':((cap - len:Nat):Int) < n:=by omega
  refine dU @e1 @h1' ?_
  refine uz hc hn fun c w2 hnc hcc o2 x2 => ?_
  have e2:IntKind.i64.wrap ((0:Int)+n)=n:=by rw [iO (by omega) (by omega)]; omega
  have e3:IntKind.i64.wrap ((n:Int))=n:=by rw [iO (by omega) (by omega)]
  have c1:(0:Int)≤0:=by decide
  have c2:(0:Int)≤n:=by omega
  have c3:(n:Int)≤c:=by omega
  have z0:((0:Nat):Int)=0:=rfl
  simp (disch:=first | exact dZ | fail) only [go_sem,z0,Int.zero_add,e2,e3,F8 Tryz.es166 c1 c2 (Int.le_refl _) c3,rE Tryz.es166 c2 c3]
  have hn0:¬ ((n:Int)=0):=by omega
  rw [if_neg hn0]
  have:=hB h1 c w2 hnc hcc o2 x2
  exact this
theorem A7 {v src:Value} {xs:List Value} {l:Bytes} {vcap:Nat} (o:w.ownsRow 0 5 1 v xs.length xs) (hv:∃ a,v = .slice a xs.length vcap) (hc:vcap≤8589934592) (hs:eO w src l) (hl:l.length≤4294967296)
    (hk:∀ w2 (v2:Value) (ys:List Value) (vcap2:Nat) (pa:Option Addr),w2.ownsRow 0 5 1 v2 ys.length ys→(∃ a,v2 = .slice a ys.length vcap2)→vcap2≤8589934592→cJ w v v2→Keep (fun b x=>v.ownBlock=some b∧xs.length≤x) w w2→eO w2 (.slice pa l.length l.length) l →
     (0 < l.length→∃ g off,v2.ownBlock=some g∧pa=some ⟨g,off,none⟩∧off+l.length≤ys.length∧(v.ownBlock=some g→xs.length≤off))→(v2.ownBlock=v.ownBlock→xs.length≤ys.length)→k (.tuple #[v2,.slice pa l.length l.length]) w2) :
    aU prog 254 #[v,src] k w:=by
 obtain ⟨va,rfl⟩:=hv
 obtain ⟨sa,sc,rfl⟩:=av hs
 have hxc:xs.length≤vcap:=by
  obtain ⟨_,_,e,h,_⟩:=bF o
  simp only [aV,true_and] at e
  rw [e.2]; exact h
 refine aW [.tmp 4,.tmp 5] func254 ?_
 refine aY ?_
 refine zE hxc hc hl (fun hr => ?_) (fun hr c w2 hnc hcc o2 x2 => ?_)
 ·
  refine aY ?_
  by_cases h0:l.length=0
  ·rw [if_pos h0]
   have hl0:l=[]:=ah.1 h0
   subst hl0
   simp only [List.length_nil,Nat.add_zero]
   refine wu rw107 ?_
   refine aY ?_
   refine hk w (.slice va xs.length vcap) xs vcap va o ⟨va,rfl⟩ hc (cJ.refl _ _) (Keep.refl _ w) ?_ (fun h=>by simp at h) (fun _=>aD _)
   cases va with
   | none=>exact ⟨rfl,rfl⟩
   | some a =>
    rcases cy o with ⟨e,_⟩ | ⟨g,c',e,_⟩
    ·simp at e
    ·simp only [aV,aJ] at e
     rw [e.1]
     exact ⟨rfl,rfl,fun i x hx=>by simp [gA] at hx⟩
  ·rw [if_neg h0]
   obtain ⟨g,hg⟩:∃ g,va=some ⟨g,0,none⟩:=by
    rcases cy o with ⟨e,h,_⟩ | ⟨g,c',e,_⟩
    ·simp only [aV] at e
     omega
    ·simp only [aV] at e
     exact ⟨g,e.1⟩
   subst hg
   obtain ⟨ys,oy,hy⟩:=qP o (Nat.le_add_right _ l.length) hr
   have hyl:=oy.1
   rw [Nat.mul_one] at hyl
   have ea:(Option.map (·.add xs.length) (some (⟨g,0,none⟩:Addr)))=some ⟨g,xs.length,none⟩:=by
    show some ((⟨g,0,none⟩:Addr).add xs.length)=_
    rw [eR rfl,Nat.zero_add]
   rw [ea]
   refine DS (n:=l.length) (l:=gA l) rw107 (bG l) (by omega) (eY hs) (eZ l) (fun j hj => ?_) (fun j=>cq oy rfl j) ?_
   ·have:ys[xs.length+j]? = some ys[xs.length+j]:=aC (by omega)
    rw [bf oy this]; rfl
   refine aY ?_
   obtain ⟨zs,oz⟩:=vA (o:=xs.length) (gA l) oy
   have hzl:=oz.1
   rw [Nat.mul_one] at hzl
   rw [← hzl] at oz
   have hin:=World.cell?_setCells_in g (gA l) xs.length w (fun j hj=>by
    rw [bG] at hj
    have:ys[xs.length+j]? = some ys[xs.length+j]:=aC (by omega)
    rw [bf oy this]; rfl)
   have:=hk (w.setCells g xs.length (gA l)) (.slice (some ⟨g,0,none⟩) zs.length vcap) zs vcap (some ⟨g,xs.length,none⟩) oz ⟨_,rfl⟩ hc (fun g' hg' => .inl hg') (lX _ _ (Keep.refl _ w) fun j hj=>⟨rfl,by omega⟩) ⟨rfl,rfl,fun i x hx=>by
    obtain ⟨hi,e⟩:=aN.1 hx
    rw [← e]
    exact hin i hi⟩ (fun _=>⟨g,xs.length,rfl,rfl,by omega,fun _=>aD _⟩) (fun _=>by omega)
   rw [hzl] at this
   exact this
 ·
  have hl0:0 < l.length:=by omega
  have k12:=x2
  have hs2:=hs.keep x2 fun _ _ _ _ _ _ h=>h
  obtain ⟨ys,oy,hy⟩:=qP o2 (aM l.length) hnc
  have hyl:=oy.1
  rw [Nat.mul_one] at hyl
  refine aY ?_
  refine DS (n:=l.length) (l:=gA l) rw107 (bG l) (by omega) (eY hs2) (eZ l) (fun j hj => ?_) (fun j=>cq oy rfl j) ?_
  ·have:ys[0+j]? = some ys[0+j]:=aC (by omega)
   rw [bf oy this]; rfl
  refine aY ?_
  obtain ⟨zs,oz⟩:=vA (o:=0) (gA l) oy
  have hzl:=oz.1
  rw [Nat.mul_one] at hzl
  rw [← hzl] at oz
  have hin:=World.cell?_setCells_in w.heap.size (gA l) 0 w2 (fun j hj=>by
   rw [bG] at hj
   have:ys[0+j]? = some ys[0+j]:=aC (by omega)
   rw [bf oy this]; rfl)
  have kk:Keep (fun b x=>(Value.slice va xs.length vcap).ownBlock=some b∧xs.length≤x) w (w2.setCells w.heap.size 0 (gA l)):=by
   have h1:Keep (fun b _=>w.heap.size≤b) w (w2.setCells w.heap.size 0 (gA l)):=lX _ _ x2.keep fun j _=>aD _
   exact h1.mono fun b x hb h=>by omega
  have:=hk (w2.setCells w.heap.size 0 (gA l)) (.slice (some ⟨w.heap.size,0,none⟩) zs.length c) zs c (some ⟨w.heap.size,0,none⟩) oz ⟨_,rfl⟩ hcc (fun g' hg' => .inr (by cases hg'; exact aD _)) kk ⟨rfl,rfl,fun i x hx=>by
   obtain ⟨hi,e⟩:=aN.1 hx
   rw [← e]
   exact hin i hi⟩ (fun _=>⟨w.heap.size,0,rfl,rfl,by omega,fun h=>by have:=(o.lt _ h).2; omega⟩) (fun h=>by have:=(o.lt w.heap.size (h.symm.trans rfl)).2; exact absurd this (cx _))
  rw [hzl] at this
  exact this
end
end Go.Proofs
end
section
namespace Go.E
open Go Go.Sort Go.Proofs Go.Proofs.Tryz
structure DC (d:World) (Y:DX) (U Bf C pb po:Nat) (rt:TypeId) (rv:Value) (G:List Sp) (pF pL:Prop) (pK:Bytes→Prop) (T:Nat→Nat→Prop) (R:World→(Nat→Prop)→Int→Prop):Prop where
 f:FJ prog (.iface rt rv) d pb po Y.ord G pF pL pK T R
 t:∀ x,Y.a≤x→x≤Y.a+11→¬ T U x
 tB:∀ x,Y.e≤x→x≤Y.e+2→¬ T Bf x
 s:∀ {w S p},R w S p→¬ S U∧¬ S Bf
 tl:∀ {w S p b x},R w S p→T b x→b < w.heap.size
 meth:∀ {w S p xb xo yb yo x y k},R w S p→dB Y.ord w xb xo x→dB Y.ord w yb yo y→x.ks≠[]→x.ks.length < 100000→(∀ w',bV w w'→k (.bool (decide (x.ks.map Y.π=y.ks.map Y.π))) w') →
  bm prog (.iface Y.mt Y.mv) "ShouldDefragment" #[.func (.func 103) #[] #[], .pointer (some ⟨xb, xo, none⟩), .pointer (some ⟨yb, yo, none⟩)] k w
 tp:∀ y,po≤y→y≤po+3→T pb y
 oU:dA d U
 oB:dA d Bf
 ne:Bf≠U
 cmp0:d.cell? ⟨C,0,none⟩=some (.func (.func 102) #[] #[])
 len:∀ j,j < G.length→G[j]!.s.length≤4294967296∧G[j]!.e.length≤4294967296∧G[j]!.ks.length < 100000∧∀ x ∈ G[j]!.ks,x.suf.length≤4294967296∧x.val.length≤4294967296
structure DP (w:World) (Y:DX) (U Bf C:Nat) (rt:TypeId) (rv:Value) (is:Option Addr) (ps:Int):Prop where
 d81:w.cell? ⟨U,Y.a,none⟩=some (.pointer (some ⟨Bf,Y.e,none⟩))
 d82:w.cell? ⟨U,Y.a+1,none⟩=some (.pointer (some ⟨C,0,none⟩))
 d83:w.cell? ⟨U,Y.a+2,none⟩=some (.func (.func 103) #[] #[])
 d84:w.cell? ⟨U,Y.a+3,none⟩=some (.iface rt rv)
 d85:w.cell? ⟨U,Y.a+4,none⟩=some (.pointer is)
 d86:w.cell? ⟨U,Y.a+5,none⟩=some (.int .i8 ps)
 d87:∃ v,w.cell? ⟨U,Y.a+6,none⟩=some v
 d88:∃ v,w.cell? ⟨U,Y.a+7,none⟩=some v
 d89:∃ v,w.cell? ⟨U,Y.a+8,none⟩=some v
 d90:∃ v,w.cell? ⟨U,Y.a+9,none⟩=some v
 d91:w.cell? ⟨U,Y.a+10,none⟩=some (.iface Y.mt Y.mv)
 d92:∃ c f,w.cell? ⟨U,Y.a+11,none⟩=some (.func (.func 101) c f)∧c = #[]∧f = #[]
 fU:∀ x,w.frozen? ⟨U,x,none⟩=false
 fB:∀ x,w.frozen? ⟨Bf,x,none⟩=false
structure DR (d w:World) (Y:DX) (U Bf:Nat) (T:Nat→Nat→Prop) (D S:Nat→Prop) (Q:Nat→Nat→Prop) (vc vk vb:Value) (xs xb:List Value) (cc:Nat) (lk:List KR):Prop where
 ch:w.cell? ⟨Bf,Y.e,none⟩=some vc
 co:w.ownsRow 0 5 1 vc xs.length xs
 cf:(∃ a,vc = .slice a xs.length cc)∧cc≤8589934592
 kh:w.cell? ⟨Bf,Y.e+1,none⟩=some vk
 ko:w.ownsRow 0 256 3 vk lk.length (dE lk)
 bh:w.cell? ⟨Bf,Y.e+2,none⟩=some vb
 bo:w.ownsRow 0 5 1 vb xb.length xb
 cD:∀ g,vc.ownBlock=some g→D g
 kD:∀ g,vk.ownBlock=some g→D g
 bD:∀ g,vb.ownBlock=some g→D g
 ck:∀ g,vc.ownBlock=some g→vk.ownBlock≠some g
 cb:∀ g,vc.ownBlock=some g→vb.ownBlock≠some g
 kb:∀ g,vk.ownBlock=some g→vb.ownBlock≠some g
 dD:∀ g,D g→g < w.heap.size∧g≠U∧g≠Bf∧¬ S g∧(∀ x,¬ T g x)∧dA d g
 qD:∀ b x,Q b x→D b
 qc:∀ g x,vc.ownBlock=some g→Q g x→x < xs.length
 qk:∀ g x,vk.ownBlock=some g→¬ Q g x
 qb:∀ g x,vb.ownBlock=some g→¬ Q g x
def Pc (w:World) (Q:Nat→Nat→Prop) (v:Value) (l:Bytes):Prop:=eO w v l∧∀ b o n c,v = .slice (some ⟨b,o,none⟩) n c→∀ i,i < l.length→Q b (o+i)
def dM (Y:DX) (U Bf:Nat) (D:Nat→Prop):Nat→Nat→Prop:=fun b x=>b=U∧Y.a≤x∧x≤Y.a+11∨b=Bf∧Y.e≤x∧x≤Y.e+2∨D b
section
variable {d w w2:World} {Y:DX} {U Bf C:Nat} {rt:TypeId} {rv:Value} {T:Nat→Nat→Prop} {D S:Nat→Prop} {Q Q2:Nat→Nat→Prop} {vc vk vb v:Value} {xs xb:List Value} {cc:Nat} {lk:List KR} {is:Option Addr} {ps:Int} {l:Bytes} {M:Nat→Nat→Prop}
theorem Pc.keep (h:Pc w Q v l) (hk:Keep M w w2) (hm:∀ b x,Q b x→b < w.heap.size→¬ M b x):Pc w2 Q v l:=by
 refine ⟨?_,h.2⟩
 obtain ⟨h1,h2⟩:=h
 unfold eO at h1 ⊢
 split at h1
 ·exact h1
 ·rename_i a n c
  obtain ⟨b,o,s⟩:=a
  obtain ⟨e1,e2,e3⟩:=h1
  have hs:s=none:=e1
  subst hs
  refine ⟨rfl,e2,fun i x hx => ?_⟩
  have hx':=e3 i x hx
  have hi:i < l.length:=by
   have:=(aN.1 hx).1
   rwa [bG] at this
  exact hk.some hx' (hm _ _ (h2 b o n c rfl i hi) (aE hx'))
 ·exact h1.elim
theorem Pc.mono (h:Pc w Q v l) (hq:∀ b x,Q b x→Q2 b x):Pc w Q2 v l:=⟨h.1,fun b o n c e i hi=>hq _ _ (h.2 b o n c e i hi)⟩
theorem DP.keep (h:DP w Y U Bf C rt rv is ps) (hB:Bf < w.heap.size) (hk:Keep M w w2) (h1:∀ x,Y.a≤x→x≤Y.a+11→¬ M U x):DP w2 Y U Bf C rt rv is ps:=by
 have hU:=aE h.d81
 have s:∀ {x v},Y.a≤x→x≤Y.a+11→w.cell? ⟨U,x,none⟩=some v→w2.cell? ⟨U,x,none⟩=some v:=fun a b hv=>hk.some hv (h1 _ a b)
 have sx:∀ {x},Y.a≤x→x≤Y.a+11→(∃ v,w.cell? ⟨U,x,none⟩=some v)→∃ v,w2.cell? ⟨U,x,none⟩=some v:=fun a b ⟨v,hv⟩=>⟨v,s a b hv⟩
 obtain ⟨c,f,e,e2⟩:=h.d92
 exact ⟨s (by omega) (by omega) h.d81,s (by omega) (by omega) h.d82,s (by omega) (by omega) h.d83,s (by omega) (by omega) h.d84,s (by omega) (by omega) h.d85,s (by omega) (by omega) h.d86,sx (by omega) (by omega) h.d87,sx (by omega) (by omega) h.d88,sx (by omega) (by omega) h.d89,sx (by omega) (by omega) h.d90,s (by omega) (by omega) h.d91,⟨c,f,s (by omega) (by omega) e,e2⟩,fun x=>by rw [hk.frozen U x hU]; exact h.fU x,fun x=>by rw [hk.frozen Bf x hB]; exact h.fB x⟩
theorem DP.drew (h:DP w Y U Bf C rt rv is ps):DP w.drew Y U Bf C rt rv is ps:=⟨h.d81,h.d82,h.d83,h.d84,h.d85,h.d86,h.d87,h.d88,h.d89,h.d90,h.d91,h.d92,h.fU,h.fB⟩
theorem DR.keep (r:DR d w Y U Bf T D S Q vc vk vb xs xb cc lk) (hk:Keep M w w2) (h1:∀ x,Y.e≤x→x≤Y.e+2→¬ M Bf x) (h2:∀ g,D g→∀ x,¬ M g x):DR d w2 Y U Bf T D S Q vc vk vb xs xb cc lk where
 ch:=hk.some r.ch (h1 _ (by omega) (by omega))
 co:=al r.co hk fun g hg=>h2 g (r.cD g hg)
 cf:=r.cf
 kh:=hk.some r.kh (h1 _ (by omega) (by omega))
 ko:=al r.ko hk fun g hg=>h2 g (r.kD g hg)
 bh:=hk.some r.bh (h1 _ (by omega) (by omega))
 bo:=al r.bo hk fun g hg=>h2 g (r.bD g hg)
 cD:=r.cD
 kD:=r.kD
 bD:=r.bD
 ck:=r.ck
 cb:=r.cb
 kb:=r.kb
 dD g hg:=by obtain ⟨a,b⟩:=r.dD g hg; exact ⟨aG a hk.size,b⟩
 qD:=r.qD
 qc:=r.qc
 qk:=r.qk
 qb:=r.qb
theorem DR.drew (r:DR d w Y U Bf T D S Q vc vk vb xs xb cc lk):DR d w.drew Y U Bf T D S Q vc vk vb xs xb cc lk:=⟨r.ch,r.co.drew,r.cf,r.kh,r.ko.drew,r.bh,r.bo.drew,r.cD,r.kD,r.bD,r.ck,r.cb,r.kb,r.dD,r.qD,r.qc,r.qk,r.qb⟩
end
end Go.E
namespace Go.Proofs
open Go Go.E Go.Sort Go.Proofs.Tryz
section
variable {k:ae} {d w:World} {Y:DX} {U Bf C:Nat} {rt:TypeId} {rv:Value} {T:Nat→Nat→Prop} {D S:Nat→Prop} {Q:Nat→Nat→Prop} {vc vk vb:Value} {xs xb:List Value} {cc:Nat} {lk:List KR} {is:Option Addr} {ps:Int} {l:Bytes}
set_option maxHeartbeats 1000000 in
theorem iC {src:Value} (ne:Bf≠U) (p:DP w Y U Bf C rt rv is ps) (r:DR d w Y U Bf T D S Q vc vk vb xs xb cc lk) (hinc:cH d w) (hS:∀ g,S g→g < w.heap.size) (hT:∀ b x,T b x→b < w.heap.size) (hs:eO w src l) (hl:l.length≤4294967296)
    (hk:∀ w2 v vc2 xs2 cc2 (D2:Nat→Prop) (Q2:Nat→Nat→Prop),DP w2 Y U Bf C rt rv is ps→DR d w2 Y U Bf T D2 S Q2 vc2 vk vb xs2 xb cc2 lk→Pc w2 Q2 v l→(∃ a n c,v = .slice a n c)→(∀ b x,Q b x→Q2 b x)→(∀ b,D b→D2 b)→(∀ b,D2 b→D b∨w.heap.size≤b) →
     Keep (fun b x=>(b=Bf∧x=Y.e∨vc.ownBlock=some b)∧¬ Q b x) w w2→k v w2) :
    aU prog 253 #[.pointer (some ⟨U,Y.a,none⟩),src] k w:=by
 obtain ⟨sa,sc,rfl⟩:=av hs
 have d81:=p.d81
 have c6:=r.ch
 have hU:=aE d81
 have hB:=aE c6
 obtain ⟨⟨ca,hcf⟩,hcc⟩:=r.cf
 subst hcf
 refine aW [.tmp 4] func253 ?_
 cases sa with
 | none =>
  have hl0:l=[]:=by
   obtain ⟨h1,h2⟩:l.length=0∧l=[]:=hs
   exact h2
  subst hl0
  simp (disch:=first | exact dZ | fail) only [go_sem,Option.isNone_none]
  exact hk w _ _ _ _ D Q p r ⟨⟨rfl,rfl⟩,fun b o n c e=>by simp at e⟩ ⟨_,_,_,rfl⟩ (fun _ _ h=>h) (fun _ h=>h) (fun _ h => .inl h) (Keep.refl _ w)
 | some sa =>
  simp (disch:=first | exact dZ | fail) only [go_sem,Option.isNone_some]
  refine ao (sq [0,1,2] (.read 3 (sq [4,5,6] (.read 7 (sq [8,9] (.read 10 (sq [11] (.eff 12 [3] (sq [13,14,15,16,17] (.eff 18 [] (sq [19] .done))))))))))) ?_
  refine dU @d81 @c6 ?_
  refine A7 (w:=w.drew) r.co.drew ⟨ca,rfl⟩ hcc (by exact hs) hl fun w2 v2 ys vcap2 pa o2 f2 hc2 n2 k2 b2 s2 m2 => ?_
  have k2:Keep (fun b x=>(Value.slice ca xs.length cc).ownBlock=some b∧xs.length≤x) w w2:=(Keep.refl _ w).drew.trans k2
  have n2:cJ w (.slice ca xs.length cc) v2:=n2
  obtain ⟨a2,hv2⟩:=f2
  subst hv2
  have hvc:∀ g,(Value.slice ca xs.length cc).ownBlock=some g→g≠U∧g≠Bf:=fun g hg=>⟨(r.dD g (r.cD g hg)).2.1,(r.dD g (r.cD g hg)).2.2.1⟩
  have q81:=k2.some d81 fun h=>(hvc _ h.1).1 rfl
  have q6:=k2.some c6 fun h=>(hvc _ h.1).2 rfl
  have fB2:∀ x,w2.frozen? ⟨Bf,x,none⟩=false:=fun x=>by rw [k2.frozen Bf x hB]; exact p.fB x
  refine dg @q81 @q6 @fB2 ?_
  obtain ⟨w3,hw3⟩:∃ w3,w3=w2.setCell ⟨Bf,Y.e,none⟩ (.slice a2 ys.length vcap2):=⟨_,rfl⟩
  rw [← hw3]
  have k3:Keep (fun b x=>b=Bf∧x=Y.e) w2 w3:=by rw [hw3]; exact bR ⟨rfl,rfl⟩
  obtain ⟨Q2,hQ2⟩:∃ Q2:Nat→Nat→Prop,Q2=fun b x=>Q b x∨∃ off,0 < l.length∧pa=some ⟨b,off,none⟩∧off≤x∧x < off+l.length:=⟨_,rfl⟩
  obtain ⟨D2,hD2⟩:∃ D2:Nat→Prop,D2=fun b=>D b∨(Value.slice a2 ys.length vcap2).ownBlock=some b:=⟨_,rfl⟩
  have piece:∀ b off,0 < l.length→pa=some ⟨b,off,none⟩→(Value.slice a2 ys.length vcap2).ownBlock=some b∧off+l.length≤ys.length:=by
   intro b off h0 he
   obtain ⟨g,o',e1,e2,e3,_⟩:=s2 h0
   rw [e2] at he
   cases he
   exact ⟨e1,e3⟩
  have kf:Keep (fun b x=>(b=Bf∧x=Y.e∨(Value.slice ca xs.length cc).ownBlock=some b)∧¬ Q b x) w w3:=by
   refine (k2.mono fun b x _ h=>⟨.inr h.1,fun hq => ?_⟩).trans (k3.mono fun b x _ h=>⟨.inl h,fun hq=>(r.dD b (r.qD b x hq)).2.2.1 h.1⟩)
   have:=r.qc b x h.1 hq
   have:=h.2
   omega
  have kx:Keep (fun b x=>b=Bf∧x=Y.e∨(Value.slice ca xs.length cc).ownBlock=some b) w w3:=kf.mono fun b x _ h=>h.1
  have nk:∀ g,vk.ownBlock=some g→∀ x,¬ (g=Bf∧x=Y.e∨(Value.slice ca xs.length cc).ownBlock=some g):=by
   rintro g hg x (⟨h,_⟩ | h)
   ·exact (r.dD g (r.kD g hg)).2.2.1 h
   ·exact r.ck g h hg
  have nb:∀ g,vb.ownBlock=some g→∀ x,¬ (g=Bf∧x=Y.e∨(Value.slice ca xs.length cc).ownBlock=some g):=by
   rintro g hg x (⟨h,_⟩ | h)
   ·exact (r.dD g (r.bD g hg)).2.2.1 h
   ·exact r.cb g h hg
  have nB:∀ x,x≠Y.e→¬ (Bf=Bf∧x=Y.e∨(Value.slice ca xs.length cc).ownBlock=some Bf):=by
   rintro x hx (⟨_,h⟩ | h)
   ·exact hx h
   ·exact (hvc Bf h).2 rfl
  have v2d:∀ g,(Value.slice a2 ys.length vcap2).ownBlock=some g→g < w3.heap.size∧g≠U∧g≠Bf∧¬ S g∧(∀ x,¬ T g x)∧dA d g:=fun g hg=>by
   have hlt:=aG (o2.lt g hg).2 k3.size
   rcases n2 g hg with h | h
   ·exact ⟨hlt,(r.dD g (r.cD g h)).2⟩
   ·exact ⟨hlt,by omega,by omega,fun hs=>by have:=hS g hs; omega,fun x hx=>by have:=hT g x hx; omega,hinc.out h⟩
  have dr:DR d w3 Y U Bf T D2 S Q2 (.slice a2 ys.length vcap2) vk vb ys xb vcap2 lk:=by
   refine ⟨by rw [hw3,cG,q6]; rfl,al o2 k3 fun g hg x h=>(v2d g hg).2.2.1 h.1,⟨⟨a2,rfl⟩,hc2⟩,kx.some r.kh (nB _ (by omega)),al r.ko kx nk,kx.some r.bh (nB _ (by omega)),al r.bo kx nb,?_,?_,?_,?_,?_,r.kb,?_,?_,?_,?_,?_⟩
   ·intro g hg; rw [hD2]; exact .inr hg
   ·intro g hg; rw [hD2]; exact .inl (r.kD g hg)
   ·intro g hg; rw [hD2]; exact .inl (r.bD g hg)
   ·intro g hg hk'
    rcases n2 g hg with h | h
    ·exact r.ck g h hk'
    ·have:=(r.ko.lt g hk').2; omega
   ·intro g hg hb'
    rcases n2 g hg with h | h
    ·exact r.cb g h hb'
    ·have:=(r.bo.lt g hb').2; omega
   ·intro g hg
    rw [hD2] at hg
    rcases hg with hg | hg
    ·obtain ⟨a,b⟩:=r.dD g hg
     exact ⟨aG a kx.size,b⟩
    ·exact v2d g hg
   ·intro b x hq
    rw [hQ2] at hq
    rw [hD2]
    rcases hq with hq | ⟨off,h0,he,_⟩
    ·exact .inl (r.qD b x hq)
    ·exact .inr (piece b off h0 he).1
   ·intro g x hg hq
    rw [hQ2] at hq
    rcases hq with hq | ⟨off,h0,he,h1,h2⟩
    ·rcases n2 g hg with h | h
     ·have:=r.qc g x h hq
      have:=m2 (by rw [hg]; exact h.symm)
      omega
     ·have:=(r.dD g (r.qD g x hq)).1; omega
    ·have:=(piece g off h0 he).2
     omega
   ·intro g x hg hq
    rw [hQ2] at hq
    rcases hq with hq | ⟨off,h0,he,_⟩
    ·exact r.qk g x hg hq
    ·have hp:=(piece g off h0 he).1
     rcases n2 g hp with h | h
     ·exact r.ck g h hg
     ·have:=(r.ko.lt g hg).2; omega
   ·intro g x hg hq
    rw [hQ2] at hq
    rcases hq with hq | ⟨off,h0,he,_⟩
    ·exact r.qb g x hg hq
    ·have hp:=(piece g off h0 he).1
     rcases n2 g hp with h | h
     ·exact r.cb g h hg
     ·have:=(r.bo.lt g hg).2; omega
  refine hk w3 _ _ _ _ D2 Q2 (p.keep hB kx ?_) dr ?_ ⟨pa,_,_,rfl⟩ ?_ ?_ ?_ kf
  ·rintro x _ _ (⟨h,_⟩ | h)
   ·exact ne h.symm
   ·exact (hvc U h).1 rfl
  ·have pc2:Pc w2 Q2 (.slice pa l.length l.length) l:=by
     refine ⟨b2,fun b o n c e i hi => ?_⟩
     simp only [aV] at e
     rw [hQ2]
     exact .inr ⟨o,by omega,e.1,by omega,by omega⟩
   exact pc2.keep k3 fun b x hq _ h=>(dr.dD b (dr.qD b x hq)).2.2.1 h.1
  ·intro b x h; rw [hQ2]; exact .inl h
  ·intro b h; rw [hD2]; exact .inl h
  ·intro b h
   rw [hD2] at h
   rcases h with h | h
   ·exact .inl h
   ·rcases n2 b h with h | h
    ·exact .inl (r.cD b h)
    ·exact .inr h
end
end Go.Proofs
end
