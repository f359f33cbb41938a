/- Parts of the proof: Mf, Bp, Bo, Bq, Br, By, Bz. -/
import Derived.Laws.MakeOwn
import Derived.Test.YtjcbeinpkafjiaaGreatR13
set_option linter.all false
set_option maxRecDepth 10000
section
namespace Go.Proofs
open Go Go.E Go.Sort Go.Proofs.Tryz
section
variable {k:aq} {d w w2:World} {U o Bf:Nat} {Z:TX} {Ls:Array Lvl} {B:List Bytes} {S:Nat→Prop} {pos:Nat→Int} {vk vb:Value} {vs:Nat→Prop} {lk:List KR} {xb:List Value} {p:Int}
theorem Mi.keep {M:Nat→Nat→Prop} (m:MS d U o Bf Z Ls B) (h:Mi d U o Bf Z Ls B w S p) (hk:Keep M w w2) (hM:∀ b x,b < w.heap.size→M b x→¬ mT U o Bf Z Ls b x∧¬ S b∧d.cell? ⟨b,x,none⟩=none):Mi d U o Bf Z Ls B w2 S p:=by
 obtain ⟨u,pos,vk,vb,vs,lk,xb,sc,hu,hc,hsp,hd⟩:=h
 have hU:=aE sc.g.bufs
 have hB:=aE sc.g.lvls
 have hk:Keep (fun b x=>M b x∧b < w.heap.size) w w2:=⟨hk.size,fun b o hb hn=>hk.cell b o hb fun h=>hn ⟨h,hb⟩,hk.frozen,fun b hb hn=>hk.block b hb fun o h=>hn o ⟨h,hb⟩,hk.st⟩
 have hM:∀ b x,(M b x∧b < w.heap.size)→¬ mT U o Bf Z Ls b x∧¬ S b∧d.cell? ⟨b,x,none⟩=none:=fun b x h=>hM b x h.2 h.1
 have nU:∀ x,o≤x→x < o+70→¬ (M U x∧U < w.heap.size):=fun x h1 h2 h=>(hM _ _ h).1 (.inl ⟨rfl,h1,h2⟩)
 have nB:∀ x,x≤5→¬ (M Bf x∧Bf < w.heap.size):=fun x hx h=>(hM _ _ h).1 (.inr (.inl ⟨rfl,hx⟩))
 have nI:∀ i,i < Ls.size→∀ x,¬ (M Ls[i]!.I x∧Ls[i]!.I < w.heap.size):=fun i hi x h=>(hM _ _ h).1 (.inr (.inr (.inl ⟨i,hi,rfl⟩)))
 have nS:∀ g,S g→∀ x,¬ (M g x∧g < w.heap.size):=fun g hg x h=>(hM _ _ h).2.1 hg
 have g':=sc.g.keep m.mc hk (nU _ (by omega) (by omega)) (nB _ (by omega)) (nU _ (by omega) (by omega)) (fun x _ _=>nU x (by omega) (by omega)) nI (fun b x h=>(hM b x h).2.2)
 have hh:∀ {rev hp},MH w U o Bf 0 Ls pos rev hp→MH w2 U o Bf 0 Ls pos rev hp:=fun h=>h.keep hk (fun x _ _=>nB x (by omega)) (fun x _ _=>nU x (by omega) (by omega)) hU
 have hse:Ag w U o→Ag w2 U o:=fun ⟨⟨v3,a3,b3⟩,⟨v4,a4,b4⟩⟩=>⟨⟨v3,hk.some a3 (nU _ (by omega) (by omega)),b3⟩,⟨v4,hk.some a4 (nU _ (by omega) (by omega)),b4⟩⟩
 have hd11:∀ {v},w.cell? ⟨U,o+9,none⟩=some v→w2.cell? ⟨U,o+9,none⟩=some v:=fun h=>hk.some h (nU _ (by omega) (by omega))
 obtain ⟨v11,e11⟩:=sc.u.u11
 refine ⟨u,pos,vk,vb,vs,lk,xb,⟨g',sc.hw.keep hk (fun x _ _=>nB x (by omega)) (fun x _ _=>nU x (by omega) (by omega)),sc.u.keep hk (fun x _ _=>nU x (by omega) (by omega)) ⟨_,hd11 e11⟩,sc.r.keep m hk (nB _ (by omega)) (nB _ (by omega)) nS fun b x _ h=>⟨fun ht=>(hM b x h).1 (.inr (.inr (.inr ht))),(hM b x h).2.2⟩⟩,hu,hc,fun h1 h2=>(hsp h1 h2).keep hk nS (fun y _ _=>nU y (by omega) (by omega)),?_⟩
 ·rcases hd with ⟨a,⟨hp,b⟩,c,e⟩ | ⟨a,⟨hp,b⟩,c,e⟩ | ⟨a,c,e,f⟩
  ·exact .inl ⟨hd11 a,⟨hp,hh b⟩,c,e.imp id hse⟩
  ·exact .inr (.inl ⟨hd11 a,⟨hp,hh b⟩,c,e.imp id hse⟩)
  ·exact .inr (.inr ⟨hd11 a,c,e,hk.some f (nB _ (by omega))⟩)
theorem xu (m:MS d U o Bf Z Ls B) (h:Mi d U o Bf Z Ls B w S p) (hk:∀ w',Mi d U o Bf Z Ls B w' S p→bY w w'→k .nilIface w'):aX prog 192 #[.pointer (some ⟨U,o,none⟩)] k w:=by
 have hc:=h
 obtain ⟨u,pos,vk,vb,vs,lk,xb,sc,hu,hcu,hsp,hd⟩:=h
 have c1:=sc.g.bufs
 have er:=sc.g.err
 obtain ⟨n,hn,c2⟩:=sc.hw.c2
 refine ai [.tmp 2] func192 ?_
 refine bf @c1 ?_
 have c2':w.cell? ⟨Bf,2+2,none⟩=some (.slice (some ⟨U,o+50,none⟩) n 10):=c2
 have len:∀ {K:aq},K (.int .i64 n) w→aX prog 211 #[.pointer (some ⟨Bf,2,none⟩)] K w:=by
  intro K hK
  refine ai [.tmp 2] func211 ?_
  refine bf @c2' ?_
  exact hK
 refine len ?_
 by_cases h0:n=0
 ·have h0':((n:Int) == 0)=true:=by rw [beq_iff_eq]; omega
  refine dV @h0' @er ?_
  exact hk w hc (bY.refl w)
 ·have h0':((n:Int) == 0)=false:=by rw [beq_eq_false_iff_ne]; omega
  have hheap:∃ rev hp,MH w U o Bf 0 Ls pos rev hp∧0 < hp.size:=by
   rcases hd with ⟨_,⟨hp,b⟩,_⟩ | ⟨_,⟨hp,b⟩,_⟩ | ⟨_,_,_,f⟩
   ·refine ⟨_,hp,b,?_⟩
    have:=b.at_.c2
    rw [c2'] at this
    simp only [aK,aW,true_and,and_true] at this
    omega
   ·refine ⟨_,hp,b,?_⟩
    have:=b.at_.c2
    rw [c2'] at this
    simp only [aK,aW,true_and,and_true] at this
    omega
   ·rw [c2'] at f
    simp only [aK,aW,true_and,and_true] at f
    omega
  obtain ⟨rev,hp,hh,hz⟩:=hheap
  obtain ⟨r,hre⟩:∃ r,r=hp[0]! := ⟨_,rfl⟩
  have hr:=(hh.mem _).1 (gS hz)
  rw [← hre] at hr
  have ix:=hh.at_.ix 0 hz
  rw [← hre] at ix
  have lvs:=sc.g.lvls
  have d0:=(sc.g.lv r hr.1).it
  have z0:(0:Int).toNat=0:=rfl
  have z1:(0:Int)≤0:=by decide
  have hz2:(0:Int) < n:=by omega
  have hr':(r:Int) < Ls.size:=by have:=hr.1; omega
  refine dV @h0' @er ?_
  refine ay (sq [0,1,2] (.read 3 (sq [4,5] (.read 6 (sq [7,8,9] (.read 10 (sq [11,12,13] (.read 14 (sq [15,16] (.read 17 (sq [18,19] (.read 20 (.eff 21 [] (sq [22] .done)))))))))))))) ?_
  refine FM @c1 @lvs @c2' @ix @d0 @z0 @z1 @hz2 @hr' @Nat.zero_mul @Nat.add_zero ?_
  refine ia ?_
  refine gH @c1 @lvs @c2' @ix @d0 ?_
  first | exact hk w hc (bY.refl w) | exact hk w.drew (Mi.keep (M:=fun _ _=>False) m hc (Keep.refl _ w).drew fun _ _ _ h=>h.elim) (Keep.refl _ w).drew
theorem K7 (m:MS d U o Bf Z Ls B) (hsm:B.length < 999999):FJ prog (.iface 224 (.pointer (some ⟨U,o,none⟩))) d U (o+4) Z.ord (GL Z.F Ls.size (Lf Ls) B) True False (fun _=>False) (mT U o Bf Z Ls) (Mi d U o Bf Z Ls B) where
 wf:=uR m.bds
 small:=by
  rw [cX]
  have:(cP Ls.size (Lf Ls) B).length≤B.length+1:=by
   unfold cP
   exact aU (az _ _) (by simp)
  omega
 inc h:=by obtain ⟨u,pos,vk,vb,vs,lk,xb,sc,_⟩:=h; exact sc.g.inc
 rg h:=by obtain ⟨u,pos,vk,vb,vs,lk,xb,sc,hu,hc,_⟩:=h; rw [cX]; have:=hc.rg; omega
 cur {w S p j} h hp hj:=by
  obtain ⟨u,pos,vk,vb,vs,lk,xb,sc,hu,hc,hsp,_⟩:=h
  rw [cX] at hj
  have:=hsp (by omega) (by omega)
  have e:(cP Ls.size (Lf Ls) B)[j]? = some u:=by
   rcases hc with ⟨i,e1,e2⟩ | ⟨e1,_⟩ | ⟨e1,_⟩
   ·obtain rfl:i=j:=by omega
    exact e2
   ·omega
   ·omega
  rw [ji e]
  exact this
 keep h hk hM:=Mi.keep m h hk hM
 outS h b hb:=by
  obtain ⟨u,pos,vk,vb,vs,lk,xb,sc,_⟩:=h
  obtain ⟨_,_,a,_,e⟩:=sc.r.sp b hb
  exact ⟨a,e⟩
 outT h:=by
  rcases h with ⟨rfl,_⟩ | ⟨rfl,_⟩ | ⟨i,hi,rfl⟩ | h
  ·exact m.mc.oU _
  ·exact m.mc.oB _
  ·exact m.mc.oI i hi _
  ·exact m.tO h
 next h _ hp hk:=by
  rw [Tryz.iv224_Next]
  exact Ds m h (by rw [cX] at hp; exact hp) hk
 prev h hp hk:=by
  rw [Tryz.iv224_Prev]
  exact Dt m h hp hk
 first h _ hk:=by
  obtain ⟨u,pos,vk,vb,vs,lk,xb,sc,_⟩:=h
  rw [Tryz.iv224_First]
  exact Bi m sc hk
 last _ h _:=h.elim
 seekGE _ h _ _ _:=h.elim
 seekLT _ h _ _ _:=h.elim
 error h hk:=by
  rw [Tryz.iv224_Error]
  exact xu m h hk
end
end Go.Proofs
end
section
namespace Go.E
open Go Go.Sort Go.Proofs
def aB (G:List Sp):Option Bytes→Nat
 | none=>0
 | some l=>gy G l
def eB (G:List Sp):Option Bytes→Nat
 | none=>G.length
 | some h=>qa (fun j=>decide (G[j]!.s < h)) G.length
def GB (G:List Sp) (lo hi:Option Bytes):List Sp:=(G.take (eB G hi)).drop (aB G lo)
def xw (lo hi:Option Bytes):Prop:=∀ l h,lo=some l→hi=some h→¬ h < l
def Iy (lo hi:Option Bytes) (key:Bytes):Prop:=(∀ l,lo=some l→¬ key < l)∧∀ h,hi=some h→¬ h < key
section
variable {G:List Sp} {lo hi:Option Bytes} {key:Bytes}
theorem pE (hw:Wf G) {l:Bytes} {j:Nat} (hj:j < G.length):j < gy G l↔¬ l < G[j]!.e:=by
 unfold gy
 rw [nq (fun a b h1 h2 h3 => ?_) hj,decide_eq_true_eq]
 rw [decide_eq_true_eq] at h3 ⊢
 intro h4
 exact h3 (cJ h4 (List.not_lt.2 (hw.ends h1 h2)))
theorem Ah (hw:Wf G) {h:Bytes} {j:Nat} (hj:j < G.length):j < qa (fun j=>decide (G[j]!.s < h)) G.length↔G[j]!.s < h:=by
 rw [nq (fun a b h1 h2 h3 => ?_) hj,decide_eq_true_eq]
 rw [decide_eq_true_eq] at h3 ⊢
 exact ct (List.not_lt.2 (hw.starts h1 h2)) h3
theorem Dv:aB G lo≤G.length:=by
 cases lo with
 | none=>exact aQ _
 | some l=>exact kg _ _
theorem kG:eB G hi≤G.length:=by
 cases hi with
 | none=>exact aD _
 | some l=>exact kg _ _
theorem qi (hw:Wf G) {j:Nat} (hj:j < G.length):aB G lo≤j↔∀ l,lo=some l→l < G[j]!.e:=by
 cases lo with
 | none=>simp [aB]
 | some l =>
  have:=pE hw (l:=l) hj
  simp only [aB,aK,forall_eq']
  rw [← Nat.not_lt,this,Classical.not_not]
theorem qj (hw:Wf G) {j:Nat} (hj:j < G.length):j < eB G hi↔∀ h,hi=some h→G[j]!.s < h:=by
 cases hi with
 | none=>simp [eB,hj]
 | some h =>
  have:=Ah hw (h:=h) hj
  simp only [eB,aK,forall_eq']
  exact this
theorem jW (hw:Wf G) (hb:xw lo hi):aB G lo≤eB G hi:=by
 rcases aH (eB G hi) (aB G lo) with h1 | h1
 ·exfalso
  have hj:eB G hi < G.length:=aI h1 Dv
  have a:=(not_congr (qi hw (lo:=lo) hj)).1 (by omega)
  have b:=(not_congr (qj hw (hi:=hi) hj)).1 (by omega)
  cases lo with
  | none=>exact a (fun l h=>by cases h)
  | some l =>
   cases hi with
   | none=>exact b (fun l h=>by cases h)
   | some h =>
    have a':¬ l < G[eB G (some h)]!.e:=fun hh=>a (fun _ e=>by cases e; exact hh)
    have b':¬ G[eB G (some h)]!.s < h:=fun hh=>b (fun _ e=>by cases e; exact hh)
    have c:=hw.1 _ hj
    have d:=hb l h rfl rfl
    have e:h < G[eB G (some h)]!.e:=ct b' c
    exact a' (ct d e)
 ·exact h1
theorem dH:(GB G lo hi).length=eB G hi - aB G lo:=by
 unfold GB
 rw [List.length_drop,ar,Nat.min_eq_left kG]
theorem pG {j:Nat} (hj:j < (GB G lo hi).length):(GB G lo hi)[j]! = G[aB G lo+j]! := by
 have hl:=hj
 rw [dH] at hl
 have:=kG (G:=G) (hi:=hi)
 have e:(GB G lo hi)[j]? = G[aB G lo+j]? := by
  unfold GB
  rw [List.getElem?_drop,List.getElem?_take_of_lt (by omega)]
 rw [getElem!_def,getElem!_def,e]
theorem Iz (hw:Wf G):Wf (GB G lo hi):=by
 have e:=kG (G:=G) (hi:=hi)
 refine ⟨fun i hi' => ?_,fun i j hij hj => ?_⟩
 ·rw [pG hi']
  rw [dH] at hi'
  exact hw.1 _ (by omega)
 ·rw [pG (by omega),pG hj]
  rw [dH] at hj
  exact hw.2 _ _ (by omega) (by omega)
theorem Jl (hw:Wf G) (hb:xw lo hi) (hk:Iy lo hi key):aB G lo≤gy G key∧gy G key≤eB G hi∧gy (GB G lo hi) key=gy G key - aB G lo:=by
 have hab:=jW hw hb
 have hel:=kG (G:=G) (hi:=hi)
 have hs:gy G key≤G.length:=kg _ _
 have h1:aB G lo≤gy G key:=by
  rcases aH (gy G key) (aB G lo) with h | h
  ·exfalso
   have hj:gy G key < G.length:=by have:=Dv (G:=G) (lo:=lo); omega
   have a:=(not_congr (qi hw (lo:=lo) hj)).1 (by omega)
   have b:=Classical.not_not.1 ((not_congr (pE hw (l:=key) hj)).1 (dE _))
   refine a fun l e => ?_
   exact ct (hk.1 l e) b
  ·exact h
 have h2:gy G key≤eB G hi:=by
  rcases aH (eB G hi) (gy G key) with h | h
  ·exfalso
   have hj:eB G hi < G.length:=by omega
   have a:=(not_congr (qj hw (hi:=hi) hj)).1 (dE _)
   have b:=(pE hw (l:=key) hj).1 h
   refine a fun h' e => ?_
   have c:=hw.1 _ hj
   have d:=hk.2 h' e
   exact cJ (cJ c b) d
  ·exact h
 refine ⟨h1,h2,vm (by rw [dH]; omega) (fun i hi' => ?_) (fun h => ?_)⟩
 ·rw [pG (by rw [dH]; omega)]
  exact (pE hw (by omega)).1 (by omega)
 ·rw [pG h,show aB G lo+(gy G key - aB G lo)=gy G key by omega]
  rw [dH] at h
  exact Classical.not_not.1 ((not_congr (pE hw (l:=key) (by omega))).1 (dE _))
theorem Jm (hw:Wf G) (hb:xw lo hi) (hk:Iy lo hi key):(aB G lo:Int)≤jT G key+1∧jT G key+1≤eB G hi∧jT (GB G lo hi) key=jT G key - aB G lo:=by
 have hab:=jW hw hb
 have hel:=kG (G:=G) (hi:=hi)
 obtain ⟨n,hn⟩:∃ n,n=qa (fun j=>decide (G[j]!.s < key)) G.length:=⟨_,rfl⟩
 have hs:n≤G.length:=by rw [hn]; exact kg _ _
 have e:jT G key=(n:Int) - 1:=by unfold jT; rw [hn]
 have hlt:∀ j,j < G.length→(j < n↔G[j]!.s < key):=fun j hj=>by rw [hn]; exact Ah hw hj
 have h1:aB G lo≤n:=by
  rcases aH n (aB G lo) with h | h
  ·exfalso
   have hj:n < G.length:=by have:=Dv (G:=G) (lo:=lo); omega
   have a:=(not_congr (qi hw (lo:=lo) hj)).1 (by omega)
   have b:=(not_congr (hlt n hj)).1 (dE _)
   refine a fun l e => ?_
   have c:=hw.1 _ hj
   have d:=hk.1 l e
   exact ct d (ct b c)
  ·exact h
 have h2:n≤eB G hi:=by
  rcases aH (eB G hi) n with h | h
  ·exfalso
   have hj:eB G hi < G.length:=by omega
   have a:=(not_congr (qj hw (hi:=hi) hj)).1 (dE _)
   have b:=(hlt _ hj).1 h
   refine a fun h' e => ?_
   exact cJ b (hk.2 h' e)
  ·exact h
 refine ⟨by omega,by omega,?_⟩
 rw [vq (j:=n - aB G lo) (by rw [dH]; omega) (fun i hi' => ?_) (fun h => ?_),e]
 ·omega
 ·rw [pG (by rw [dH]; omega)]
  exact (hlt _ (by omega)).1 (by omega)
 ·rw [pG h,show aB G lo+(n - aB G lo)=n by omega]
  rw [dH] at h
  exact (not_congr (hlt n (by omega))).1 (dE _)
end
end Go.E
end
section
namespace Go.E
open Go Go.Sort Go.Proofs Go.Proofs.Tryz
def OB (d:World) (v:Value) (b:Option Bytes):Prop:=(b=none∧v = .slice none 0 0)∨∃ l a n c,b=some l∧v = .slice (some a) n c∧fV d v l
structure BS (d w:World) (U:Nat) (rt:TypeId) (rv lov hiv:Value) (lo hi:Option Bytes) (is:Option Addr) (ps:Int):Prop where
 c0:w.cell? ⟨U,72,none⟩=some (.iface rt rv)
 c1:w.cell? ⟨U,73,none⟩=some (.pointer is)
 c2:w.cell? ⟨U,74,none⟩=some (.func (.func 102) #[] #[])
 c4:w.cell? ⟨U,76,none⟩=some lov
 c5:w.cell? ⟨U,77,none⟩=some hiv
 c6:w.cell? ⟨U,78,none⟩=some (.pointer none)
 c8:w.cell? ⟨U,80,none⟩=some (.int .i8 ps)
 fU:∀ x,w.frozen? ⟨U,x,none⟩=false
 lo:OB d lov lo
 hi:OB d hiv hi
def bM (U:Nat):Nat→Nat→Prop:=fun b x=>b=U∧72≤x∧x≤80
section
variable {d w w2:World} {U:Nat} {rt:TypeId} {rv lov hiv:Value} {lo hi:Option Bytes} {is:Option Addr} {ps:Int}
theorem BS.keep {M:Nat→Nat→Prop} (h:BS d w U rt rv lov hiv lo hi is ps) (hk:Keep M w w2) (hm:∀ x,72≤x→x≤80→U < w.heap.size→¬ M U x):BS d w2 U rt rv lov hiv lo hi is ps:=by
 have hU:=aE h.c0
 exact ⟨hk.some h.c0 (hm _ (by omega) (by omega) hU),hk.some h.c1 (hm _ (by omega) (by omega) hU),hk.some h.c2 (hm _ (by omega) (by omega) hU),hk.some h.c4 (hm _ (by omega) (by omega) hU),hk.some h.c5 (hm _ (by omega) (by omega) hU),hk.some h.c6 (hm _ (by omega) (by omega) hU),hk.some h.c8 (hm _ (by omega) (by omega) hU),fun x=>by rw [hk.frozen U x hU]; exact h.fU x,h.lo,h.hi⟩
theorem BS.drew (h:BS d w U rt rv lov hiv lo hi is ps):BS d w.drew U rt rv lov hiv lo hi is ps:=⟨h.c0,h.c1,h.c2,h.c4,h.c5,h.c6,h.c8,h.fU,h.lo,h.hi⟩
end
end Go.E
namespace Go.Proofs
open Go Go.E Go.Sort Go.Proofs.Tryz
section
variable {k:aq} {d w:World} {U pb po:Nat} {rt:TypeId} {rv lov hiv:Value} {lo hi:Option Bytes} {is:Option Addr} {ps:Int} {G:List Sp} {pF pL:Prop} {pK:Bytes→Prop} {T:Nat→Nat→Prop} {R:World→(Nat→Prop)→Int→Prop} {S:Nat→Prop} {q:Int} {ord:Int}
theorem jH {a:Option Addr} (b:BS d w U rt rv lov hiv lo hi is ps) (hk:k (.pointer a) w):aX prog 236 #[.pointer (some ⟨U,72,none⟩),.pointer a] k w:=by
 have c6:=b.c6
 refine ai [.tmp 4] func236 ?_
 cases a with
 | none =>
  simp (disch:=first | exact dZ | fail) only [go_sem,Option.isSome_none]
  exact hk
 | some a =>
  simp (disch:=first | exact dZ | fail) only [go_sem,c6,Option.isSome_some,Option.isSome_none]
  exact hk
theorem nu {a:Option Addr} (b:BS d w U rt rv lov hiv lo hi is ps) (hk:k (.pointer a) w.drew):aX prog 238 #[.pointer (some ⟨U,72,none⟩),.pointer a] k w:=by
 have c6:=b.c6
 refine ai [.tmp 4] func238 ?_
 cases a with
 | none =>
  refine al ?_
  refine ay (sq [0,1,2,3,4,5] (.read 6 (sq [7,8,9,10,11,12] (.read 13 (sq [14] (.read 15 (sq [16,17,18,19,20] (.read 21 (sq [22,23,24] (.read 25 (sq [26,27,28] (.read 29 (sq [30] (.read 31 (.eff 32 [] (sq [33,34] .done)))))))))))))))) ?_
  simp (disch:=first | exact dZ | fail) only [go_sem,Option.isSome_none]
  exact hk
 | some a =>
  refine al ?_
  refine ay (sq [0,1,2,3,4,5] (.read 6 (sq [7,8,9,10,11,12] (.read 13 (sq [14] (.read 15 (sq [16,17,18,19,20] (.read 21 (sq [22,23,24] (.read 25 (sq [26,27,28] (.read 29 (sq [30] (.read 31 (.eff 32 [] (sq [33,34] .done)))))))))))))))) ?_
  simp (disch:=first | exact dZ | fail) only [go_sem,c6,Option.isSome_some,Option.isSome_none]
  exact hk
structure BC (d:World) (U pb po:Nat) (rt:TypeId) (rv:Value) (lo hi:Option Bytes) (G:List Sp) (pF pL:Prop) (pK:Bytes→Prop) (T:Nat→Nat→Prop) (R:World→(Nat→Prop)→Int→Prop) (ord:Int):Prop where
 f:FJ prog (.iface rt rv) d pb po ord G pF pL pK T R
 t:∀ x,72≤x→x≤80→¬ T U x
 s:∀ {w S p},R w S p→¬ S U
 o:cq d U
 b:xw lo hi
theorem BC.keep {w w2:World} {p:Int} (bc:BC d U pb po rt rv lo hi G pF pL pK T R ord) (h:R w S p) (hk:Keep (bM U) w w2):R w2 S p :=
 bc.f.keep h hk fun b x _ hm=>by
  obtain ⟨rfl,h1,h2⟩:=hm
  exact ⟨bc.t x h1 h2,bc.s h,bc.o x⟩
theorem rO (bc:BC d U pb po rt rv lo hi G pF pL pK T R ord) (h:R w S q) (b:BS d w U rt rv lov hiv lo hi is ps)
    (hk:∀ w' r,R w' S q→BS d w' U rt rv lov hiv lo hi r 0→Keep (bM U) w w'→r=(if 0≤q∧q < eB G hi then some ⟨pb,po,none⟩ else none)→k (.pointer r) w') :
    aX prog 237 #[.pointer (some ⟨U,72,none⟩),iP pb po G q] k w:=by
 have c1:=b.c1
 have c2:=b.c2
 have cb:=b.c5
 have c8:=b.c8
 have fU:=b.fU
 have hU:=aE c1
 have fin:∀ (r:Option Addr) (w':World),(w'=((w.setCell ⟨U,73,none⟩ (.pointer r)).setCell ⟨U,80,none⟩ (.int .i8 0)).drew∨(ps=0∧w'=(w.setCell ⟨U,73,none⟩ (.pointer r)).drew))→r=(if 0≤q∧q < eB G hi then some ⟨pb,po,none⟩ else none)→k (.pointer r) w':=by
  intro r w' hw' hr
  have kk:Keep (bM U) w w':=by
   rcases hw' with rfl | ⟨_,rfl⟩
   ·exact (((Keep.refl _ w).set (fun _=>⟨rfl,by omega,by omega⟩)).set (fun _=>⟨rfl,by omega,by omega⟩)).drew
   ·exact ((Keep.refl _ w).set (fun _=>⟨rfl,by omega,by omega⟩)).drew
  refine hk w' r (bc.keep h kk) ?_ kk hr
  have o:∀ {y v},y≠73→y≠80→w.cell? ⟨U,y,none⟩=some v→w'.cell? ⟨U,y,none⟩=some v:=by
   intro y v h1 h2 hv
   rcases hw' with rfl | ⟨_,rfl⟩
   ·exact bb @hv
   ·exact bb @hv
  refine ⟨o (by omega) (by omega) b.c0,?_,o (by omega) (by omega) b.c2,o (by omega) (by omega) b.c4,o (by omega) (by omega) b.c5,o (by omega) (by omega) b.c6,?_,fun x=>by rw [kk.frozen U x hU]; exact b.fU x,b.lo,b.hi⟩
  ·rcases hw' with rfl | ⟨_,rfl⟩
   ·exact bb @c1
   ·exact bb @c1
  ·rcases hw' with rfl | ⟨h0,rfl⟩
   ·exact bb @c8
   ·rw [h0] at c8
    exact bb @c8
 refine ai [.tmp 4] func237 ?_
 by_cases hq:0≤q∧q < G.length
 ·rw [gf hq.1 hq.2]
  obtain ⟨j,rfl⟩:∃ j:Nat,q=j:=⟨q.toNat,by omega⟩
  have hj:j < G.length:=by omega
  obtain ⟨⟨sv,s1,s2⟩,⟨ev,e1,e2⟩,_,_⟩:=(bc.f.cur h rfl hj).o (bc.f.inc h)
  obtain ⟨sa,sc,rfl⟩:=bI s2
  obtain ⟨ea,ec,rfl⟩:=bI e2
  have hinc:=bc.f.inc h
  rcases b.hi with ⟨hn,hv⟩ | ⟨l,la,ln,lc,hn,hv,hl⟩
  ·rw [hv] at cb
   have hr:(some ⟨pb,po,none⟩:Option Addr)=(if (0:Int)≤j∧(j:Int) < eB G hi then some ⟨pb,po,none⟩ else none):=by rw [if_pos]; exact ⟨by have:=hj; omega,by have:=(qj bc.f.wf (hi:=hi) hj).2 (fun h' e=>by rw [hn] at e; cases e); omega⟩
   refine al ?_
   refine ay (sq [0,1,2,3,4,5] (.read 6 (sq [7,8,9,10,11,12] (.read 13 (sq [14,15,16] (.read 17 (sq [18,19,20] (.read 21 (.eff 22 [] (sq [23,24] .done)))))))))) ?_
   by_cases h0:ps=0
   ·have h0':(ps != 0)=false:=by rw [h0]; rfl
    simp (disch:=first | exact dZ | fail) only [go_sem,cb,c1,c8,fU,h0',Option.isSome_some,Option.isSome_none]
    exact fin _ _ (.inr ⟨h0,rfl⟩) hr
   ·have h0':(ps != 0)=true:=by rw [bne_iff_ne]; exact h0
    simp (disch:=first | exact dZ | fail) only [go_sem,cb,c1,c8,fU,h0',Option.isSome_some,Option.isSome_none]
    exact fin _ _ (.inl rfl) hr
  ·rw [hv] at cb hl
   refine al ?_
   refine ay (sq [0,1,2,3,4,5] (.read 6 (sq [7,8,9,10,11,12] (.read 13 (sq [14,15,16] (.read 17 (sq [18,19,20] (.read 21 (.eff 22 [] (sq [23,24] .done)))))))))) ?_
   simp (disch:=first | exact dZ | fail) only [go_sem,cb,c1,c2,s1,e1,Option.isSome_some]
   refine fG (l1:=G[j]!.s) (by exact s2) (by exact hl.inc hinc) ?_
   by_cases hle:l≤G[j]!.s
   ·have hle':(0:Int)≤eY G[j]!.s l:=jB.2 hle
    have hr:(none:Option Addr)=(if (0:Int)≤j∧(j:Int) < eB G hi then some ⟨pb,po,none⟩ else none):=by rw [if_neg]; intro hh; exact absurd ((qj bc.f.wf (hi:=hi) hj).1 (by omega) l hn) (List.not_lt.2 hle)
    by_cases h0:ps=0
    ·have h0':(ps != 0)=false:=by rw [h0]; rfl
     refine xT @cb @c1 @c2 @s1 @e1 @c8 @fU @hle' @h0' ?_
     exact fin _ _ (.inr ⟨h0,rfl⟩) hr
    ·have h0':(ps != 0)=true:=by rw [bne_iff_ne]; exact h0
     refine xT @cb @c1 @c2 @s1 @e1 @c8 @fU @hle' @h0' ?_
     exact fin _ _ (.inl rfl) hr
   ·have hle':¬ (0:Int)≤eY G[j]!.s l:=fun h=>hle (jB.1 h)
    have hr:(some ⟨pb,po,none⟩:Option Addr)=(if (0:Int)≤j∧(j:Int) < eB G hi then some ⟨pb,po,none⟩ else none):=by rw [if_pos]; exact ⟨by omega,by have:=(qj bc.f.wf (hi:=hi) hj).2 (fun h' e=>by rw [hn] at e; cases e; exact List.not_le.1 hle); omega⟩
    by_cases h0:ps=0
    ·have h0':(ps != 0)=false:=by rw [h0]; rfl
     refine xT @cb @c1 @c2 @s1 @e1 @c8 @fU @hle' @h0' ?_
     exact fin _ _ (.inr ⟨h0,rfl⟩) hr
    ·have h0':(ps != 0)=true:=by rw [bne_iff_ne]; exact h0
     refine xT @cb @c1 @c2 @s1 @e1 @c8 @fU @hle' @h0' ?_
     exact fin _ _ (.inl rfl) hr
 ·rw [fY hq]
  have hr:(none:Option Addr)=(if 0≤q∧q < eB G hi then some ⟨pb,po,none⟩ else none):=by rw [if_neg]; intro hh; exact hq (⟨hh.1,by have:=kG (G:=G) (hi:=hi); omega⟩)
  refine al ?_
  refine ay (sq [0,1,2,3,4,5] (.read 6 (sq [7,8,9,10,11,12] (.read 13 (sq [14,15,16] (.read 17 (sq [18,19,20] (.read 21 (.eff 22 [] (sq [23,24] .done)))))))))) ?_
  by_cases h0:ps=0
  ·have h0':(ps != 0)=false:=by rw [h0]; rfl
   simp (disch:=first | exact dZ | fail) only [go_sem,c1,c8,fU,h0',Option.isSome_some,Option.isSome_none]
   exact fin _ _ (.inr ⟨h0,rfl⟩) hr
  ·have h0':(ps != 0)=true:=by rw [bne_iff_ne]; exact h0
   simp (disch:=first | exact dZ | fail) only [go_sem,c1,c8,fU,h0',Option.isSome_some,Option.isSome_none]
   exact fin _ _ (.inl rfl) hr
theorem vy (bc:BC d U pb po rt rv lo hi G pF pL pK T R ord) (h:R w S q) (b:BS d w U rt rv lov hiv lo hi is ps)
    (hk:∀ w' r,R w' S q→BS d w' U rt rv lov hiv lo hi r 0→Keep (bM U) w w'→r=(if (aB G lo:Int)≤q∧q < G.length then some ⟨pb,po,none⟩ else none)→k (.pointer r) w') :
    aX prog 239 #[.pointer (some ⟨U,72,none⟩),iP pb po G q] k w:=by
 have c1:=b.c1
 have c2:=b.c2
 have cb:=b.c4
 have c8:=b.c8
 have fU:=b.fU
 have hU:=aE c1
 have fin:∀ (r:Option Addr) (w':World),(w'=((w.setCell ⟨U,73,none⟩ (.pointer r)).setCell ⟨U,80,none⟩ (.int .i8 0)).drew∨(ps=0∧w'=(w.setCell ⟨U,73,none⟩ (.pointer r)).drew))→r=(if (aB G lo:Int)≤q∧q < G.length then some ⟨pb,po,none⟩ else none)→k (.pointer r) w':=by
  intro r w' hw' hr
  have kk:Keep (bM U) w w':=by
   rcases hw' with rfl | ⟨_,rfl⟩
   ·exact (((Keep.refl _ w).set (fun _=>⟨rfl,by omega,by omega⟩)).set (fun _=>⟨rfl,by omega,by omega⟩)).drew
   ·exact ((Keep.refl _ w).set (fun _=>⟨rfl,by omega,by omega⟩)).drew
  refine hk w' r (bc.keep h kk) ?_ kk hr
  have o:∀ {y v},y≠73→y≠80→w.cell? ⟨U,y,none⟩=some v→w'.cell? ⟨U,y,none⟩=some v:=by
   intro y v h1 h2 hv
   rcases hw' with rfl | ⟨_,rfl⟩
   ·exact bb @hv
   ·exact bb @hv
  refine ⟨o (by omega) (by omega) b.c0,?_,o (by omega) (by omega) b.c2,o (by omega) (by omega) b.c4,o (by omega) (by omega) b.c5,o (by omega) (by omega) b.c6,?_,fun x=>by rw [kk.frozen U x hU]; exact b.fU x,b.lo,b.hi⟩
  ·rcases hw' with rfl | ⟨_,rfl⟩
   ·exact bb @c1
   ·exact bb @c1
  ·rcases hw' with rfl | ⟨h0,rfl⟩
   ·exact bb @c8
   ·rw [h0] at c8
    exact bb @c8
 refine ai [.tmp 4] func239 ?_
 by_cases hq:0≤q∧q < G.length
 ·rw [gf hq.1 hq.2]
  obtain ⟨j,rfl⟩:∃ j:Nat,q=j:=⟨q.toNat,by omega⟩
  have hj:j < G.length:=by omega
  obtain ⟨⟨sv,s1,s2⟩,⟨ev,e1,e2⟩,_,_⟩:=(bc.f.cur h rfl hj).o (bc.f.inc h)
  obtain ⟨sa,sc,rfl⟩:=bI s2
  obtain ⟨ea,ec,rfl⟩:=bI e2
  have hinc:=bc.f.inc h
  rcases b.lo with ⟨hn,hv⟩ | ⟨l,la,ln,lc,hn,hv,hl⟩
  ·rw [hv] at cb
   have hr:(some ⟨pb,po,none⟩:Option Addr)=(if (aB G lo:Int)≤j∧(j:Int) < G.length then some ⟨pb,po,none⟩ else none):=by rw [if_pos]; exact ⟨by have:=(qi bc.f.wf (lo:=lo) hj).2 (fun h' e=>by rw [hn] at e; cases e); omega,hq.2⟩
   refine al ?_
   refine ay (sq [0,1,2,3,4,5] (.read 6 (sq [7,8,9,10,11,12] (.read 13 (sq [14,15,16] (.read 17 (sq [18,19,20] (.read 21 (.eff 22 [] (sq [23,24] .done)))))))))) ?_
   by_cases h0:ps=0
   ·have h0':(ps != 0)=false:=by rw [h0]; rfl
    simp (disch:=first | exact dZ | fail) only [go_sem,cb,c1,c8,fU,h0',Option.isSome_some,Option.isSome_none]
    exact fin _ _ (.inr ⟨h0,rfl⟩) hr
   ·have h0':(ps != 0)=true:=by rw [bne_iff_ne]; exact h0
    simp (disch:=first | exact dZ | fail) only [go_sem,cb,c1,c8,fU,h0',Option.isSome_some,Option.isSome_none]
    exact fin _ _ (.inl rfl) hr
  ·rw [hv] at cb hl
   refine al ?_
   refine ay (sq [0,1,2,3,4,5] (.read 6 (sq [7,8,9,10,11,12] (.read 13 (sq [14,15,16] (.read 17 (sq [18,19,20] (.read 21 (.eff 22 [] (sq [23,24] .done)))))))))) ?_
   simp (disch:=first | exact dZ | fail) only [go_sem,cb,c1,c2,s1,e1,Option.isSome_some]
   refine fG (l1:=G[j]!.e) (by exact e2) (by exact hl.inc hinc) ?_
   by_cases hle:G[j]!.e≤l
   ·have hle':eY G[j]!.e l≤0:=jA.2 hle
    have hr:(none:Option Addr)=(if (aB G lo:Int)≤j∧(j:Int) < G.length then some ⟨pb,po,none⟩ else none):=by rw [if_neg]; intro hh; exact absurd ((qi bc.f.wf (lo:=lo) hj).1 (by omega) l hn) (List.not_lt.2 hle)
    by_cases h0:ps=0
    ·have h0':(ps != 0)=false:=by rw [h0]; rfl
     refine xT @cb @c1 @c2 @s1 @e1 @c8 @fU @hle' @h0' ?_
     exact fin _ _ (.inr ⟨h0,rfl⟩) hr
    ·have h0':(ps != 0)=true:=by rw [bne_iff_ne]; exact h0
     refine xT @cb @c1 @c2 @s1 @e1 @c8 @fU @hle' @h0' ?_
     exact fin _ _ (.inl rfl) hr
   ·have hle':¬ eY G[j]!.e l≤0:=fun h=>hle (jA.1 h)
    have hr:(some ⟨pb,po,none⟩:Option Addr)=(if (aB G lo:Int)≤j∧(j:Int) < G.length then some ⟨pb,po,none⟩ else none):=by rw [if_pos]; exact ⟨by have:=(qi bc.f.wf (lo:=lo) hj).2 (fun h' e=>by rw [hn] at e; cases e; exact List.not_le.1 hle); omega,hq.2⟩
    by_cases h0:ps=0
    ·have h0':(ps != 0)=false:=by rw [h0]; rfl
     refine xT @cb @c1 @c2 @s1 @e1 @c8 @fU @hle' @h0' ?_
     exact fin _ _ (.inr ⟨h0,rfl⟩) hr
    ·have h0':(ps != 0)=true:=by rw [bne_iff_ne]; exact h0
     refine xT @cb @c1 @c2 @s1 @e1 @c8 @fU @hle' @h0' ?_
     exact fin _ _ (.inl rfl) hr
 ·rw [fY hq]
  have hr:(none:Option Addr)=(if (aB G lo:Int)≤q∧q < G.length then some ⟨pb,po,none⟩ else none):=by rw [if_neg]; intro hh; exact hq (⟨by omega,hh.2⟩)
  refine al ?_
  refine ay (sq [0,1,2,3,4,5] (.read 6 (sq [7,8,9,10,11,12] (.read 13 (sq [14,15,16] (.read 17 (sq [18,19,20] (.read 21 (.eff 22 [] (sq [23,24] .done)))))))))) ?_
  by_cases h0:ps=0
  ·have h0':(ps != 0)=false:=by rw [h0]; rfl
   simp (disch:=first | exact dZ | fail) only [go_sem,c1,c8,fU,h0',Option.isSome_some,Option.isSome_none]
   exact fin _ _ (.inr ⟨h0,rfl⟩) hr
  ·have h0':(ps != 0)=true:=by rw [bne_iff_ne]; exact h0
   simp (disch:=first | exact dZ | fail) only [go_sem,c1,c8,fU,h0',Option.isSome_some,Option.isSome_none]
   exact fin _ _ (.inl rfl) hr
end
end Go.Proofs
end
section
namespace Go.E
open Go Go.Sort Go.Proofs
def Bd (d:World) (U pb po:Nat) (rt:TypeId) (rv lov hiv:Value) (lo hi:Option Bytes) (G:List Sp) (R:World→(Nat→Prop)→Int→Prop) (w:World) (S:Nat→Prop) (p:Int):Prop :=
 ∃ q is ps,R w S q∧BS d w U rt rv lov hiv lo hi is ps ∧
  (p = -2 ∨
   0≤p∧p < (GB G lo hi).length∧ps=0∧is=some ⟨pb,po,none⟩∧q=aB G lo+p ∨
   p=(GB G lo hi).length∧ps=0∧is=none∧q=aB G lo+p ∨
   p = -1∧ps=0∧is=none∧q=(aB G lo:Int) - 1 ∨
   p=(GB G lo hi).length∧ps=1∧is=some ⟨pb,po,none⟩∧q=aB G lo+p - 1∧0 < p ∨
   p = -1∧ps = -1∧is=some ⟨pb,po,none⟩∧q=aB G lo∧0 < (GB G lo hi).length)
def bT (U:Nat) (T:Nat→Nat→Prop):Nat→Nat→Prop:=fun b x=>T b x∨bM U b x
theorem dR (pb po:Nat) (G:List Sp) (q:Int):iP pb po G q = .pointer (if 0≤q∧q < G.length then some ⟨pb,po,none⟩ else none):=by
 unfold iP
 split <;> rfl
section
variable {d w:World} {U pb po:Nat} {rt:TypeId} {rv lov hiv:Value} {lo hi:Option Bytes} {G:List Sp} {pF pL:Prop} {pK:Bytes→Prop} {T:Nat→Nat→Prop} {R:World→(Nat→Prop)→Int→Prop} {S:Nat→Prop} {q:Int} {ord:Int} {r:Option Addr}
theorem Bd.fwd (bc:BC d U pb po rt rv lo hi G pF pL pK T R ord) (h:R w S q) (b:BS d w U rt rv lov hiv lo hi r 0) (hr:r=(if 0≤q∧q < eB G hi then some ⟨pb,po,none⟩ else none)) (h1:aB G lo≤q) (h2:q≤eB G hi) :
    Bd d U pb po rt rv lov hiv lo hi G R w S (q - aB G lo)∧iP pb po (GB G lo hi) (q - aB G lo) = .pointer r:=by
 have hab:=jW bc.f.wf bc.b
 have hl:=dH (G:=G) (lo:=lo) (hi:=hi)
 by_cases hq:q < eB G hi
 ·rw [if_pos ⟨by omega,hq⟩] at hr
  exact ⟨⟨q,r,0,h,b,.inr (.inl ⟨by omega,by omega,rfl,hr,by omega⟩)⟩,by rw [hr,gf (by omega) (by omega)]⟩
 ·rw [if_neg fun hh=>hq hh.2] at hr
  exact ⟨⟨q,r,0,h,b,.inr (.inr (.inl ⟨by omega,rfl,hr,by omega⟩))⟩,by rw [hr,fY (by omega)]⟩
theorem Bd.bwd (bc:BC d U pb po rt rv lo hi G pF pL pK T R ord) (h:R w S q) (b:BS d w U rt rv lov hiv lo hi r 0) (hr:r=(if (aB G lo:Int)≤q∧q < G.length then some ⟨pb,po,none⟩ else none)) (h1:(aB G lo:Int)≤q+1) (h2:q < eB G hi) :
    Bd d U pb po rt rv lov hiv lo hi G R w S (q - aB G lo)∧iP pb po (GB G lo hi) (q - aB G lo) = .pointer r:=by
 have hab:=jW bc.f.wf bc.b
 have he:=kG (G:=G) (hi:=hi)
 have hl:=dH (G:=G) (lo:=lo) (hi:=hi)
 by_cases hq:(aB G lo:Int)≤q
 ·rw [if_pos ⟨hq,by omega⟩] at hr
  exact ⟨⟨q,r,0,h,b,.inr (.inl ⟨by omega,by omega,rfl,hr,by omega⟩)⟩,by rw [hr,gf (by omega) (by omega)]⟩
 ·rw [if_neg fun hh=>hq hh.1] at hr
  exact ⟨⟨q,r,0,h,b,.inr (.inr (.inr (.inl ⟨by omega,rfl,hr,by omega⟩)))⟩,by rw [hr,fY (by omega)]⟩
theorem Bd.rg {p:Int} (h:Bd d U pb po rt rv lov hiv lo hi G R w S p) : -2≤p∧p≤(GB G lo hi).length:=by
 obtain ⟨q,is,ps,_,_,h | h | h | h | h | h⟩:=h <;> omega
end
end Go.E
namespace Go.Proofs
open Go Go.E Go.Sort
section
variable {k:aq} {d w:World} {U pb po:Nat} {rt:TypeId} {rv lov hiv:Value} {lo hi:Option Bytes} {is:Option Addr} {ps:Int} {G:List Sp} {pF pL:Prop} {pK:Bytes→Prop} {T:Nat→Nat→Prop} {R:World→(Nat→Prop)→Int→Prop} {S:Nat→Prop} {p q:Int} {ord:Int}
theorem BC.drew (bc:BC d U pb po rt rv lo hi G pF pL pK T R ord) (h:R w S q):R w.drew S q:=bc.f.keep h (M:=fun _ _=>False) (Keep.refl _ w).drew (fun _ _ _ h=>h.elim)
theorem zU  (bc:BC d U pb po rt rv lo hi G pF pL pK T R ord) (h:Bd d U pb po rt rv lov hiv lo hi G R w S p) (h1:pF∧lo=none)
    (hk:FK (.pointer none) pb po (GB G lo hi) (bT U T) (Bd d U pb po rt rv lov hiv lo hi G R) w S (0) k):aX Tryz.prog 230 #[.pointer (some ⟨U,72,none⟩)] k w:=by
 obtain ⟨q,is,ps,hR,b,_⟩:=h
 have c0:=b.c0
 have hab:=jW bc.f.wf bc.b
 have hle:=kG (G:=G) (hi:=hi)
 have hl:=dH (G:=G) (lo:=lo) (hi:=hi)
 skip
 refine ai [.tmp 2] Tryz.func230 ?_
 refine bf @c0 ?_
 refine bc.f.first hR h1.1  fun w2 S2 r1 r2 r3 => ?_
 have b2:=b.keep r3 fun x h1 h2 _ hm=>by
  rcases hm with hm | hm
  ·exact bc.t x h1 h2 hm
  ·exact bc.s hR hm
 have hp:=dR pb po G (0)
 rw [hp]
 refine al ?_
 refine jH b2 ?_
 rw [← hp]
 refine al ?_
 refine rO bc (r1) (b2) fun w3 r r4 b3 k3 hr => ?_
 have k3:Keep (bM U) w2 w3:=by first | exact k3 | exact (Keep.refl _ w2).drew.trans k3
 obtain ⟨e1,e2⟩:=Bd.fwd bc r4 b3 hr (by rw [h1.2]; exact Int.le_refl _) (by omega)
 rw [show 0 - (aB G lo:Int)=0 by rw [h1.2]; rfl] at e1 e2
 refine al ?_
 rw [← e2]
 refine hk w3 S2 e1 r2 ?_
 refine (r3.mono fun b x _ hm => ?_).trans (k3.mono fun b x _ hm => .inl (.inr hm))
 rcases hm with hm | hm
 ·exact .inl (.inl hm)
 ·exact .inr hm
end
end Go.Proofs
end
section
namespace Go.Proofs
open Go Go.E Go.Sort Go.Proofs.Tryz
section
variable {k:aq} {d w:World} {U pb po:Nat} {rt:TypeId} {rv lov hiv:Value} {lo hi:Option Bytes} {is:Option Addr} {ps:Int} {G:List Sp} {pF pL:Prop} {pK:Bytes→Prop} {T:Nat→Nat→Prop} {R:World→(Nat→Prop)→Int→Prop} {S:Nat→Prop} {p q:Int} {ord:Int}
theorem rP (b:BS d w U rt rv lov hiv lo hi is ps) (n:Int):BS d (w.setCell ⟨U,80,none⟩ (.int .i8 n)) U rt rv lov hiv lo hi is n∧Keep (bM U) w (w.setCell ⟨U,80,none⟩ (.int .i8 n)):=by
 have kk:Keep (bM U) w (w.setCell ⟨U,80,none⟩ (.int .i8 n)):=(Keep.refl _ w).set (fun _=>⟨rfl,by omega,by omega⟩)
 have c8:=b.c8
 have o:∀ {y v},y≠80→w.cell? ⟨U,y,none⟩=some v→(w.setCell ⟨U,80,none⟩ (.int .i8 n)).cell? ⟨U,y,none⟩=some v:=by
  intro y v h1 hv
  exact bb @hv
 exact ⟨⟨o (by omega) b.c0,o (by omega) b.c1,o (by omega) b.c2,o (by omega) b.c4,o (by omega) b.c5,o (by omega) b.c6,by rw [cC,c8]; rfl,fun x=>by rw [kk.frozen U x (aE c8)]; exact b.fU x,b.lo,b.hi⟩,kk⟩
set_option maxHeartbeats 1000000 in
theorem Bj (bc:BC d U pb po rt rv lo hi G pF pL pK T R ord) (h:Bd d U pb po rt rv lov hiv lo hi G R w S p) (h1 : -1≤p) (h2:p < (GB G lo hi).length)
    (hk:FK (.pointer none) pb po (GB G lo hi) (bT U T) (Bd d U pb po rt rv lov hiv lo hi G R) w S (p+1) k):aX prog 232 #[.pointer (some ⟨U,72,none⟩)] k w:=by
 obtain ⟨q,is,ps,hR,b,hst⟩:=h
 have c0:=b.c0
 have c1:=b.c1
 have c2:=b.c2
 have c5:=b.c5
 have c6:=b.c6
 have c8:=b.c8
 have fU:=b.fU
 have hab:=jW bc.f.wf bc.b
 have hle:=kG (G:=G) (hi:=hi)
 have hl:=dH (G:=G) (lo:=lo) (hi:=hi)
 have m1:((-1:Int) == -1)=true:=by decide
 have m0:((0:Int) == -1)=false:=by decide
 have m00:((0:Int) == 0)=true:=by decide
 have kw:∀ w':World,Keep (fun b x=>bT U T b x∨S b) w' w':=fun w'=>Keep.refl _ w'
 rcases hst with hst | ⟨a0,a1,rfl,rfl,a4⟩ | ⟨a1,rfl,rfl,a4⟩ | ⟨a1,rfl,rfl,a4⟩ | ⟨a1,rfl,rfl,a4,a5⟩ | ⟨a1,rfl,rfl,a4,a5⟩
 ·omega
 ·
  obtain ⟨j,hj⟩:∃ j:Nat,q=j:=⟨q.toNat,by omega⟩
  have hjl:j < G.length:=by omega
  obtain ⟨_,⟨ev,e1,e2⟩,_,_⟩:=(bc.f.cur hR hj hjl).o (bc.f.inc hR)
  obtain ⟨ea,ec,rfl⟩:=bI e2
  have hinc:=bc.f.inc hR
  refine ai [.tmp 2] func232 ?_
  rcases b.hi with ⟨hn,hv⟩ | ⟨l,la,ln,lc,hn,hv,hlb⟩
  ·rw [hv] at c5
   refine eI @c8 @m0 @m00 ?_
   refine ay (sq [0,1,2] (.read 3 (sq [4,5,6,7,8] (.read 9 (sq [10,11,12,13,14,15] (.read 16 (sq [17,18,19] (.read 20 (sq [21,22] (.read 23 (sq [24,25,26] (.read 27 (.eff 28 [] (sq [29,30] .done)))))))))))))) ?_
   simp (disch:=first | exact dZ | fail) only [go_sem,c1,c5,c6,c0,Option.isSome_some,Option.isSome_none]
   have hR:=bc.drew hR
   have b:=b.drew
   have kw:=(Keep.refl (fun b x=>bT U T b x∨S b) w).drew
   refine bc.f.next hR (by omega) (by omega) fun w2 S2 r1 r2 r3 => ?_
   have b2:=b.keep r3 fun x h1 h2 _ hm=>by
    rcases hm with hm | hm
    ·exact bc.t x h1 h2 hm
    ·exact bc.s hR hm
   have hp:=dR pb po G ((q+1))
   rw [hp]
   refine al ?_
   refine jH b2 ?_
   rw [← hp]
   refine al ?_
   refine rO bc (r1) (b2) fun w3 r r4 b3 k3 hr => ?_
   have k3:Keep (bM U) w2 w3:=by first | exact k3 | exact (Keep.refl _ w2).drew.trans k3
   obtain ⟨e1,e2⟩:=Bd.fwd bc r4 b3 hr (by omega) (by omega)
   rw [show (q+1) - (aB G lo:Int)=p+1 by omega] at e1 e2
   refine al ?_
   rw [← e2]
   refine hk w3 S2 e1 r2 ?_
   refine (kw.trans (r3.mono fun b x _ hm => ?_)).trans (k3.mono fun b x _ hm => .inl (.inr hm))
   rcases hm with hm | hm
   ·exact .inl (.inl hm)
   ·exact .inr hm
  ·rw [hv] at c5 hlb
   refine eI @c8 @m0 @m00 ?_
   refine ay (sq [0,1,2] (.read 3 (sq [4,5,6,7,8] (.read 9 (sq [10,11,12,13,14,15] (.read 16 (sq [17,18,19] (.read 20 (sq [21,22] (.read 23 (sq [24,25,26] (.read 27 (.eff 28 [] (sq [29,30] .done)))))))))))))) ?_
   simp (disch:=first | exact dZ | fail) only [go_sem,c1,c5,c2,e1,Option.isSome_some,Option.isSome_none]
   refine fG (l1:=G[j]!.e) (by exact e2) (by exact hlb.inc hinc) ?_
   by_cases hge:l≤G[j]!.e
   ·have hge':(0:Int)≤eY G[j]!.e l:=jB.2 hge
    refine eI @hge' @c8 @fU ?_
    have hend:eB G hi=j+1:=by
     rcases aH (j+1) (eB G hi) with h | h
     ·exfalso
      have a:=(qj bc.f.wf (hi:=hi) (show j+1 < G.length by omega)).1 h l hn
      have b:=bc.f.wf.2 j (j+1) (by omega) (by omega)
      exact List.not_lt.2 hge (ct (List.not_lt.2 b) a)
     ·omega
    obtain ⟨b2,k2⟩:=rP b 1
    have k2:Keep (bM U) w (w.setCell ⟨U,80,none⟩ (.int .i8 1)).drew:=k2.drew
    have:=hk _ S ⟨q,_,1,bc.keep hR k2,b2.drew,.inr (.inr (.inr (.inr (.inl ⟨by omega,rfl,rfl,by omega,by omega⟩))))⟩ (fun _ h => .inl h) (k2.mono fun b x _ h => .inl (.inr h))
    rwa [fY (by omega)] at this
   ·have hge':¬ (0:Int)≤eY G[j]!.e l:=fun h=>hge (jB.1 h)
    simp (disch:=first | exact dZ | fail) only [go_sem,hge',c1,c6,c0,Option.isSome_some,Option.isSome_none]
    have hR:=bc.drew hR
    have b:=b.drew
    have kw:=(Keep.refl (fun b x=>bT U T b x∨S b) w).drew
    refine bc.f.next hR (by omega) (by omega) fun w2 S2 r1 r2 r3 => ?_
    have b2:=b.keep r3 fun x h1 h2 _ hm=>by
     rcases hm with hm | hm
     ·exact bc.t x h1 h2 hm
     ·exact bc.s hR hm
    have hp:=dR pb po G ((q+1))
    rw [hp]
    refine al ?_
    refine jH b2 ?_
    rw [← hp]
    refine al ?_
    refine rO bc (r1) (b2) fun w3 r r4 b3 k3 hr => ?_
    have k3:Keep (bM U) w2 w3:=by first | exact k3 | exact (Keep.refl _ w2).drew.trans k3
    obtain ⟨e1,e2⟩:=Bd.fwd bc r4 b3 hr (by omega) (by omega)
    rw [show (q+1) - (aB G lo:Int)=p+1 by omega] at e1 e2
    refine al ?_
    rw [← e2]
    refine hk w3 S2 e1 r2 ?_
    refine (kw.trans (r3.mono fun b x _ hm => ?_)).trans (k3.mono fun b x _ hm => .inl (.inr hm))
    rcases hm with hm | hm
    ·exact .inl (.inl hm)
    ·exact .inr hm
 ·omega
 ·
  refine ai [.tmp 2] func232 ?_
  refine eI @c8 @m0 @m00 ?_
  refine ay (sq [0,1,2] (.read 3 (sq [4,5,6,7,8] (.read 9 (sq [10,11,12,13,14,15] (.read 16 (sq [17,18,19] (.read 20 (sq [21,22] (.read 23 (sq [24,25,26] (.read 27 (.eff 28 [] (sq [29,30] .done)))))))))))))) ?_
  simp (disch:=first | exact dZ | fail) only [go_sem,c1,c0,Option.isSome_none]
  have hR:=bc.drew hR
  have b:=b.drew
  have kw:=(Keep.refl (fun b x=>bT U T b x∨S b) w).drew
  refine bc.f.next hR (by omega) (by omega) fun w2 S2 r1 r2 r3 => ?_
  have b2:=b.keep r3 fun x h1 h2 _ hm=>by
   rcases hm with hm | hm
   ·exact bc.t x h1 h2 hm
   ·exact bc.s hR hm
  have hp:=dR pb po G ((q+1))
  rw [hp]
  refine al ?_
  refine jH b2 ?_
  rw [← hp]
  refine al ?_
  refine rO bc (r1) (b2) fun w3 r r4 b3 k3 hr => ?_
  have k3:Keep (bM U) w2 w3:=by first | exact k3 | exact (Keep.refl _ w2).drew.trans k3
  obtain ⟨e1,e2⟩:=Bd.fwd bc r4 b3 hr (by omega) (by omega)
  rw [show (q+1) - (aB G lo:Int)=p+1 by omega] at e1 e2
  refine al ?_
  rw [← e2]
  refine hk w3 S2 e1 r2 ?_
  refine (kw.trans (r3.mono fun b x _ hm => ?_)).trans (k3.mono fun b x _ hm => .inl (.inr hm))
  rcases hm with hm | hm
  ·exact .inl (.inl hm)
  ·exact .inr hm
 ·omega
 ·
  refine ai [.tmp 2] func232 ?_
  refine fW @c8 @c1 @m1 @fU ?_
  obtain ⟨b2,k2⟩:=rP b 0
  have:=hk _ S ⟨q,_,0,bc.keep hR k2,b2,.inr (.inl ⟨by omega,by omega,rfl,rfl,by omega⟩)⟩ (fun _ h => .inl h) (k2.mono fun b x _ h => .inl (.inr h))
  rwa [gf (by omega) (by omega)] at this
set_option maxHeartbeats 1000000 in
theorem Bk (bc:BC d U pb po rt rv lo hi G pF pL pK T R ord) (h:Bd d U pb po rt rv lov hiv lo hi G R w S p) (h1 : -1 < p)
    (hk:FK (.pointer none) pb po (GB G lo hi) (bT U T) (Bd d U pb po rt rv lov hiv lo hi G R) w S (p - 1) k):aX prog 233 #[.pointer (some ⟨U,72,none⟩)] k w:=by
 obtain ⟨q,is,ps,hR,b,hst⟩:=h
 have c0:=b.c0
 have c1:=b.c1
 have c2:=b.c2
 have c5:=b.c4
 have c6:=b.c6
 have c8:=b.c8
 have fU:=b.fU
 have hab:=jW bc.f.wf bc.b
 have hle:=kG (G:=G) (hi:=hi)
 have hl:=dH (G:=G) (lo:=lo) (hi:=hi)
 have m1:((-1:Int) == -1)=true:=by decide
 have m0:((0:Int) == -1)=false:=by decide
 have m1':((1:Int) == -1)=false:=by decide
 have m10:((1:Int) == 0)=false:=by decide
 have m11:((1:Int) == 1)=true:=by decide
 have m00:((0:Int) == 0)=true:=by decide
 have kw:∀ w':World,Keep (fun b x=>bT U T b x∨S b) w' w':=fun w'=>Keep.refl _ w'
 rcases hst with hst | ⟨a0,a1,rfl,rfl,a4⟩ | ⟨a1,rfl,rfl,a4⟩ | ⟨a1,rfl,rfl,a4⟩ | ⟨a1,rfl,rfl,a4,a5⟩ | ⟨a1,rfl,rfl,a4,a5⟩
 ·omega
 ·
  obtain ⟨j,hj⟩:∃ j:Nat,q=j:=⟨q.toNat,by omega⟩
  have hjl:j < G.length:=by omega
  obtain ⟨⟨ev,e1,e2⟩,_,_,_⟩:=(bc.f.cur hR hj hjl).o (bc.f.inc hR)
  obtain ⟨ea,ec,rfl⟩:=bI e2
  have hinc:=bc.f.inc hR
  refine ai [.tmp 2] func233 ?_
  rcases b.lo with ⟨hn,hv⟩ | ⟨l,la,ln,lc,hn,hv,hlb⟩
  ·rw [hv] at c5
   refine eI @c8 @m0 @m00 ?_
   refine ay (sq [0,1,2] (.read 3 (sq [4,5,6,7,8] (.read 9 (sq [10,11,12,13,14,15] (.read 16 (sq [17,18,19] (.read 20 (sq [21,22] (.read 23 (sq [24,25,26] (.read 27 (.eff 28 [] (sq [29,30] .done)))))))))))))) ?_
   simp (disch:=first | exact dZ | fail) only [go_sem,c1,c5,c6,c0,Option.isSome_some,Option.isSome_none]
   have hR:=bc.drew hR
   have b:=b.drew
   have kw:=(Keep.refl (fun b x=>bT U T b x∨S b) w).drew
   refine bc.f.prev hR (by omega) fun w2 S2 r1 r2 r3 => ?_
   have b2:=b.keep r3 fun x h1 h2 _ hm=>by
    rcases hm with hm | hm
    ·exact bc.t x h1 h2 hm
    ·exact bc.s hR hm
   have hp:=dR pb po G ((q - 1))
   rw [hp]
   refine al ?_
   refine nu b2 ?_
   rw [← hp]
   refine al ?_
   refine vy bc (bc.drew r1) (b2.drew) fun w3 r r4 b3 k3 hr => ?_
   have k3:Keep (bM U) w2 w3:=by first | exact k3 | exact (Keep.refl _ w2).drew.trans k3
   obtain ⟨e1,e2⟩:=Bd.bwd bc r4 b3 hr (by omega) (by omega)
   rw [show (q - 1) - (aB G lo:Int)=p - 1 by omega] at e1 e2
   refine al ?_
   rw [← e2]
   refine hk w3 S2 e1 r2 ?_
   refine (kw.trans (r3.mono fun b x _ hm => ?_)).trans (k3.mono fun b x _ hm => .inl (.inr hm))
   rcases hm with hm | hm
   ·exact .inl (.inl hm)
   ·exact .inr hm
  ·rw [hv] at c5 hlb
   refine eI @c8 @m0 @m00 ?_
   refine ay (sq [0,1,2] (.read 3 (sq [4,5,6,7,8] (.read 9 (sq [10,11,12,13,14,15] (.read 16 (sq [17,18,19] (.read 20 (sq [21,22] (.read 23 (sq [24,25,26] (.read 27 (.eff 28 [] (sq [29,30] .done)))))))))))))) ?_
   simp (disch:=first | exact dZ | fail) only [go_sem,c1,c5,c2,e1,Option.isSome_some,Option.isSome_none]
   refine fG (l1:=G[j]!.s) (by exact e2) (by exact hlb.inc hinc) ?_
   by_cases hge:G[j]!.s≤l
   ·have hge':eY G[j]!.s l≤0:=jA.2 hge
    refine eI @hge' @c8 @fU ?_
    have hend:aB G lo=j:=by
     rcases aH (aB G lo) j with h | h
     ·exfalso
      have a:=(qi bc.f.wf (lo:=lo) (show j - 1 < G.length by omega)).1 (by omega) l hn
      have b:=bc.f.wf.2 (j - 1) j (by omega) (by omega)
      exact List.not_lt.2 hge (cJ a (List.not_lt.2 b))
     ·omega
    obtain ⟨b2,k2⟩:=rP b (-1)
    have k2:Keep (bM U) w (w.setCell ⟨U,80,none⟩ (.int .i8 (-1))).drew:=k2.drew
    have:=hk _ S ⟨q,_,-1,bc.keep hR k2,b2.drew,.inr (.inr (.inr (.inr (.inr ⟨by omega,rfl,rfl,by omega,by omega⟩))))⟩ (fun _ h => .inl h) (k2.mono fun b x _ h => .inl (.inr h))
    rwa [fY (by omega)] at this
   ·have hge':¬ eY G[j]!.s l≤0:=fun h=>hge (jA.1 h)
    simp (disch:=first | exact dZ | fail) only [go_sem,hge',c1,c6,c0,Option.isSome_some,Option.isSome_none]
    have hR:=bc.drew hR
    have b:=b.drew
    have kw:=(Keep.refl (fun b x=>bT U T b x∨S b) w).drew
    refine bc.f.prev hR (by omega) fun w2 S2 r1 r2 r3 => ?_
    have b2:=b.keep r3 fun x h1 h2 _ hm=>by
     rcases hm with hm | hm
     ·exact bc.t x h1 h2 hm
     ·exact bc.s hR hm
    have hp:=dR pb po G ((q - 1))
    rw [hp]
    refine al ?_
    refine nu b2 ?_
    rw [← hp]
    refine al ?_
    refine vy bc (bc.drew r1) (b2.drew) fun w3 r r4 b3 k3 hr => ?_
    have k3:Keep (bM U) w2 w3:=by first | exact k3 | exact (Keep.refl _ w2).drew.trans k3
    obtain ⟨e1,e2⟩:=Bd.bwd bc r4 b3 hr (by omega) (by omega)
    rw [show (q - 1) - (aB G lo:Int)=p - 1 by omega] at e1 e2
    refine al ?_
    rw [← e2]
    refine hk w3 S2 e1 r2 ?_
    refine (kw.trans (r3.mono fun b x _ hm => ?_)).trans (k3.mono fun b x _ hm => .inl (.inr hm))
    rcases hm with hm | hm
    ·exact .inl (.inl hm)
    ·exact .inr hm
 ·
  refine ai [.tmp 2] func233 ?_
  refine eI @c8 @m0 @m00 ?_
  refine ay (sq [0,1,2] (.read 3 (sq [4,5,6,7,8] (.read 9 (sq [10,11,12,13,14,15] (.read 16 (sq [17,18,19] (.read 20 (sq [21,22] (.read 23 (sq [24,25,26] (.read 27 (.eff 28 [] (sq [29,30] .done)))))))))))))) ?_
  simp (disch:=first | exact dZ | fail) only [go_sem,c1,c0,Option.isSome_none]
  have hR:=bc.drew hR
  have b:=b.drew
  have kw:=(Keep.refl (fun b x=>bT U T b x∨S b) w).drew
  refine bc.f.prev hR (by omega) fun w2 S2 r1 r2 r3 => ?_
  have b2:=b.keep r3 fun x h1 h2 _ hm=>by
   rcases hm with hm | hm
   ·exact bc.t x h1 h2 hm
   ·exact bc.s hR hm
  have hp:=dR pb po G ((q - 1))
  rw [hp]
  refine al ?_
  refine nu b2 ?_
  rw [← hp]
  refine al ?_
  refine vy bc (bc.drew r1) (b2.drew) fun w3 r r4 b3 k3 hr => ?_
  have k3:Keep (bM U) w2 w3:=by first | exact k3 | exact (Keep.refl _ w2).drew.trans k3
  obtain ⟨e1,e2⟩:=Bd.bwd bc r4 b3 hr (by omega) (by omega)
  rw [show (q - 1) - (aB G lo:Int)=p - 1 by omega] at e1 e2
  refine al ?_
  rw [← e2]
  refine hk w3 S2 e1 r2 ?_
  refine (kw.trans (r3.mono fun b x _ hm => ?_)).trans (k3.mono fun b x _ hm => .inl (.inr hm))
  rcases hm with hm | hm
  ·exact .inl (.inl hm)
  ·exact .inr hm
 ·omega
 ·
  refine ai [.tmp 2] func233 ?_
  refine rA @c8 @c1 @m1' @m10 @m11 @fU ?_
  obtain ⟨b2,k2⟩:=rP b 0
  have:=hk _ S ⟨q,_,0,bc.keep hR k2,b2,.inr (.inl ⟨by omega,by omega,rfl,rfl,by omega⟩)⟩ (fun _ h => .inl h) (k2.mono fun b x _ h => .inl (.inr h))
  rwa [gf (by omega) (by omega)] at this
 ·omega
theorem zV (bc:BC d U pb po rt rv lo hi G pF pL pK T R ord) (h:Bd d U pb po rt rv lov hiv lo hi G R w S p) (hk:∀ w',Bd d U pb po rt rv lov hiv lo hi G R w' S p→bY w w'→k .nilIface w'):aX prog 229 #[.pointer (some ⟨U,72,none⟩)] k w:=by
 obtain ⟨q,is,ps,hR,b,hst⟩:=h
 have c0:=b.c0
 refine ai [.tmp 2] func229 ?_
 refine bf @c0 ?_
 refine bc.f.error hR fun w2 r1 r2 => ?_
 refine al ?_
 exact hk w2 ⟨q,is,ps,r1,b.keep r2 fun _ _ _ _ h=>h,hst⟩ r2
theorem Lg (bc:BC d U pb po rt rv lo hi G pF pL pK T R ord):FJ prog (.iface 226 (.pointer (some ⟨U,72,none⟩))) d pb po ord (GB G lo hi) (pF∧lo=none) False (fun _=>False) (bT U T) (Bd d U pb po rt rv lov hiv lo hi G R) where
 wf:=Iz bc.f.wf
 small:=by
  rw [dH]
  have:=bc.f.small
  have:=kG (G:=G) (hi:=hi)
  omega
 inc h:=by obtain ⟨q,is,ps,hR,_⟩:=h; exact bc.f.inc hR
 rg h:=h.rg
 cur {w S p j} h hp hj:=by
  obtain ⟨q,is,ps,hR,b,hst⟩:=h
  rw [pG hj]
  refine bc.f.cur hR ?_ ?_
  ·rcases hst with h | h | h | h | h | h <;> omega
  ·have:=dH (G:=G) (lo:=lo) (hi:=hi)
   have:=kG (G:=G) (hi:=hi)
   omega
 keep {w w2 S p M} h hk hM:=by
  obtain ⟨q,is,ps,hR,b,hst⟩:=h
  refine ⟨q,is,ps,bc.f.keep hR hk fun b x hb hm => ?_,b.keep hk fun x h1 h2 hb hm=>(hM _ _ hb hm).1 (.inr ⟨rfl,h1,h2⟩),hst⟩
  obtain ⟨a1,a2,a3⟩:=hM b x hb hm
  exact ⟨fun h=>a1 (.inl h),a2,a3⟩
 outS h b hb:=by obtain ⟨q,is,ps,hR,_⟩:=h; exact bc.f.outS hR b hb
 outT h:=by
  rcases h with h | ⟨rfl,_⟩
  ·exact bc.f.outT h
  ·exact bc.o _
 next h h1 h2 hk:=by
  rw [Tryz.iv226_Next]
  exact Bj bc h h1 h2 hk
 prev h h1 hk:=by
  rw [Tryz.iv226_Prev]
  exact Bk bc h h1 hk
 first h h1 hk:=by
  rw [Tryz.iv226_First]
  exact zU bc h h1 hk
 last _ h _:=h.elim
 seekGE _ h _ _ _:=h.elim
 seekLT _ h _ _ _:=h.elim
 error h hk:=by
  rw [Tryz.iv226_Error]
  exact zV bc h hk
end
end Go.Proofs
end
section
namespace Go.E
open Go Go.Sort Go.Proofs Go.Proofs.Tryz
theorem GI {P:Program} {k:aq} {w:World} {t el:TypeId} {sz by_:Nat} {c:Nat} (h:gQ P t=some (el,sz,by_)) (hb:by_ * c≤281474976710656) (hc:c≤9223372036854775807)
    (hk:∀ w2,w2.ownsRow 0 el sz (.slice (some ⟨w.heap.size,0,none⟩) 0 c) 0 []→bY w w2→k (.slice (some ⟨w.heap.size,0,none⟩) 0 c) w2):KF P t (.int .i64 0) (.int .i64 c) k w:=by
 obtain ⟨i,z,h1,h2,h3,rfl,rfl,h6,h7⟩:=je h
 obtain ⟨w2,hr,o,g⟩:=run_make_own (P:=P) (w:=w) 0 t el i z i.size h1 h2 h3 rfl .i64 .i64 c hb (by unfold maxLen; omega) (aQ _)
 simp only [KF,dw,hr]
 exact hk w2 o (kX g (by simp) (by simp))
theorem sL {w:World} {g n m cap:Nat} {xs:List Value} {e:TypeId} (h:w.ownsRow 0 e 1 (.slice (some ⟨g,0,none⟩) n cap) n xs) (hn:n≤m) (hm:m≤cap):∃ ys,w.ownsRow 0 e 1 (.slice (some ⟨g,0,none⟩) m cap) m ys∧ys.take n=xs:=by
 rcases h.2 with ⟨hv,_⟩ | ⟨g',cap',cur,hv,hb,hc,hn',hmx,hs,ht⟩
 ·simp at hv
 ·simp only [aW,aK,Addr.mk.injEq,true_and,and_true] at hv
  obtain ⟨rfl,rfl⟩:=hv
  refine ⟨cur.toList.take m,⟨by simp [hs]; omega,.inr ⟨g,cap,cur,rfl,hb,hc,hm,hmx,hs,by rw [Nat.mul_one]⟩⟩,?_⟩
  rw [List.take_take,Nat.min_eq_left hn]
  simpa using ht
end Go.E
namespace Go.Proofs
open Go Go.E Go.Sort Go.Proofs.Tryz
section
variable {k:aq} {d w:World}
theorem xy {a:Option Addr} {n cap m:Nat} (hc:cap≤8589934592) (hm:m≤4294967296)
    (hk:∀ c w2,m≤c→c≤8589934592→w2.ownsRow 0 5 1 (.slice (some ⟨w.heap.size,0,none⟩) 0 c) 0 []→bY w w2→k (.slice (some ⟨w.heap.size,0,none⟩) 0 c) w2):aX prog 256 #[.slice a n cap,.int .i64 m] k w:=by
 have e1:IntKind.i64.wrap ((cap:Int) * 2)=((cap * 2:Nat):Int):=by rw [jo (by omega) (by omega)]; omega
 have fin:∀ (c:Nat),c≤4294967296∨c=524288→(c:Int)=c→True:=fun _ _ _=>trivial
 refine ai [.tmp 4] func256 ?_
 refine bf @e1 ?_
 refine rC (fun s:Nat=>[(1,.int .i64 m),(5,.int .i64 s)]) (fun s w'=>w'=w∧s≤524288) (by kernel_rfl) (by kernel_rfl) (fun K hK => ?_) ?_
 ·by_cases h1:cap * 2 < 512
  ·have h1':((cap * 2:Nat):Int) < 512:=by omega
   refine bf @h1' ?_
   refine hK _ _ 512 ?_ ⟨rfl,by omega⟩
   exact bE
  ·have h1':¬ ((cap * 2:Nat):Int) < 512:=by omega
   by_cases h2:524288 < cap * 2
   ·have h2':(524288:Int) < ((cap * 2:Nat):Int):=by omega
    refine dV @h1' @h2' ?_
    refine hK _ _ 524288 ?_ ⟨rfl,by omega⟩
    exact bE
   ·have h2':¬ (524288:Int) < ((cap * 2:Nat):Int):=by omega
    refine dV @h1' @h2' ?_
    refine hK _ _ (cap * 2) ?_ ⟨rfl,by omega⟩
    exact bE
 ·rintro e s w1 ⟨rfl,hs⟩
  by_cases h3:s < m
  ·have h3':(s:Int) < m:=by omega
   refine bf @h3' ?_
   refine GI (c:=m) rw107 (by omega) (by omega) fun w2 o2 x2 => ?_
   refine al ?_
   exact hk m w2 (aD _) (by omega) o2 x2
  ·have h3':¬ (s:Int) < m:=by omega
   refine bf @h3' ?_
   refine GI (c:=s) rw107 (by omega) (by omega) fun w2 o2 x2 => ?_
   refine al ?_
   exact hk s w2 (by omega) (by omega) o2 x2
end
end Go.Proofs
end
section
namespace Go.E
open Go Go.Sort Go.Proofs Go.Proofs.Tryz
theorem I0 {P:Program} {t:TypeId} {n:Nat} (h:lS P t=some n) {a:Option Addr} {len cap:Nat} {kd kd2 kd3:IntKind} {l i m:Int} {q:Value→Prop} (c1:0≤l) (c2:l≤i) (c3:i≤m) (c4:m≤cap) :
    dW P t (.slice a len cap) (some (.int kd l)) (some (.int kd2 i)) (some (.int kd3 m)) q=q (.slice (if m=l then a else a.map (·.add (l.toNat * n))) (i.toNat - l.toNat) (m.toNat - l.toNat)):=by
 rw [fj h rfl rfl c1 (by simpa [bd] using c2) (by simpa [bd] using c3) (by simpa [bd] using c4) (by simp)]
 rfl
theorem GJ {P:Program} {k:aq} {w:World} {dT sT ty el:TypeId} {by_:Nat} {b o n c:Nat} {v:Value} {l:List Value} (h:gQ P dT=some (el,1,by_)) (hl:l.length=n) (hn:0 < n) (hv:tP w v n l) (h1:∀ u ∈ l,u.oneCell'=true) (hc:∀ j,j < n→(w.cell? ⟨b,o+j,none⟩).isSome=true) (hf:∀ j,w.frozen? ⟨b,j,none⟩=false)
    (hk:k (.int .i64 n) (w.setCells b o l)):FP P #[dT,sT] ty #[.slice (some ⟨b,o,none⟩) n c,v] k w:=by
 obtain ⟨i,z,e1,e2,e3,e4,e5,e6,e7⟩:=je h
 unfold tP at hv
 split at hv
 ·omega
 ·rename_i a m cc
  obtain ⟨rfl,hv2⟩:=hv
  have:=run_copy_cells (P:=P) w dT sT ty el b o m c a m cc l e1 (by rw [e2]; simpa using e4) (by rw [hl]; exact (Nat.min_self m).symm) hv2 (fun j hj=>hc j (by omega)) (fun j _=>hf _) h1
  simp only [FP,dw,this,hl]
  exact hk
 ·exact hv.elim
theorem xz {w:World} {g n cap o:Nat} {xs:List Value} {e:TypeId} {sz:Nat} (l:List Value) (h:w.ownsRow 0 e sz (.slice (some ⟨g,0,none⟩) n cap) n xs):∃ zs,(w.setCells g o l).ownsRow 0 e sz (.slice (some ⟨g,0,none⟩) n cap) n zs:=by
 induction l generalizing w o xs with
 | nil=>exact ⟨xs,h⟩
 | cons v l ih=>exact ih (bp h o v)
theorem me {w w0:World} {g:Nat} {M:Nat→Nat→Prop} (l:List Value) (o:Nat) (h:Keep M w0 w) (hm:∀ j,j < l.length→M g (o+j)):Keep M w0 (w.setCells g o l):=by
 induction l generalizing w o with
 | nil=>exact h
 | cons v l ih =>
  refine ih (o+1) (h.set fun _=>by simpa using hm 0 (by simp)) fun j hj => ?_
  have:=hm (j+1) (by simp; omega)
  rwa [show o+1+j=o+(j+1) by omega]
theorem zX {P:Program} {k:aq} {w:World} {dT sT ty el:TypeId} {by_:Nat} {a:Option Addr} {c:Nat} {a2:Option Addr} {n2 c2:Nat} (h:gQ P dT=some (el,1,by_)) (hk:k (.int .i64 0) w):FP P #[dT,sT] ty #[.slice a 0 c,.slice a2 n2 c2] k w:=by
 obtain ⟨i,z,e1,e2,e3,e4,e5,e6,e7⟩:=je h
 have:=run_copy_none (P:=P) w dT sT ty el a a2 0 c n2 c2 e1 (by rw [e2]; simpa using e4) (Nat.min_zero _)
 simp only [FP,dw,this]
 exact hk
end Go.E
namespace Go.Proofs
open Go Go.E Go.Sort Go.Proofs.Tryz
section
variable {k:aq} {d w:World}
theorem Bl {va:Option Addr} {len cap n:Nat} (hlc:len≤cap) (hc:cap≤8589934592) (hn:n≤4294967296)
    (hA:len+n≤cap→k (.tuple #[.slice va (len+n) cap,.slice (if n=0 then va else va.map (·.add len)) n n]) w)
    (hB:¬ len+n≤cap→∀ c w2,n≤c→c≤8589934592→w2.ownsRow 0 5 1 (.slice (some ⟨w.heap.size,0,none⟩) 0 c) 0 []→bY w w2→k (.tuple #[.slice (some ⟨w.heap.size,0,none⟩) n c,.slice (some ⟨w.heap.size,0,none⟩) n n]) w2) :
    aX prog 255 #[.slice va len cap,.int .i64 n] k w:=by
 have e1:IntKind.i64.wrap ((cap:Int) - len)=((cap - len:Nat):Int):=by rw [jo (by omega) (by omega)]; omega
 refine ai [.tmp 4,.tmp 5] func255 ?_
 by_cases h1:len+n≤cap
 ·have h1':¬ ((cap - len:Nat):Int) < n:=by omega
  have e2:IntKind.i64.wrap ((len:Int)+n)=((len+n:Nat):Int):=by rw [jo (by omega) (by omega)]; omega
  have c1:(0:Int)≤len:=by omega
  have c2:(len:Int)≤((len+n:Nat):Int):=by omega
  have c3:((len+n:Nat):Int)≤cap:=by omega
  have c4:(0:Int)≤((len+n:Nat):Int):=by omega
  simp (disch:=first | exact dZ | fail) only [go_sem,e1,h1',e2,I0 Tryz.es166 c1 c2 (Int.le_refl _) c3,sD Tryz.es166 c4 c3]
  have:=hA h1
  have ei:(if ((len+n:Nat):Int)=(len:Int) then va else va.map (·.add (len * 1)))=(if n=0 then va else va.map (·.add len)):=by
   rw [Nat.mul_one]
   by_cases h0:n=0
   ·rw [if_pos h0,if_pos (by omega)]
   ·rw [if_neg h0,if_neg (by omega)]
  rw [Nat.add_sub_cancel_left,ei]
  exact this
 ·have h1':((cap - len:Nat):Int) < n:=by omega
  refine dV @e1 @h1' ?_
  refine xy hc hn fun c w2 hnc hcc o2 x2 => ?_
  have e2:IntKind.i64.wrap ((0:Int)+n)=n:=by rw [jo (by omega) (by omega)]; omega
  have e3:IntKind.i64.wrap ((n:Int))=n:=by rw [jo (by omega) (by omega)]
  have c1:(0:Int)≤0:=by decide
  have c2:(0:Int)≤n:=by omega
  have c3:(n:Int)≤c:=by omega
  have z0:((0:Nat):Int)=0:=rfl
  simp (disch:=first | exact dZ | fail) only [go_sem,z0,Int.zero_add,e2,e3,I0 Tryz.es166 c1 c2 (Int.le_refl _) c3,sD Tryz.es166 c2 c3]
  have hn0:¬ ((n:Int)=0):=by omega
  rw [if_neg hn0]
  have:=hB h1 c w2 hnc hcc o2 x2
  exact this
theorem Dw {v src:Value} {xs:List Value} {l:Bytes} {vcap:Nat} (o:w.ownsRow 0 5 1 v xs.length xs) (hv:∃ a,v = .slice a xs.length vcap) (hc:vcap≤8589934592) (hs:fV w src l) (hl:l.length≤4294967296)
    (hk:∀ w2 (v2:Value) (ys:List Value) (vcap2:Nat) (pa:Option Addr),w2.ownsRow 0 5 1 v2 ys.length ys→(∃ a,v2 = .slice a ys.length vcap2)→vcap2≤8589934592→cZ w v v2→Keep (fun b x=>v.ownBlock=some b∧xs.length≤x) w w2→fV w2 (.slice pa l.length l.length) l →
     (0 < l.length→∃ g off,v2.ownBlock=some g∧pa=some ⟨g,off,none⟩∧off+l.length≤ys.length∧(v.ownBlock=some g→xs.length≤off))→(v2.ownBlock=v.ownBlock→xs.length≤ys.length)→k (.tuple #[v2,.slice pa l.length l.length]) w2) :
    aX prog 254 #[v,src] k w:=by
 obtain ⟨va,rfl⟩:=hv
 obtain ⟨sa,sc,rfl⟩:=bI hs
 have hxc:xs.length≤vcap:=by
  obtain ⟨_,_,e,h,_⟩:=bZ o
  simp only [aW,true_and] at e
  rw [e.2]; exact h
 refine ai [.tmp 4,.tmp 5] func254 ?_
 refine al ?_
 refine Bl hxc hc hl (fun hr => ?_) (fun hr c w2 hnc hcc o2 x2 => ?_)
 ·
  refine al ?_
  by_cases h0:l.length=0
  ·rw [if_pos h0]
   have hl0:l=[]:=ao.1 h0
   subst hl0
   simp only [List.length_nil,Nat.add_zero]
   refine zX rw107 ?_
   refine al ?_
   refine hk w (.slice va xs.length vcap) xs vcap va o ⟨va,rfl⟩ hc (cZ.refl _ _) (Keep.refl _ w) ?_ (fun h=>by simp at h) (fun _=>aD _)
   cases va with
   | none=>exact ⟨rfl,rfl⟩
   | some a =>
    rcases cY o with ⟨e,_⟩ | ⟨g,c',e,_⟩
    ·simp at e
    ·simp only [aW,aK] at e
     rw [e.1]
     exact ⟨rfl,rfl,fun i x hx=>by simp [iI] at hx⟩
  ·rw [if_neg h0]
   obtain ⟨g,hg⟩:∃ g,va=some ⟨g,0,none⟩:=by
    rcases cY o with ⟨e,h,_⟩ | ⟨g,c',e,_⟩
    ·simp only [aW] at e
     omega
    ·simp only [aW] at e
     exact ⟨g,e.1⟩
   subst hg
   obtain ⟨ys,oy,hy⟩:=sL o (Nat.le_add_right _ l.length) hr
   have hyl:=oy.1
   rw [Nat.mul_one] at hyl
   have ea:(Option.map (·.add xs.length) (some (⟨g,0,none⟩:Addr)))=some ⟨g,xs.length,none⟩:=by
    show some ((⟨g,0,none⟩:Addr).add xs.length)=_
    rw [dm rfl,Nat.zero_add]
   rw [ea]
   refine GJ (n:=l.length) (l:=iI l) rw107 (br l) (by omega) (gg hs) (gh l) (fun j hj => ?_) (fun j=>cS oy rfl j) ?_
   ·have:ys[xs.length+j]? = some ys[xs.length+j]:=aC (by omega)
    rw [av oy this]; rfl
   refine al ?_
   obtain ⟨zs,oz⟩:=xz (o:=xs.length) (iI l) oy
   have hzl:=oz.1
   rw [Nat.mul_one] at hzl
   rw [← hzl] at oz
   have hin:=World.cell?_setCells_in g (iI l) xs.length w (fun j hj=>by
    rw [br] at hj
    have:ys[xs.length+j]? = some ys[xs.length+j]:=aC (by omega)
    rw [av oy this]; rfl)
   have:=hk (w.setCells g xs.length (iI l)) (.slice (some ⟨g,0,none⟩) zs.length vcap) zs vcap (some ⟨g,xs.length,none⟩) oz ⟨_,rfl⟩ hc (fun g' hg' => .inl hg') (me _ _ (Keep.refl _ w) fun j hj=>⟨rfl,by omega⟩) ⟨rfl,rfl,fun i x hx=>by
    obtain ⟨hi,e⟩:=aP.1 hx
    rw [← e]
    exact hin i hi⟩ (fun _=>⟨g,xs.length,rfl,rfl,by omega,fun _=>aD _⟩) (fun _=>by omega)
   rw [hzl] at this
   exact this
 ·
  have hl0:0 < l.length:=by omega
  have k12:=x2
  have hs2:=hs.keep x2 fun _ _ _ _ _ _ h=>h
  obtain ⟨ys,oy,hy⟩:=sL o2 (aQ l.length) hnc
  have hyl:=oy.1
  rw [Nat.mul_one] at hyl
  refine al ?_
  refine GJ (n:=l.length) (l:=iI l) rw107 (br l) (by omega) (gg hs2) (gh l) (fun j hj => ?_) (fun j=>cS oy rfl j) ?_
  ·have:ys[0+j]? = some ys[0+j]:=aC (by omega)
   rw [av oy this]; rfl
  refine al ?_
  obtain ⟨zs,oz⟩:=xz (o:=0) (iI l) oy
  have hzl:=oz.1
  rw [Nat.mul_one] at hzl
  rw [← hzl] at oz
  have hin:=World.cell?_setCells_in w.heap.size (iI l) 0 w2 (fun j hj=>by
   rw [br] at hj
   have:ys[0+j]? = some ys[0+j]:=aC (by omega)
   rw [av oy this]; rfl)
  have kk:Keep (fun b x=>(Value.slice va xs.length vcap).ownBlock=some b∧xs.length≤x) w (w2.setCells w.heap.size 0 (iI l)):=by
   have h1:Keep (fun b _=>w.heap.size≤b) w (w2.setCells w.heap.size 0 (iI l)):=me _ _ x2.keep fun j _=>aD _
   exact h1.mono fun b x hb h=>by omega
  have:=hk (w2.setCells w.heap.size 0 (iI l)) (.slice (some ⟨w.heap.size,0,none⟩) zs.length c) zs c (some ⟨w.heap.size,0,none⟩) oz ⟨_,rfl⟩ hcc (fun g' hg' => .inr (by cases hg'; exact aD _)) kk ⟨rfl,rfl,fun i x hx=>by
   obtain ⟨hi,e⟩:=aP.1 hx
   rw [← e]
   exact hin i hi⟩ (fun _=>⟨w.heap.size,0,rfl,rfl,by omega,fun h=>by have:=(o.lt _ h).2; omega⟩) (fun h=>by have:=(o.lt w.heap.size (h.symm.trans rfl)).2; exact absurd this (dE _))
  rw [hzl] at this
  exact this
end
end Go.Proofs
end
