/- Parts of the proof: Mf, Bp, Bo, Bq, Br, By, Bz, Oa, Oc. -/
import Derived.Laws.MakeOwn
import Derived.Lib.Varint
import Derived.Lib.VarintDec
import Derived.Test.YtlmoafgebiffaaaGreatDoorV03
import Derived.Test.YtlmoafgebiffaaaGreatDoorV11
set_option linter.all false
set_option maxRecDepth 10000
section
namespace Go.Proofs
open Go Go.E Go.Sort Go.Proofs.Tryz
section
variable {k:aq} {d w w2:World} {U o Bf:Nat} {Z:TX} {Ls:Array Lvl} {B:List Bytes} {S:Nat→Prop} {pos:Nat→Int} {vk vb:Value} {vs:Nat→Prop} {lk:List KR} {xb:List Value} {p:Int}
theorem Mi.keep {M:Nat→Nat→Prop} (m:MS d U o Bf Z Ls B) (h:Mi d U o Bf Z Ls B w S p) (hk:Keep M w w2) (hM:∀ b x,b < w.heap.size→M b x→¬ mT U o Bf Z Ls b x∧¬ S b∧d.cell? ⟨b,x,none⟩=none):Mi d U o Bf Z Ls B w2 S p:=by
 obtain ⟨u,pos,vk,vb,vs,lk,xb,sc,hu,hc,hsp,hd⟩:=h
 have hU:=aC sc.g.bufs
 have hB:=aC sc.g.lvls
 have hk:Keep (fun b x=>M b x∧b < w.heap.size) w w2:=⟨hk.size,fun b o hb hn=>hk.cell b o hb fun h=>hn ⟨h,hb⟩,hk.frozen,fun b hb hn=>hk.block b hb fun o h=>hn o ⟨h,hb⟩,hk.st⟩
 have hM:∀ b x,(M b x∧b < w.heap.size)→¬ mT U o Bf Z Ls b x∧¬ S b∧d.cell? ⟨b,x,none⟩=none:=fun b x h=>hM b x h.2 h.1
 have nU:∀ x,o≤x→x < o+70→¬ (M U x∧U < w.heap.size):=fun x h1 h2 h=>(hM _ _ h).1 (.inl ⟨rfl,h1,h2⟩)
 have nB:∀ x,x≤5→¬ (M Bf x∧Bf < w.heap.size):=fun x hx h=>(hM _ _ h).1 (.inr (.inl ⟨rfl,hx⟩))
 have nI:∀ i,i < Ls.size→∀ x,¬ (M Ls[i]!.I x∧Ls[i]!.I < w.heap.size):=fun i hi x h=>(hM _ _ h).1 (.inr (.inr (.inl ⟨i,hi,rfl⟩)))
 have nS:∀ g,S g→∀ x,¬ (M g x∧g < w.heap.size):=fun g hg x h=>(hM _ _ h).2.1 hg
 have g':=sc.g.keep m.mc hk (nU _ (by omega) (by omega)) (nB _ (by omega)) (nU _ (by omega) (by omega)) (fun x _ _=>nU x (by omega) (by omega)) nI (fun b x h=>(hM b x h).2.2)
 have hh:∀ {rev hp},MH w U o Bf 0 Ls pos rev hp→MH w2 U o Bf 0 Ls pos rev hp:=fun h=>h.keep hk (fun x _ _=>nB x (by omega)) (fun x _ _=>nU x (by omega) (by omega)) hU
 have hse:AT w U o→AT w2 U o:=fun ⟨⟨v3,a3,b3⟩,⟨v4,a4,b4⟩⟩=>⟨⟨v3,hk.some a3 (nU _ (by omega) (by omega)),b3⟩,⟨v4,hk.some a4 (nU _ (by omega) (by omega)),b4⟩⟩
 have hd11:∀ {v},w.cell? ⟨U,o+9,none⟩=some v→w2.cell? ⟨U,o+9,none⟩=some v:=fun h=>hk.some h (nU _ (by omega) (by omega))
 obtain ⟨v11,e11⟩:=sc.u.u11
 refine ⟨u,pos,vk,vb,vs,lk,xb,⟨g',sc.hw.keep hk (fun x _ _=>nB x (by omega)) (fun x _ _=>nU x (by omega) (by omega)),sc.u.keep hk (fun x _ _=>nU x (by omega) (by omega)) ⟨_,hd11 e11⟩,sc.r.keep m hk (nB _ (by omega)) (nB _ (by omega)) nS fun b x _ h=>⟨fun ht=>(hM b x h).1 (.inr (.inr (.inr ht))),(hM b x h).2.2⟩⟩,hu,hc,fun h1 h2=>(hsp h1 h2).keep hk nS (fun y _ _=>nU y (by omega) (by omega)),?_⟩
 ·rcases hd with ⟨a,⟨hp,b⟩,c,e⟩ | ⟨a,⟨hp,b⟩,c,e⟩ | ⟨a,c,e,f⟩
  ·exact .inl ⟨hd11 a,⟨hp,hh b⟩,c,e.imp id hse⟩
  ·exact .inr (.inl ⟨hd11 a,⟨hp,hh b⟩,c,e.imp id hse⟩)
  ·exact .inr (.inr ⟨hd11 a,c,e,hk.some f (nB _ (by omega))⟩)
theorem xS (m:MS d U o Bf Z Ls B) (h:Mi d U o Bf Z Ls B w S p) (hk:∀ w',Mi d U o Bf Z Ls B w' S p→bp w w'→k .nilIface w'):ai prog 168 #[.pointer (some ⟨U,o,none⟩)] k w:=by
 have hc:=h
 obtain ⟨u,pos,vk,vb,vs,lk,xb,sc,hu,hcu,hsp,hd⟩:=h
 have c1:=sc.g.bufs
 have er:=sc.g.err
 obtain ⟨n,hn,c2⟩:=sc.hw.c2
 refine al [.tmp 2] func168 ?_
 refine bu @c1 ?_
 have c2':w.cell? ⟨Bf,2+2,none⟩=some (.slice (some ⟨U,o+50,none⟩) n 10):=c2
 have len:∀ {K:aq},K (.int .i64 n) w→ai prog 177 #[.pointer (some ⟨Bf,2,none⟩)] K w:=by
  intro K hK
  refine al [.tmp 2] func177 ?_
  refine bu @c2' ?_
  exact hK
 refine len ?_
 by_cases h0:n=0
 ·have h0':((n:Int) == 0)=true:=by rw [beq_iff_eq]; omega
  refine dO @h0' @er ?_
  exact hk w hc (bp.refl w)
 ·have h0':((n:Int) == 0)=false:=by rw [beq_eq_false_iff_ne]; omega
  have hheap:∃ rev hp,MH w U o Bf 0 Ls pos rev hp∧0 < hp.size:=by
   rcases hd with ⟨_,⟨hp,b⟩,_⟩ | ⟨_,⟨hp,b⟩,_⟩ | ⟨_,_,_,f⟩
   ·refine ⟨_,hp,b,?_⟩
    have:=b.at_.c2
    rw [c2'] at this
    simp only [aP,aU,true_and,and_true] at this
    omega
   ·refine ⟨_,hp,b,?_⟩
    have:=b.at_.c2
    rw [c2'] at this
    simp only [aP,aU,true_and,and_true] at this
    omega
   ·rw [c2'] at f
    simp only [aP,aU,true_and,and_true] at f
    omega
  obtain ⟨rev,hp,hh,hz⟩:=hheap
  obtain ⟨r,hre⟩:∃ r,r=hp[0]! := ⟨_,rfl⟩
  have hr:=(hh.mem _).1 (kY hz)
  rw [← hre] at hr
  have ix:=hh.at_.ix 0 hz
  rw [← hre] at ix
  have lvs:=sc.g.lvls
  have d0:=(sc.g.lv r hr.1).it
  have z0:(0:Int).toNat=0:=rfl
  have z1:(0:Int)≤0:=by decide
  have hz2:(0:Int) < n:=by omega
  have hr':(r:Int) < Ls.size:=by have:=hr.1; omega
  refine dO @h0' @er ?_
  refine bF (sq [0,1,2] (.read 3 (sq [4,5] (.read 6 (sq [7,8,9] (.read 10 (sq [11,12,13] (.read 14 (sq [15,16] (.read 17 (sq [18,19] (.read 20 (.eff 21 [] (sq [22] .done)))))))))))))) ?_
  refine FW @c1 @lvs @c2' @ix @d0 @z0 @z1 @hz2 @hr' @Nat.zero_mul @Nat.add_zero ?_
  refine jj ?_
  refine hJ @c1 @lvs @c2' @ix @d0 ?_
  first | exact hk w hc (bp.refl w) | exact hk w.drew (Mi.keep (M:=fun _ _=>False) m hc (Keep.refl _ w).drew fun _ _ _ h=>h.elim) (Keep.refl _ w).drew
theorem Lx (m:MS d U o Bf Z Ls B) (hsm:B.length < 999999):FJ prog (.iface 230 (.pointer (some ⟨U,o,none⟩))) d U (o+4) Z.ord (GL Z.F Ls.size (Lf Ls) B) True False (fun _=>False) (mT U o Bf Z Ls) (Mi d U o Bf Z Ls B) where
 wf:=xN m.bds
 small:=by
  rw [dX]
  have:(eK Ls.size (Lf Ls) B).length≤B.length+1:=by
   unfold eK
   exact ah (bN _ _) (by simp)
  omega
 inc h:=by obtain ⟨u,pos,vk,vb,vs,lk,xb,sc,_⟩:=h; exact sc.g.inc
 rg h:=by obtain ⟨u,pos,vk,vb,vs,lk,xb,sc,hu,hc,_⟩:=h; rw [dX]; have:=hc.rg; omega
 cur {w S p j} h hp hj:=by
  obtain ⟨u,pos,vk,vb,vs,lk,xb,sc,hu,hc,hsp,_⟩:=h
  rw [dX] at hj
  have:=hsp (by omega) (by omega)
  have e:(eK Ls.size (Lf Ls) B)[j]? = some u:=by
   rcases hc with ⟨i,e1,e2⟩ | ⟨e1,_⟩ | ⟨e1,_⟩
   ·obtain rfl:i=j:=by omega
    exact e2
   ·omega
   ·omega
  rw [rq e]
  exact this
 keep h hk hM:=Mi.keep m h hk hM
 outS h b hb:=by
  obtain ⟨u,pos,vk,vb,vs,lk,xb,sc,_⟩:=h
  obtain ⟨_,_,a,_,e⟩:=sc.r.sp b hb
  exact ⟨a,e⟩
 outT h:=by
  rcases h with ⟨rfl,_⟩ | ⟨rfl,_⟩ | ⟨i,hi,rfl⟩ | h
  ·exact m.mc.oU _
  ·exact m.mc.oB _
  ·exact m.mc.oI i hi _
  ·exact m.tO h
 next h _ hp hk:=by
  rw [Tryz.iv230_Next]
  exact Dw m h (by rw [dX] at hp; exact hp) hk
 prev _ h _ _:=h.elim
 first h _ hk:=by
  obtain ⟨u,pos,vk,vb,vs,lk,xb,sc,_⟩:=h
  rw [Tryz.iv230_First]
  exact BW m sc hk
 last _ h _:=h.elim
 seekGE _ h _ _ _:=h.elim
 seekLT _ h _ _ _:=h.elim
 error h hk:=by
  rw [Tryz.iv230_Error]
  exact xS m h hk
end
end Go.Proofs
end
section
namespace Go.E
open Go Go.Sort Go.Proofs
def aB (G:List Sp):Option Bytes→Nat
 | none=>0
 | some l=>qj G l
def eB (G:List Sp):Option Bytes→Nat
 | none=>G.length
 | some h=>uI (fun j=>decide (G[j]!.s < h)) G.length
def GB (G:List Sp) (lo hi:Option Bytes):List Sp:=(G.take (eB G hi)).drop (aB G lo)
def BY (lo hi:Option Bytes):Prop:=∀ l h,lo=some l→hi=some h→¬ h < l
section
variable {G:List Sp} {lo hi:Option Bytes} {key:Bytes}
theorem Fu (hw:Wf G) {l:Bytes} {j:Nat} (hj:j < G.length):j < qj G l↔¬ l < G[j]!.e:=by
 unfold qj
 rw [re (fun a b h1 h2 h3 => ?_) hj,decide_eq_true_eq]
 rw [decide_eq_true_eq] at h3 ⊢
 intro h4
 exact h3 (cY h4 (List.not_lt.2 (hw.ends h1 h2)))
theorem Fv (hw:Wf G) {h:Bytes} {j:Nat} (hj:j < G.length):j < uI (fun j=>decide (G[j]!.s < h)) G.length↔G[j]!.s < h:=by
 rw [re (fun a b h1 h2 h3 => ?_) hj,decide_eq_true_eq]
 rw [decide_eq_true_eq] at h3 ⊢
 exact fQ (List.not_lt.2 (hw.starts h1 h2)) h3
theorem Jb:aB G lo≤G.length:=by
 cases lo with
 | none=>exact aT _
 | some l=>exact rb _ _
theorem oY:eB G hi≤G.length:=by
 cases hi with
 | none=>exact aF _
 | some l=>exact rb _ _
theorem Gp (hw:Wf G) {j:Nat} (hj:j < G.length):aB G lo≤j↔∀ l,lo=some l→l < G[j]!.e:=by
 cases lo with
 | none=>simp [aB]
 | some l =>
  have:=Fu hw (l:=l) hj
  simp only [aB,aP,forall_eq']
  rw [← Nat.not_lt,this,Classical.not_not]
theorem uU (hw:Wf G) {j:Nat} (hj:j < G.length):j < eB G hi↔∀ h,hi=some h→G[j]!.s < h:=by
 cases hi with
 | none=>simp [eB,hj]
 | some h =>
  have:=Fv hw (h:=h) hj
  simp only [eB,aP,forall_eq']
  exact this
theorem ru (hw:Wf G) (hb:BY lo hi):aB G lo≤eB G hi:=by
 rcases aH (eB G hi) (aB G lo) with h1 | h1
 ·exfalso
  have hj:eB G hi < G.length:=aL h1 Jb
  have a:=(not_congr (Gp hw (lo:=lo) hj)).1 (by omega)
  have b:=(not_congr (uU hw (hi:=hi) hj)).1 (by omega)
  cases lo with
  | none=>exact a (fun l h=>by cases h)
  | some l =>
   cases hi with
   | none=>exact b (fun l h=>by cases h)
   | some h =>
    have a':¬ l < G[eB G (some h)]!.e:=fun hh=>a (fun _ e=>by cases e; exact hh)
    have b':¬ G[eB G (some h)]!.s < h:=fun hh=>b (fun _ e=>by cases e; exact hh)
    have c:=hw.1 _ hj
    have d:=hb l h rfl rfl
    have e:h < G[eB G (some h)]!.e:=fQ b' c
    exact a' (fQ d e)
 ·exact h1
theorem gD:(GB G lo hi).length=eB G hi - aB G lo:=by
 unfold GB
 rw [List.length_drop,bE,Nat.min_eq_left oY]
theorem xT {j:Nat} (hj:j < (GB G lo hi).length):(GB G lo hi)[j]! = G[aB G lo+j]! := by
 have hl:=hj
 rw [gD] at hl
 have:=oY (G:=G) (hi:=hi)
 have e:(GB G lo hi)[j]? = G[aB G lo+j]? := by
  unfold GB
  rw [List.getElem?_drop,List.getElem?_take_of_lt (by omega)]
 rw [getElem!_def,getElem!_def,e]
theorem Jc (hw:Wf G):Wf (GB G lo hi):=by
 have e:=oY (G:=G) (hi:=hi)
 refine ⟨fun i hi' => ?_,fun i j hij hj => ?_⟩
 ·rw [xT hi']
  rw [gD] at hi'
  exact hw.1 _ (by omega)
 ·rw [xT (by omega),xT hj]
  rw [gD] at hj
  exact hw.2 _ _ (by omega) (by omega)
end
end Go.E
end
section
namespace Go.E
open Go Go.Sort Go.Proofs Go.Proofs.Tryz
def OB (d:World) (v:Value) (b:Option Bytes):Prop:=(b=none∧v = .slice none 0 0)∨∃ l a n c,b=some l∧v = .slice (some a) n c∧dR d v l
structure BS (d w:World) (U:Nat) (rt:TypeId) (rv lov hiv:Value) (lo hi:Option Bytes) (is:Option Addr) (ps:Int):Prop where
 c0:w.cell? ⟨U,72,none⟩=some (.iface rt rv)
 c1:w.cell? ⟨U,73,none⟩=some (.pointer is)
 c2:w.cell? ⟨U,74,none⟩=some (.func (.func 85) #[] #[])
 c4:w.cell? ⟨U,76,none⟩=some lov
 c5:w.cell? ⟨U,77,none⟩=some hiv
 c6:w.cell? ⟨U,78,none⟩=some (.pointer none)
 c8:w.cell? ⟨U,80,none⟩=some (.int .i8 ps)
 fU:∀ x,w.frozen? ⟨U,x,none⟩=false
 lo:OB d lov lo
 hi:OB d hiv hi
def bM (U:Nat):Nat→Nat→Prop:=fun b x=>b=U∧72≤x∧x≤80
section
variable {d w w2:World} {U:Nat} {rt:TypeId} {rv lov hiv:Value} {lo hi:Option Bytes} {is:Option Addr} {ps:Int}
theorem BS.keep {M:Nat→Nat→Prop} (h:BS d w U rt rv lov hiv lo hi is ps) (hk:Keep M w w2) (hm:∀ x,72≤x→x≤80→U < w.heap.size→¬ M U x):BS d w2 U rt rv lov hiv lo hi is ps:=by
 have hU:=aC h.c0
 exact ⟨hk.some h.c0 (hm _ (by omega) (by omega) hU),hk.some h.c1 (hm _ (by omega) (by omega) hU),hk.some h.c2 (hm _ (by omega) (by omega) hU),hk.some h.c4 (hm _ (by omega) (by omega) hU),hk.some h.c5 (hm _ (by omega) (by omega) hU),hk.some h.c6 (hm _ (by omega) (by omega) hU),hk.some h.c8 (hm _ (by omega) (by omega) hU),fun x=>by rw [hk.frozen U x hU]; exact h.fU x,h.lo,h.hi⟩
theorem BS.drew (h:BS d w U rt rv lov hiv lo hi is ps):BS d w.drew U rt rv lov hiv lo hi is ps:=⟨h.c0,h.c1,h.c2,h.c4,h.c5,h.c6,h.c8,h.fU,h.lo,h.hi⟩
end
end Go.E
namespace Go.Proofs
open Go Go.E Go.Sort Go.Proofs.Tryz
section
variable {k:aq} {d w:World} {U pb po:Nat} {rt:TypeId} {rv lov hiv:Value} {lo hi:Option Bytes} {is:Option Addr} {ps:Int} {G:List Sp} {pF pL:Prop} {pK:Bytes→Prop} {T:Nat→Nat→Prop} {R:World→(Nat→Prop)→Int→Prop} {S:Nat→Prop} {q:Int} {ord:Int}
theorem jI {a:Option Addr} (b:BS d w U rt rv lov hiv lo hi is ps) (hk:k (.pointer a) w):ai prog 217 #[.pointer (some ⟨U,72,none⟩),.pointer a] k w:=by
 have c6:=b.c6
 refine al [.tmp 4] func217 ?_
 cases a with
 | none =>
  simp (disch:=first | exact dZ | fail) only [go_sem,Option.isSome_none]
  exact hk
 | some a =>
  simp (disch:=first | exact dZ | fail) only [go_sem,c6,Option.isSome_some,Option.isSome_none]
  exact hk
structure BC (d:World) (U pb po:Nat) (rt:TypeId) (rv:Value) (lo hi:Option Bytes) (G:List Sp) (pF pL:Prop) (pK:Bytes→Prop) (T:Nat→Nat→Prop) (R:World→(Nat→Prop)→Int→Prop) (ord:Int):Prop where
 f:FJ prog (.iface rt rv) d pb po ord G pF pL pK T R
 t:∀ x,72≤x→x≤80→¬ T U x
 s:∀ {w S p},R w S p→¬ S U
 o:cj d U
 b:BY lo hi
theorem BC.keep {w w2:World} {p:Int} (bc:BC d U pb po rt rv lo hi G pF pL pK T R ord) (h:R w S p) (hk:Keep (bM U) w w2):R w2 S p :=
 bc.f.keep h hk fun b x _ hm=>by
  obtain ⟨rfl,h1,h2⟩:=hm
  exact ⟨bc.t x h1 h2,bc.s h,bc.o x⟩
theorem rA (bc:BC d U pb po rt rv lo hi G pF pL pK T R ord) (h:R w S q) (b:BS d w U rt rv lov hiv lo hi is ps)
    (hk:∀ w' r,R w' S q→BS d w' U rt rv lov hiv lo hi r 0→Keep (bM U) w w'→r=(if 0≤q∧q < eB G hi then some ⟨pb,po,none⟩ else none)→k (.pointer r) w') :
    ai prog 218 #[.pointer (some ⟨U,72,none⟩),l8 pb po G q] k w:=by
 have c1:=b.c1
 have c2:=b.c2
 have cb:=b.c5
 have c8:=b.c8
 have fU:=b.fU
 have hU:=aC c1
 have fin:∀ (r:Option Addr) (w':World),(w'=((w.setCell ⟨U,73,none⟩ (.pointer r)).setCell ⟨U,80,none⟩ (.int .i8 0)).drew∨(ps=0∧w'=(w.setCell ⟨U,73,none⟩ (.pointer r)).drew))→r=(if 0≤q∧q < eB G hi then some ⟨pb,po,none⟩ else none)→k (.pointer r) w':=by
  intro r w' hw' hr
  have kk:Keep (bM U) w w':=by
   rcases hw' with rfl | ⟨_,rfl⟩
   ·exact (((Keep.refl _ w).set (fun _=>⟨rfl,by omega,by omega⟩)).set (fun _=>⟨rfl,by omega,by omega⟩)).drew
   ·exact ((Keep.refl _ w).set (fun _=>⟨rfl,by omega,by omega⟩)).drew
  refine hk w' r (bc.keep h kk) ?_ kk hr
  have o:∀ {y v},y≠73→y≠80→w.cell? ⟨U,y,none⟩=some v→w'.cell? ⟨U,y,none⟩=some v:=by
   intro y v h1 h2 hv
   rcases hw' with rfl | ⟨_,rfl⟩
   ·exact bX @hv
   ·exact bX @hv
  refine ⟨o (by omega) (by omega) b.c0,?_,o (by omega) (by omega) b.c2,o (by omega) (by omega) b.c4,o (by omega) (by omega) b.c5,o (by omega) (by omega) b.c6,?_,fun x=>by rw [kk.frozen U x hU]; exact b.fU x,b.lo,b.hi⟩
  ·rcases hw' with rfl | ⟨_,rfl⟩
   ·exact bX @c1
   ·exact bX @c1
  ·rcases hw' with rfl | ⟨h0,rfl⟩
   ·exact bX @c8
   ·rw [h0] at c8
    exact bX @c8
 refine al [.tmp 4] func218 ?_
 by_cases hq:0≤q∧q < G.length
 ·rw [mR hq.1 hq.2]
  obtain ⟨j,rfl⟩:∃ j:Nat,q=j:=⟨q.toNat,by omega⟩
  have hj:j < G.length:=by omega
  obtain ⟨⟨sv,s1,s2⟩,⟨ev,e1,e2⟩,_,_⟩:=(bc.f.cur h rfl hj).o (bc.f.inc h)
  obtain ⟨sa,sc,rfl⟩:=aY s2
  obtain ⟨ea,ec,rfl⟩:=aY e2
  have hinc:=bc.f.inc h
  rcases b.hi with ⟨hn,hv⟩ | ⟨l,la,ln,lc,hn,hv,hl⟩
  ·rw [hv] at cb
   have hr:(some ⟨pb,po,none⟩:Option Addr)=(if (0:Int)≤j∧(j:Int) < eB G hi then some ⟨pb,po,none⟩ else none):=by rw [if_pos]; exact ⟨by have:=hj; omega,by have:=(uU bc.f.wf (hi:=hi) hj).2 (fun h' e=>by rw [hn] at e; cases e); omega⟩
   refine bA ?_
   refine bF (sq [0,1,2,3,4,5] (.read 6 (sq [7,8,9,10,11,12] (.read 13 (sq [14,15,16] (.read 17 (sq [18,19,20] (.read 21 (.eff 22 [] (sq [23,24] .done)))))))))) ?_
   by_cases h0:ps=0
   ·have h0':(ps != 0)=false:=by rw [h0]; rfl
    simp (disch:=first | exact dZ | fail) only [go_sem,cb,c1,c8,fU,h0',Option.isSome_some,Option.isSome_none]
    exact fin _ _ (.inr ⟨h0,rfl⟩) hr
   ·have h0':(ps != 0)=true:=by rw [bne_iff_ne]; exact h0
    simp (disch:=first | exact dZ | fail) only [go_sem,cb,c1,c8,fU,h0',Option.isSome_some,Option.isSome_none]
    exact fin _ _ (.inl rfl) hr
  ·rw [hv] at cb hl
   refine bA ?_
   refine bF (sq [0,1,2,3,4,5] (.read 6 (sq [7,8,9,10,11,12] (.read 13 (sq [14,15,16] (.read 17 (sq [18,19,20] (.read 21 (.eff 22 [] (sq [23,24] .done)))))))))) ?_
   simp (disch:=first | exact dZ | fail) only [go_sem,cb,c1,c2,s1,e1,Option.isSome_some]
   refine dG (l1:=G[j]!.s) (by exact s2) (by exact hl.inc hinc) ?_
   by_cases hle:l≤G[j]!.s
   ·have hle':(0:Int)≤eH G[j]!.s l:=gq.2 hle
    have hr:(none:Option Addr)=(if (0:Int)≤j∧(j:Int) < eB G hi then some ⟨pb,po,none⟩ else none):=by rw [if_neg]; intro hh; exact absurd ((uU bc.f.wf (hi:=hi) hj).1 (by omega) l hn) (List.not_lt.2 hle)
    by_cases h0:ps=0
    ·have h0':(ps != 0)=false:=by rw [h0]; rfl
     refine AE @cb @c1 @c2 @s1 @e1 @c8 @fU @hle' @h0' ?_
     exact fin _ _ (.inr ⟨h0,rfl⟩) hr
    ·have h0':(ps != 0)=true:=by rw [bne_iff_ne]; exact h0
     refine AE @cb @c1 @c2 @s1 @e1 @c8 @fU @hle' @h0' ?_
     exact fin _ _ (.inl rfl) hr
   ·have hle':¬ (0:Int)≤eH G[j]!.s l:=fun h=>hle (gq.1 h)
    have hr:(some ⟨pb,po,none⟩:Option Addr)=(if (0:Int)≤j∧(j:Int) < eB G hi then some ⟨pb,po,none⟩ else none):=by rw [if_pos]; exact ⟨by omega,by have:=(uU bc.f.wf (hi:=hi) hj).2 (fun h' e=>by rw [hn] at e; cases e; exact List.not_le.1 hle); omega⟩
    by_cases h0:ps=0
    ·have h0':(ps != 0)=false:=by rw [h0]; rfl
     refine AE @cb @c1 @c2 @s1 @e1 @c8 @fU @hle' @h0' ?_
     exact fin _ _ (.inr ⟨h0,rfl⟩) hr
    ·have h0':(ps != 0)=true:=by rw [bne_iff_ne]; exact h0
     refine AE @cb @c1 @c2 @s1 @e1 @c8 @fU @hle' @h0' ?_
     exact fin _ _ (.inl rfl) hr
 ·rw [jy hq]
  have hr:(none:Option Addr)=(if 0≤q∧q < eB G hi then some ⟨pb,po,none⟩ else none):=by rw [if_neg]; intro hh; exact hq (⟨hh.1,by have:=oY (G:=G) (hi:=hi); omega⟩)
  refine bA ?_
  refine bF (sq [0,1,2,3,4,5] (.read 6 (sq [7,8,9,10,11,12] (.read 13 (sq [14,15,16] (.read 17 (sq [18,19,20] (.read 21 (.eff 22 [] (sq [23,24] .done)))))))))) ?_
  by_cases h0:ps=0
  ·have h0':(ps != 0)=false:=by rw [h0]; rfl
   simp (disch:=first | exact dZ | fail) only [go_sem,c1,c8,fU,h0',Option.isSome_some,Option.isSome_none]
   exact fin _ _ (.inr ⟨h0,rfl⟩) hr
  ·have h0':(ps != 0)=true:=by rw [bne_iff_ne]; exact h0
   simp (disch:=first | exact dZ | fail) only [go_sem,c1,c8,fU,h0',Option.isSome_some,Option.isSome_none]
   exact fin _ _ (.inl rfl) hr
end
end Go.Proofs
end
section
namespace Go.E
open Go Go.Sort Go.Proofs
def Bd (d:World) (U pb po:Nat) (rt:TypeId) (rv lov hiv:Value) (lo hi:Option Bytes) (G:List Sp) (R:World→(Nat→Prop)→Int→Prop) (w:World) (S:Nat→Prop) (p:Int):Prop :=
 ∃ q is ps,R w S q∧BS d w U rt rv lov hiv lo hi is ps ∧
  (p = -2 ∨
   0≤p∧p < (GB G lo hi).length∧ps=0∧is=some ⟨pb,po,none⟩∧q=aB G lo+p ∨
   p=(GB G lo hi).length∧ps=0∧is=none∧q=aB G lo+p ∨
   p = -1∧ps=0∧is=none∧q=(aB G lo:Int) - 1 ∨
   p=(GB G lo hi).length∧ps=1∧is=some ⟨pb,po,none⟩∧q=aB G lo+p - 1∧0 < p ∨
   p = -1∧ps = -1∧is=some ⟨pb,po,none⟩∧q=aB G lo∧0 < (GB G lo hi).length)
def bT (U:Nat) (T:Nat→Nat→Prop):Nat→Nat→Prop:=fun b x=>T b x∨bM U b x
theorem gP (pb po:Nat) (G:List Sp) (q:Int):l8 pb po G q = .pointer (if 0≤q∧q < G.length then some ⟨pb,po,none⟩ else none):=by
 unfold l8
 split <;> rfl
section
variable {d w:World} {U pb po:Nat} {rt:TypeId} {rv lov hiv:Value} {lo hi:Option Bytes} {G:List Sp} {pF pL:Prop} {pK:Bytes→Prop} {T:Nat→Nat→Prop} {R:World→(Nat→Prop)→Int→Prop} {S:Nat→Prop} {q:Int} {ord:Int} {r:Option Addr}
theorem Bd.fwd (bc:BC d U pb po rt rv lo hi G pF pL pK T R ord) (h:R w S q) (b:BS d w U rt rv lov hiv lo hi r 0) (hr:r=(if 0≤q∧q < eB G hi then some ⟨pb,po,none⟩ else none)) (h1:aB G lo≤q) (h2:q≤eB G hi) :
    Bd d U pb po rt rv lov hiv lo hi G R w S (q - aB G lo)∧l8 pb po (GB G lo hi) (q - aB G lo) = .pointer r:=by
 have hab:=ru bc.f.wf bc.b
 have hl:=gD (G:=G) (lo:=lo) (hi:=hi)
 by_cases hq:q < eB G hi
 ·rw [if_pos ⟨by omega,hq⟩] at hr
  exact ⟨⟨q,r,0,h,b,.inr (.inl ⟨by omega,by omega,rfl,hr,by omega⟩)⟩,by rw [hr,mR (by omega) (by omega)]⟩
 ·rw [if_neg fun hh=>hq hh.2] at hr
  exact ⟨⟨q,r,0,h,b,.inr (.inr (.inl ⟨by omega,rfl,hr,by omega⟩))⟩,by rw [hr,jy (by omega)]⟩
theorem Bd.rg {p:Int} (h:Bd d U pb po rt rv lov hiv lo hi G R w S p) : -2≤p∧p≤(GB G lo hi).length:=by
 obtain ⟨q,is,ps,_,_,h | h | h | h | h | h⟩:=h <;> omega
end
end Go.E
namespace Go.Proofs
open Go Go.E Go.Sort
section
variable {k:aq} {d w:World} {U pb po:Nat} {rt:TypeId} {rv lov hiv:Value} {lo hi:Option Bytes} {is:Option Addr} {ps:Int} {G:List Sp} {pF pL:Prop} {pK:Bytes→Prop} {T:Nat→Nat→Prop} {R:World→(Nat→Prop)→Int→Prop} {S:Nat→Prop} {p q:Int} {ord:Int}
theorem BC.drew (bc:BC d U pb po rt rv lo hi G pF pL pK T R ord) (h:R w S q):R w.drew S q:=bc.f.keep h (M:=fun _ _=>False) (Keep.refl _ w).drew (fun _ _ _ h=>h.elim)
theorem zR  (bc:BC d U pb po rt rv lo hi G pF pL pK T R ord) (h:Bd d U pb po rt rv lov hiv lo hi G R w S p) (h1:pF∧lo=none)
    (hk:FK (.pointer none) pb po (GB G lo hi) (bT U T) (Bd d U pb po rt rv lov hiv lo hi G R) w S (0) k):ai Tryz.prog 211 #[.pointer (some ⟨U,72,none⟩)] k w:=by
 obtain ⟨q,is,ps,hR,b,_⟩:=h
 have c0:=b.c0
 have hab:=ru bc.f.wf bc.b
 have hle:=oY (G:=G) (hi:=hi)
 have hl:=gD (G:=G) (lo:=lo) (hi:=hi)
 skip
 refine al [.tmp 2] Tryz.func211 ?_
 refine bu @c0 ?_
 refine bc.f.first hR h1.1  fun w2 S2 r1 r2 r3 => ?_
 have b2:=b.keep r3 fun x h1 h2 _ hm=>by
  rcases hm with hm | hm
  ·exact bc.t x h1 h2 hm
  ·exact bc.s hR hm
 have hp:=gP pb po G (0)
 rw [hp]
 refine bA ?_
 refine jI b2 ?_
 rw [← hp]
 refine bA ?_
 refine rA bc (r1) (b2) fun w3 r r4 b3 k3 hr => ?_
 have k3:Keep (bM U) w2 w3:=by first | exact k3 | exact (Keep.refl _ w2).drew.trans k3
 obtain ⟨e1,e2⟩:=Bd.fwd bc r4 b3 hr (by rw [h1.2]; exact Int.le_refl _) (by omega)
 rw [show 0 - (aB G lo:Int)=0 by rw [h1.2]; rfl] at e1 e2
 refine bA ?_
 rw [← e2]
 refine hk w3 S2 e1 r2 ?_
 refine (r3.mono fun b x _ hm => ?_).trans (k3.mono fun b x _ hm => .inl (.inr hm))
 rcases hm with hm | hm
 ·exact .inl (.inl hm)
 ·exact .inr hm
end
end Go.Proofs
end
section
namespace Go.Proofs
open Go Go.E Go.Sort Go.Proofs.Tryz
section
variable {k:aq} {d w:World} {U pb po:Nat} {rt:TypeId} {rv lov hiv:Value} {lo hi:Option Bytes} {is:Option Addr} {ps:Int} {G:List Sp} {pF pL:Prop} {pK:Bytes→Prop} {T:Nat→Nat→Prop} {R:World→(Nat→Prop)→Int→Prop} {S:Nat→Prop} {p q:Int} {ord:Int}
theorem AU (b:BS d w U rt rv lov hiv lo hi is ps) (n:Int):BS d (w.setCell ⟨U,80,none⟩ (.int .i8 n)) U rt rv lov hiv lo hi is n∧Keep (bM U) w (w.setCell ⟨U,80,none⟩ (.int .i8 n)):=by
 have kk:Keep (bM U) w (w.setCell ⟨U,80,none⟩ (.int .i8 n)):=(Keep.refl _ w).set (fun _=>⟨rfl,by omega,by omega⟩)
 have c8:=b.c8
 have o:∀ {y v},y≠80→w.cell? ⟨U,y,none⟩=some v→(w.setCell ⟨U,80,none⟩ (.int .i8 n)).cell? ⟨U,y,none⟩=some v:=by
  intro y v h1 hv
  exact bX @hv
 exact ⟨⟨o (by omega) b.c0,o (by omega) b.c1,o (by omega) b.c2,o (by omega) b.c4,o (by omega) b.c5,o (by omega) b.c6,by rw [cJ,c8]; rfl,fun x=>by rw [kk.frozen U x (aC c8)]; exact b.fU x,b.lo,b.hi⟩,kk⟩
set_option maxHeartbeats 1000000 in
theorem BZ (bc:BC d U pb po rt rv lo hi G pF pL pK T R ord) (h:Bd d U pb po rt rv lov hiv lo hi G R w S p) (h1 : -1≤p) (h2:p < (GB G lo hi).length)
    (hk:FK (.pointer none) pb po (GB G lo hi) (bT U T) (Bd d U pb po rt rv lov hiv lo hi G R) w S (p+1) k):ai prog 213 #[.pointer (some ⟨U,72,none⟩)] k w:=by
 obtain ⟨q,is,ps,hR,b,hst⟩:=h
 have c0:=b.c0
 have c1:=b.c1
 have c2:=b.c2
 have c5:=b.c5
 have c6:=b.c6
 have c8:=b.c8
 have fU:=b.fU
 have hab:=ru bc.f.wf bc.b
 have hle:=oY (G:=G) (hi:=hi)
 have hl:=gD (G:=G) (lo:=lo) (hi:=hi)
 have m1:((-1:Int) == -1)=true:=by decide
 have m0:((0:Int) == -1)=false:=by decide
 have m00:((0:Int) == 0)=true:=by decide
 have kw:∀ w':World,Keep (fun b x=>bT U T b x∨S b) w' w':=fun w'=>Keep.refl _ w'
 rcases hst with hst | ⟨a0,a1,rfl,rfl,a4⟩ | ⟨a1,rfl,rfl,a4⟩ | ⟨a1,rfl,rfl,a4⟩ | ⟨a1,rfl,rfl,a4,a5⟩ | ⟨a1,rfl,rfl,a4,a5⟩
 ·omega
 ·
  obtain ⟨j,hj⟩:∃ j:Nat,q=j:=⟨q.toNat,by omega⟩
  have hjl:j < G.length:=by omega
  obtain ⟨_,⟨ev,e1,e2⟩,_,_⟩:=(bc.f.cur hR hj hjl).o (bc.f.inc hR)
  obtain ⟨ea,ec,rfl⟩:=aY e2
  have hinc:=bc.f.inc hR
  refine al [.tmp 2] func213 ?_
  rcases b.hi with ⟨hn,hv⟩ | ⟨l,la,ln,lc,hn,hv,hlb⟩
  ·rw [hv] at c5
   refine dQ @c8 @m0 @m00 ?_
   refine bF (sq [0,1,2] (.read 3 (sq [4,5,6,7,8] (.read 9 (sq [10,11,12,13,14,15] (.read 16 (sq [17,18,19] (.read 20 (sq [21,22] (.read 23 (sq [24,25,26] (.read 27 (.eff 28 [] (sq [29,30] .done)))))))))))))) ?_
   simp (disch:=first | exact dZ | fail) only [go_sem,c1,c5,c6,c0,Option.isSome_some,Option.isSome_none]
   have hR:=bc.drew hR
   have b:=b.drew
   have kw:=(Keep.refl (fun b x=>bT U T b x∨S b) w).drew
   refine bc.f.next hR (by omega) (by omega) fun w2 S2 r1 r2 r3 => ?_
   have b2:=b.keep r3 fun x h1 h2 _ hm=>by
    rcases hm with hm | hm
    ·exact bc.t x h1 h2 hm
    ·exact bc.s hR hm
   have hp:=gP pb po G ((q+1))
   rw [hp]
   refine bA ?_
   refine jI b2 ?_
   rw [← hp]
   refine bA ?_
   refine rA bc (r1) (b2) fun w3 r r4 b3 k3 hr => ?_
   have k3:Keep (bM U) w2 w3:=by first | exact k3 | exact (Keep.refl _ w2).drew.trans k3
   obtain ⟨e1,e2⟩:=Bd.fwd bc r4 b3 hr (by omega) (by omega)
   rw [show (q+1) - (aB G lo:Int)=p+1 by omega] at e1 e2
   refine bA ?_
   rw [← e2]
   refine hk w3 S2 e1 r2 ?_
   refine (kw.trans (r3.mono fun b x _ hm => ?_)).trans (k3.mono fun b x _ hm => .inl (.inr hm))
   rcases hm with hm | hm
   ·exact .inl (.inl hm)
   ·exact .inr hm
  ·rw [hv] at c5 hlb
   refine dQ @c8 @m0 @m00 ?_
   refine bF (sq [0,1,2] (.read 3 (sq [4,5,6,7,8] (.read 9 (sq [10,11,12,13,14,15] (.read 16 (sq [17,18,19] (.read 20 (sq [21,22] (.read 23 (sq [24,25,26] (.read 27 (.eff 28 [] (sq [29,30] .done)))))))))))))) ?_
   simp (disch:=first | exact dZ | fail) only [go_sem,c1,c5,c2,e1,Option.isSome_some,Option.isSome_none]
   refine dG (l1:=G[j]!.e) (by exact e2) (by exact hlb.inc hinc) ?_
   by_cases hge:l≤G[j]!.e
   ·have hge':(0:Int)≤eH G[j]!.e l:=gq.2 hge
    refine dQ @hge' @c8 @fU ?_
    have hend:eB G hi=j+1:=by
     rcases aH (j+1) (eB G hi) with h | h
     ·exfalso
      have a:=(uU bc.f.wf (hi:=hi) (show j+1 < G.length by omega)).1 h l hn
      have b:=bc.f.wf.2 j (j+1) (by omega) (by omega)
      exact List.not_lt.2 hge (fQ (List.not_lt.2 b) a)
     ·omega
    obtain ⟨b2,k2⟩:=AU b 1
    have k2:Keep (bM U) w (w.setCell ⟨U,80,none⟩ (.int .i8 1)).drew:=k2.drew
    have:=hk _ S ⟨q,_,1,bc.keep hR k2,b2.drew,.inr (.inr (.inr (.inr (.inl ⟨by omega,rfl,rfl,by omega,by omega⟩))))⟩ (fun _ h => .inl h) (k2.mono fun b x _ h => .inl (.inr h))
    rwa [jy (by omega)] at this
   ·have hge':¬ (0:Int)≤eH G[j]!.e l:=fun h=>hge (gq.1 h)
    simp (disch:=first | exact dZ | fail) only [go_sem,hge',c1,c6,c0,Option.isSome_some,Option.isSome_none]
    have hR:=bc.drew hR
    have b:=b.drew
    have kw:=(Keep.refl (fun b x=>bT U T b x∨S b) w).drew
    refine bc.f.next hR (by omega) (by omega) fun w2 S2 r1 r2 r3 => ?_
    have b2:=b.keep r3 fun x h1 h2 _ hm=>by
     rcases hm with hm | hm
     ·exact bc.t x h1 h2 hm
     ·exact bc.s hR hm
    have hp:=gP pb po G ((q+1))
    rw [hp]
    refine bA ?_
    refine jI b2 ?_
    rw [← hp]
    refine bA ?_
    refine rA bc (r1) (b2) fun w3 r r4 b3 k3 hr => ?_
    have k3:Keep (bM U) w2 w3:=by first | exact k3 | exact (Keep.refl _ w2).drew.trans k3
    obtain ⟨e1,e2⟩:=Bd.fwd bc r4 b3 hr (by omega) (by omega)
    rw [show (q+1) - (aB G lo:Int)=p+1 by omega] at e1 e2
    refine bA ?_
    rw [← e2]
    refine hk w3 S2 e1 r2 ?_
    refine (kw.trans (r3.mono fun b x _ hm => ?_)).trans (k3.mono fun b x _ hm => .inl (.inr hm))
    rcases hm with hm | hm
    ·exact .inl (.inl hm)
    ·exact .inr hm
 ·omega
 ·
  refine al [.tmp 2] func213 ?_
  refine dQ @c8 @m0 @m00 ?_
  refine bF (sq [0,1,2] (.read 3 (sq [4,5,6,7,8] (.read 9 (sq [10,11,12,13,14,15] (.read 16 (sq [17,18,19] (.read 20 (sq [21,22] (.read 23 (sq [24,25,26] (.read 27 (.eff 28 [] (sq [29,30] .done)))))))))))))) ?_
  simp (disch:=first | exact dZ | fail) only [go_sem,c1,c0,Option.isSome_none]
  have hR:=bc.drew hR
  have b:=b.drew
  have kw:=(Keep.refl (fun b x=>bT U T b x∨S b) w).drew
  refine bc.f.next hR (by omega) (by omega) fun w2 S2 r1 r2 r3 => ?_
  have b2:=b.keep r3 fun x h1 h2 _ hm=>by
   rcases hm with hm | hm
   ·exact bc.t x h1 h2 hm
   ·exact bc.s hR hm
  have hp:=gP pb po G ((q+1))
  rw [hp]
  refine bA ?_
  refine jI b2 ?_
  rw [← hp]
  refine bA ?_
  refine rA bc (r1) (b2) fun w3 r r4 b3 k3 hr => ?_
  have k3:Keep (bM U) w2 w3:=by first | exact k3 | exact (Keep.refl _ w2).drew.trans k3
  obtain ⟨e1,e2⟩:=Bd.fwd bc r4 b3 hr (by omega) (by omega)
  rw [show (q+1) - (aB G lo:Int)=p+1 by omega] at e1 e2
  refine bA ?_
  rw [← e2]
  refine hk w3 S2 e1 r2 ?_
  refine (kw.trans (r3.mono fun b x _ hm => ?_)).trans (k3.mono fun b x _ hm => .inl (.inr hm))
  rcases hm with hm | hm
  ·exact .inl (.inl hm)
  ·exact .inr hm
 ·omega
 ·
  refine al [.tmp 2] func213 ?_
  refine eO @c8 @c1 @m1 @fU ?_
  obtain ⟨b2,k2⟩:=AU b 0
  have:=hk _ S ⟨q,_,0,bc.keep hR k2,b2,.inr (.inl ⟨by omega,by omega,rfl,rfl,by omega⟩)⟩ (fun _ h => .inl h) (k2.mono fun b x _ h => .inl (.inr h))
  rwa [mR (by omega) (by omega)] at this
theorem zS (bc:BC d U pb po rt rv lo hi G pF pL pK T R ord) (h:Bd d U pb po rt rv lov hiv lo hi G R w S p) (hk:∀ w',Bd d U pb po rt rv lov hiv lo hi G R w' S p→bp w w'→k .nilIface w'):ai prog 210 #[.pointer (some ⟨U,72,none⟩)] k w:=by
 obtain ⟨q,is,ps,hR,b,hst⟩:=h
 have c0:=b.c0
 refine al [.tmp 2] func210 ?_
 refine bu @c0 ?_
 refine bc.f.error hR fun w2 r1 r2 => ?_
 refine bA ?_
 exact hk w2 ⟨q,is,ps,r1,b.keep r2 fun _ _ _ _ h=>h,hst⟩ r2
theorem Ly (bc:BC d U pb po rt rv lo hi G pF pL pK T R ord):FJ prog (.iface 232 (.pointer (some ⟨U,72,none⟩))) d pb po ord (GB G lo hi) (pF∧lo=none) False (fun _=>False) (bT U T) (Bd d U pb po rt rv lov hiv lo hi G R) where
 wf:=Jc bc.f.wf
 small:=by
  rw [gD]
  have:=bc.f.small
  have:=oY (G:=G) (hi:=hi)
  omega
 inc h:=by obtain ⟨q,is,ps,hR,_⟩:=h; exact bc.f.inc hR
 rg h:=h.rg
 cur {w S p j} h hp hj:=by
  obtain ⟨q,is,ps,hR,b,hst⟩:=h
  rw [xT hj]
  refine bc.f.cur hR ?_ ?_
  ·rcases hst with h | h | h | h | h | h <;> omega
  ·have:=gD (G:=G) (lo:=lo) (hi:=hi)
   have:=oY (G:=G) (hi:=hi)
   omega
 keep {w w2 S p M} h hk hM:=by
  obtain ⟨q,is,ps,hR,b,hst⟩:=h
  refine ⟨q,is,ps,bc.f.keep hR hk fun b x hb hm => ?_,b.keep hk fun x h1 h2 hb hm=>(hM _ _ hb hm).1 (.inr ⟨rfl,h1,h2⟩),hst⟩
  obtain ⟨a1,a2,a3⟩:=hM b x hb hm
  exact ⟨fun h=>a1 (.inl h),a2,a3⟩
 outS h b hb:=by obtain ⟨q,is,ps,hR,_⟩:=h; exact bc.f.outS hR b hb
 outT h:=by
  rcases h with h | ⟨rfl,_⟩
  ·exact bc.f.outT h
  ·exact bc.o _
 next h h1 h2 hk:=by
  rw [Tryz.iv232_Next]
  exact BZ bc h h1 h2 hk
 prev _ h _ _:=h.elim
 first h h1 hk:=by
  rw [Tryz.iv232_First]
  exact zR bc h h1 hk
 last _ h _:=h.elim
 seekGE _ h _ _ _:=h.elim
 seekLT _ h _ _ _:=h.elim
 error h hk:=by
  rw [Tryz.iv232_Error]
  exact zS bc h hk
end
end Go.Proofs
end
section
namespace Go.E
open Go Go.Sort Go.Proofs Go.Proofs.Tryz
theorem Gq {P:Program} {k:aq} {w:World} {t el:TypeId} {sz by_:Nat} {c:Nat} (h:gM P t=some (el,sz,by_)) (hb:by_ * c≤281474976710656) (hc:c≤9223372036854775807)
    (hk:∀ w2,w2.ownsRow 0 el sz (.slice (some ⟨w.heap.size,0,none⟩) 0 c) 0 []→bp w w2→k (.slice (some ⟨w.heap.size,0,none⟩) 0 c) w2):JP P t (.int .i64 0) (.int .i64 c) k w:=by
 obtain ⟨i,z,h1,h2,h3,rfl,rfl,h6,h7⟩:=iP h
 obtain ⟨w2,hr,o,g⟩:=run_make_own (P:=P) (w:=w) 0 t el i z i.size h1 h2 h3 rfl .i64 .i64 c hb (by unfold maxLen; omega) (aT _)
 simp only [JP,dH,hr]
 exact hk w2 o (jR g (by simp) (by simp))
theorem ry {w:World} {g n m cap:Nat} {xs:List Value} {e:TypeId} (h:w.ownsRow 0 e 1 (.slice (some ⟨g,0,none⟩) n cap) n xs) (hn:n≤m) (hm:m≤cap):∃ ys,w.ownsRow 0 e 1 (.slice (some ⟨g,0,none⟩) m cap) m ys∧ys.take n=xs:=by
 rcases h.2 with ⟨hv,_⟩ | ⟨g',cap',cur,hv,hb,hc,hn',hmx,hs,ht⟩
 ·simp at hv
 ·simp only [aU,aP,Addr.mk.injEq,true_and,and_true] at hv
  obtain ⟨rfl,rfl⟩:=hv
  refine ⟨cur.toList.take m,⟨by simp [hs]; omega,.inr ⟨g,cap,cur,rfl,hb,hc,hm,hmx,hs,by rw [Nat.mul_one]⟩⟩,?_⟩
  rw [List.take_take,Nat.min_eq_left hn]
  simpa using ht
end Go.E
namespace Go.Proofs
open Go Go.E Go.Sort Go.Proofs.Tryz
section
variable {k:aq} {d w:World}
theorem xU {a:Option Addr} {n cap m:Nat} (hc:cap≤8589934592) (hm:m≤4294967296)
    (hk:∀ c w2,m≤c→c≤8589934592→w2.ownsRow 0 5 1 (.slice (some ⟨w.heap.size,0,none⟩) 0 c) 0 []→bp w w2→k (.slice (some ⟨w.heap.size,0,none⟩) 0 c) w2):ai prog 237 #[.slice a n cap,.int .i64 m] k w:=by
 have e1:IntKind.i64.wrap ((cap:Int) * 2)=((cap * 2:Nat):Int):=by rw [dP (by omega) (by omega)]; omega
 have fin:∀ (c:Nat),c≤4294967296∨c=524288→(c:Int)=c→True:=fun _ _ _=>trivial
 refine al [.tmp 4] func237 ?_
 refine bu @e1 ?_
 refine mW (fun s:Nat=>[(1,.int .i64 m),(5,.int .i64 s)]) (fun s w'=>w'=w∧s≤524288) (by kernel_rfl) (by kernel_rfl) (fun K hK => ?_) ?_
 ·by_cases h1:cap * 2 < 512
  ·have h1':((cap * 2:Nat):Int) < 512:=by omega
   refine bu @h1' ?_
   refine hK _ _ 512 ?_ ⟨rfl,by omega⟩
   exact bU
  ·have h1':¬ ((cap * 2:Nat):Int) < 512:=by omega
   by_cases h2:524288 < cap * 2
   ·have h2':(524288:Int) < ((cap * 2:Nat):Int):=by omega
    refine dO @h1' @h2' ?_
    refine hK _ _ 524288 ?_ ⟨rfl,by omega⟩
    exact bU
   ·have h2':¬ (524288:Int) < ((cap * 2:Nat):Int):=by omega
    refine dO @h1' @h2' ?_
    refine hK _ _ (cap * 2) ?_ ⟨rfl,by omega⟩
    exact bU
 ·rintro e s w1 ⟨rfl,hs⟩
  by_cases h3:s < m
  ·have h3':(s:Int) < m:=by omega
   refine bu @h3' ?_
   refine Gq (c:=m) rw56 (by omega) (by omega) fun w2 o2 x2 => ?_
   refine bA ?_
   exact hk m w2 (aF _) (by omega) o2 x2
  ·have h3':¬ (s:Int) < m:=by omega
   refine bu @h3' ?_
   refine Gq (c:=s) rw56 (by omega) (by omega) fun w2 o2 x2 => ?_
   refine bA ?_
   exact hk s w2 (by omega) (by omega) o2 x2
end
end Go.Proofs
end
section
namespace Go.E
open Go Go.Sort Go.Proofs Go.Proofs.Tryz
theorem Jd {P:Program} {t:TypeId} {n:Nat} (h:jn P t=some n) {a:Option Addr} {len cap:Nat} {kd kd2 kd3:IntKind} {l i m:Int} {q:Value→Prop} (c1:0≤l) (c2:l≤i) (c3:i≤m) (c4:m≤cap) :
    cz P t (.slice a len cap) (some (.int kd l)) (some (.int kd2 i)) (some (.int kd3 m)) q=q (.slice (if m=l then a else a.map (·.add (l.toNat * n))) (i.toNat - l.toNat) (m.toNat - l.toNat)):=by
 rw [eW h rfl rfl c1 (by simpa [bd] using c2) (by simpa [bd] using c3) (by simpa [bd] using c4) (by simp)]
 rfl
theorem Gs {P:Program} {k:aq} {w:World} {dT sT ty el:TypeId} {by_:Nat} {b o n c:Nat} {v:Value} {l:List Value} (h:gM P dT=some (el,1,by_)) (hl:l.length=n) (hn:0 < n) (hv:rW w v n l) (h1:∀ u ∈ l,u.oneCell'=true) (hc:∀ j,j < n→(w.cell? ⟨b,o+j,none⟩).isSome=true) (hf:∀ j,w.frozen? ⟨b,j,none⟩=false)
    (hk:k (.int .i64 n) (w.setCells b o l)):Cj P #[dT,sT] ty #[.slice (some ⟨b,o,none⟩) n c,v] k w:=by
 obtain ⟨i,z,e1,e2,e3,e4,e5,e6,e7⟩:=iP h
 unfold rW at hv
 split at hv
 ·omega
 ·rename_i a m cc
  obtain ⟨rfl,hv2⟩:=hv
  have:=run_copy_cells (P:=P) w dT sT ty el b o m c a m cc l e1 (by rw [e2]; simpa using e4) (by rw [hl]; exact (Nat.min_self m).symm) hv2 (fun j hj=>hc j (by omega)) (fun j _=>hf _) h1
  simp only [Cj,dH,this,hl]
  exact hk
 ·exact hv.elim
theorem xV {w:World} {g n cap o:Nat} {xs:List Value} {e:TypeId} {sz:Nat} (l:List Value) (h:w.ownsRow 0 e sz (.slice (some ⟨g,0,none⟩) n cap) n xs):∃ zs,(w.setCells g o l).ownsRow 0 e sz (.slice (some ⟨g,0,none⟩) n cap) n zs:=by
 induction l generalizing w o xs with
 | nil=>exact ⟨xs,h⟩
 | cons v l ih=>exact ih (cR h o v)
theorem kA {w w0:World} {g:Nat} {M:Nat→Nat→Prop} (l:List Value) (o:Nat) (h:Keep M w0 w) (hm:∀ j,j < l.length→M g (o+j)):Keep M w0 (w.setCells g o l):=by
 induction l generalizing w o with
 | nil=>exact h
 | cons v l ih =>
  refine ih (o+1) (h.set fun _=>by simpa using hm 0 (by simp)) fun j hj => ?_
  have:=hm (j+1) (by simp; omega)
  rwa [show o+1+j=o+(j+1) by omega]
theorem zT {P:Program} {k:aq} {w:World} {dT sT ty el:TypeId} {by_:Nat} {a:Option Addr} {c:Nat} {a2:Option Addr} {n2 c2:Nat} (h:gM P dT=some (el,1,by_)) (hk:k (.int .i64 0) w):Cj P #[dT,sT] ty #[.slice a 0 c,.slice a2 n2 c2] k w:=by
 obtain ⟨i,z,e1,e2,e3,e4,e5,e6,e7⟩:=iP h
 have:=run_copy_none (P:=P) w dT sT ty el a a2 0 c n2 c2 e1 (by rw [e2]; simpa using e4) (Nat.min_zero _)
 simp only [Cj,dH,this]
 exact hk
end Go.E
namespace Go.Proofs
open Go Go.E Go.Sort Go.Proofs.Tryz
section
variable {k:aq} {d w:World}
theorem Bb {va:Option Addr} {len cap n:Nat} (hlc:len≤cap) (hc:cap≤8589934592) (hn:n≤4294967296)
    (hA:len+n≤cap→k (.tuple #[.slice va (len+n) cap,.slice (if n=0 then va else va.map (·.add len)) n n]) w)
    (hB:¬ len+n≤cap→∀ c w2,n≤c→c≤8589934592→w2.ownsRow 0 5 1 (.slice (some ⟨w.heap.size,0,none⟩) 0 c) 0 []→bp w w2→k (.tuple #[.slice (some ⟨w.heap.size,0,none⟩) n c,.slice (some ⟨w.heap.size,0,none⟩) n n]) w2) :
    ai prog 236 #[.slice va len cap,.int .i64 n] k w:=by
 have e1:IntKind.i64.wrap ((cap:Int) - len)=((cap - len:Nat):Int):=by rw [dP (by omega) (by omega)]; omega
 refine al [.tmp 4,.tmp 5] func236 ?_
 by_cases h1:len+n≤cap
 ·have h1':¬ ((cap - len:Nat):Int) < n:=by omega
  have e2:IntKind.i64.wrap ((len:Int)+n)=((len+n:Nat):Int):=by rw [dP (by omega) (by omega)]; omega
  have c1:(0:Int)≤len:=by omega
  have c2:(len:Int)≤((len+n:Nat):Int):=by omega
  have c3:((len+n:Nat):Int)≤cap:=by omega
  have c4:(0:Int)≤((len+n:Nat):Int):=by omega
  simp (disch:=first | exact dZ | fail) only [go_sem,e1,h1',e2,Jd Tryz.es194 c1 c2 (Int.le_refl _) c3,pG Tryz.es194 c4 c3]
  have:=hA h1
  have ei:(if ((len+n:Nat):Int)=(len:Int) then va else va.map (·.add (len * 1)))=(if n=0 then va else va.map (·.add len)):=by
   rw [Nat.mul_one]
   by_cases h0:n=0
   ·rw [if_pos h0,if_pos (by omega)]
   ·rw [if_neg h0,if_neg (by omega)]
  rw [Nat.add_sub_cancel_left,ei]
  exact this
 ·have h1':((cap - len:Nat):Int) < n:=by omega
  refine dO @e1 @h1' ?_
  refine xU hc hn fun c w2 hnc hcc o2 x2 => ?_
  have e2:IntKind.i64.wrap ((0:Int)+n)=n:=by rw [dP (by omega) (by omega)]; omega
  have e3:IntKind.i64.wrap ((n:Int))=n:=by rw [dP (by omega) (by omega)]
  have c1:(0:Int)≤0:=by decide
  have c2:(0:Int)≤n:=by omega
  have c3:(n:Int)≤c:=by omega
  have z0:((0:Nat):Int)=0:=rfl
  simp (disch:=first | exact dZ | fail) only [go_sem,z0,Int.zero_add,e2,e3,Jd Tryz.es194 c1 c2 (Int.le_refl _) c3,pG Tryz.es194 c2 c3]
  have hn0:¬ ((n:Int)=0):=by omega
  rw [if_neg hn0]
  have:=hB h1 c w2 hnc hcc o2 x2
  exact this
theorem Dx {v src:Value} {xs:List Value} {l:Bytes} {vcap:Nat} (o:w.ownsRow 0 5 1 v xs.length xs) (hv:∃ a,v = .slice a xs.length vcap) (hc:vcap≤8589934592) (hs:dR w src l) (hl:l.length≤4294967296)
    (hk:∀ w2 (v2:Value) (ys:List Value) (vcap2:Nat) (pa:Option Addr),w2.ownsRow 0 5 1 v2 ys.length ys→(∃ a,v2 = .slice a ys.length vcap2)→vcap2≤8589934592→cZ w v v2→Keep (fun b x=>v.ownBlock=some b∧xs.length≤x) w w2→dR w2 (.slice pa l.length l.length) l →
     (0 < l.length→∃ g off,v2.ownBlock=some g∧pa=some ⟨g,off,none⟩∧off+l.length≤ys.length∧(v.ownBlock=some g→xs.length≤off))→(v2.ownBlock=v.ownBlock→xs.length≤ys.length)→k (.tuple #[v2,.slice pa l.length l.length]) w2) :
    ai prog 235 #[v,src] k w:=by
 obtain ⟨va,rfl⟩:=hv
 obtain ⟨sa,sc,rfl⟩:=aY hs
 have hxc:xs.length≤vcap:=by
  obtain ⟨_,_,e,h,_⟩:=bP o
  simp only [aU,true_and] at e
  rw [e.2]; exact h
 refine al [.tmp 4,.tmp 5] func235 ?_
 refine bA ?_
 refine Bb hxc hc hl (fun hr => ?_) (fun hr c w2 hnc hcc o2 x2 => ?_)
 ·
  refine bA ?_
  by_cases h0:l.length=0
  ·rw [if_pos h0]
   have hl0:l=[]:=ak.1 h0
   subst hl0
   simp only [List.length_nil,Nat.add_zero]
   refine zT rw56 ?_
   refine bA ?_
   refine hk w (.slice va xs.length vcap) xs vcap va o ⟨va,rfl⟩ hc (cZ.refl _ _) (Keep.refl _ w) ?_ (fun h=>by simp at h) (fun _=>aF _)
   cases va with
   | none=>exact ⟨rfl,rfl⟩
   | some a =>
    rcases cg o with ⟨e,_⟩ | ⟨g,c',e,_⟩
    ·simp at e
    ·simp only [aU,aP] at e
     rw [e.1]
     exact ⟨rfl,rfl,fun i x hx=>by simp [eF] at hx⟩
  ·rw [if_neg h0]
   obtain ⟨g,hg⟩:∃ g,va=some ⟨g,0,none⟩:=by
    rcases cg o with ⟨e,h,_⟩ | ⟨g,c',e,_⟩
    ·simp only [aU] at e
     omega
    ·simp only [aU] at e
     exact ⟨g,e.1⟩
   subst hg
   obtain ⟨ys,oy,hy⟩:=ry o (Nat.le_add_right _ l.length) hr
   have hyl:=oy.1
   rw [Nat.mul_one] at hyl
   have ea:(Option.map (·.add xs.length) (some (⟨g,0,none⟩:Addr)))=some ⟨g,xs.length,none⟩:=by
    show some ((⟨g,0,none⟩:Addr).add xs.length)=_
    rw [dS rfl,Nat.zero_add]
   rw [ea]
   refine Gs (n:=l.length) (l:=eF l) rw56 (cP l) (by omega) (ie hs) (ig l) (fun j hj => ?_) (fun j=>cl oy rfl j) ?_
   ·have:ys[xs.length+j]? = some ys[xs.length+j]:=aD (by omega)
    rw [bW oy this]; rfl
   refine bA ?_
   obtain ⟨zs,oz⟩:=xV (o:=xs.length) (eF l) oy
   have hzl:=oz.1
   rw [Nat.mul_one] at hzl
   rw [← hzl] at oz
   have hin:=World.cell?_setCells_in g (eF l) xs.length w (fun j hj=>by
    rw [cP] at hj
    have:ys[xs.length+j]? = some ys[xs.length+j]:=aD (by omega)
    rw [bW oy this]; rfl)
   have:=hk (w.setCells g xs.length (eF l)) (.slice (some ⟨g,0,none⟩) zs.length vcap) zs vcap (some ⟨g,xs.length,none⟩) oz ⟨_,rfl⟩ hc (fun g' hg' => .inl hg') (kA _ _ (Keep.refl _ w) fun j hj=>⟨rfl,by omega⟩) ⟨rfl,rfl,fun i x hx=>by
    obtain ⟨hi,e⟩:=aQ.1 hx
    rw [← e]
    exact hin i hi⟩ (fun _=>⟨g,xs.length,rfl,rfl,by omega,fun _=>aF _⟩) (fun _=>by omega)
   rw [hzl] at this
   exact this
 ·
  have hl0:0 < l.length:=by omega
  have k12:=x2
  have hs2:=hs.keep x2 fun _ _ _ _ _ _ h=>h
  obtain ⟨ys,oy,hy⟩:=ry o2 (aT l.length) hnc
  have hyl:=oy.1
  rw [Nat.mul_one] at hyl
  refine bA ?_
  refine Gs (n:=l.length) (l:=eF l) rw56 (cP l) (by omega) (ie hs2) (ig l) (fun j hj => ?_) (fun j=>cl oy rfl j) ?_
  ·have:ys[0+j]? = some ys[0+j]:=aD (by omega)
   rw [bW oy this]; rfl
  refine bA ?_
  obtain ⟨zs,oz⟩:=xV (o:=0) (eF l) oy
  have hzl:=oz.1
  rw [Nat.mul_one] at hzl
  rw [← hzl] at oz
  have hin:=World.cell?_setCells_in w.heap.size (eF l) 0 w2 (fun j hj=>by
   rw [cP] at hj
   have:ys[0+j]? = some ys[0+j]:=aD (by omega)
   rw [bW oy this]; rfl)
  have kk:Keep (fun b x=>(Value.slice va xs.length vcap).ownBlock=some b∧xs.length≤x) w (w2.setCells w.heap.size 0 (eF l)):=by
   have h1:Keep (fun b _=>w.heap.size≤b) w (w2.setCells w.heap.size 0 (eF l)):=kA _ _ x2.keep fun j _=>aF _
   exact h1.mono fun b x hb h=>by omega
  have:=hk (w2.setCells w.heap.size 0 (eF l)) (.slice (some ⟨w.heap.size,0,none⟩) zs.length c) zs c (some ⟨w.heap.size,0,none⟩) oz ⟨_,rfl⟩ hcc (fun g' hg' => .inr (by cases hg'; exact aF _)) kk ⟨rfl,rfl,fun i x hx=>by
   obtain ⟨hi,e⟩:=aQ.1 hx
   rw [← e]
   exact hin i hi⟩ (fun _=>⟨w.heap.size,0,rfl,rfl,by omega,fun h=>by have:=(o.lt _ h).2; omega⟩) (fun h=>by have:=(o.lt w.heap.size (h.symm.trans rfl)).2; exact absurd this (iW _))
  rw [hzl] at this
  exact this
end
end Go.Proofs
end
section
namespace Go.E
open Go.Lib
end Go.E
end
section
namespace Go.E
open Go Go.Sort Go.Proofs Go.Proofs.Tryz
open Go.Lib (uvarint uvarint_small uvarint_big uvarint_length uvarint_pos)
def wr (L:Bytes):Nat→Bytes→Bytes
 | _,[]=>L
 | p,b :: bs=>wr (L.set p b) (p+1) bs
theorem eR (L:Bytes) (p:Nat) (a b:Bytes):wr L p (a++b)=wr (wr L p a) (p+a.length) b:=by
 induction a generalizing L p with
 | nil=>rfl
 | cons x a ih=>rw [List.cons_append,wr,ih,wr,aZ,show p+1+a.length=p+(a.length+1) by omega]
theorem Be (L:Bytes) (p:Nat) (a:Bytes):(wr L p a).length=L.length:=by
 induction a generalizing L p with
 | nil=>rfl
 | cons x a ih=>rw [wr,ih,cq]
theorem Hk (L:Bytes) (p:Nat) (a:Bytes) (i:Nat):(wr L p a)[i]? = if p≤i∧i < p+a.length∧i < L.length then a[i - p]? else L[i]? := by
 induction a generalizing L p with
 | nil=>rw [wr,if_neg (by simp; omega)]
 | cons x a ih =>
  rw [wr,ih,cq,aZ]
  by_cases h1:p+1≤i∧i < p+1+a.length∧i < L.length
  ·rw [if_pos h1,if_pos (by omega),show i - p=(i - (p+1))+1 by omega,List.getElem?_cons_succ]
  ·rw [if_neg h1]
   by_cases h2:i=p
   ·subst h2
    by_cases h3:i < L.length
    ·rw [if_pos (by omega),Nat.sub_self,List.getElem?_set_self h3]
     rfl
    ·rw [if_neg (by omega),List.getElem?_eq_none (by rw [cq]; omega),List.getElem?_eq_none (by omega)]
   ·rw [List.getElem?_set_ne (Ne.symm h2),if_neg (by omega)]
theorem AV (L a:Bytes) (h:a.length≤L.length):(wr L 0 a).take a.length=a:=by
 apply List.ext_getElem?
 intro i
 rw [List.getElem?_take]
 split
 ·rw [Hk,if_pos (by omega),Nat.sub_zero]
 ·rw [List.getElem?_eq_none (by omega)]
theorem vZ (L:Bytes) (p:Nat) (b:UInt8):eF (L.set p b)=(eF L).set p (.int .u8 b.toNat):=by unfold eF; rw [List.map_set]
theorem Hl {w:World} {g n cap:Nat} {e:TypeId} (L:Bytes) (p:Nat) (a:Bytes) (h:w.ownsRow 0 e 1 (.slice (some ⟨g,0,none⟩) n cap) n (eF L)):(w.setCells g p (eF a)).ownsRow 0 e 1 (.slice (some ⟨g,0,none⟩) n cap) n (eF (wr L p a)):=by
 induction a generalizing w L p with
 | nil=>exact h
 | cons v a ih =>
  refine ih (L.set p v) (p+1) ?_
  rw [vZ]
  exact cR h p _
def vl (x:Nat):Nat:=(uvarint x).length
theorem rz {x:Nat} (h:x < 128):vl x=1:=by unfold vl; rw [uvarint_small h]; rfl
theorem Dy {x:Nat} (h:128≤x):vl x=vl (x / 128)+1:=by unfold vl; rw [uvarint_big h]; rfl
theorem fW (x:Nat):1≤vl x:=uvarint_pos x
theorem jT {x:Nat} (h:x < 4294967296):vl x≤5:=uvarint_length 4 x (aL h (by decide))
theorem Dz (y:Nat):IntKind.u8.wrap ((BitVec.ofInt 8 (IntKind.u8.wrap (y:Int)) ||| BitVec.ofInt 8 128).toNat:Int)=(((y % 128+128).toUInt8.toNat:Nat):Int):=by
 have hw:IntKind.u8.wrap (y:Int)=((y % 256:Nat):Int):=by
  rw [show IntKind.u8.wrap (y:Int)=(y:Int) % 256 from rfl]; omega
 have h1:(BitVec.ofInt 8 ((y % 256:Nat):Int) ||| BitVec.ofInt 8 128).toNat=(y % 256) ||| 128:=by
  rw [BitVec.toNat_or,BitVec.toNat_ofInt,BitVec.toNat_ofInt]
  congr 1
  omega
 have h2:((y % 256) ||| 128)=y % 256 % 128+128:=Lib.or128_nat ⟨y % 256,Nat.mod_lt _ (by decide)⟩
 have h3:(y % 128+128).toUInt8.toNat=y % 128+128:=by rw [UInt8.toNat_ofNat']; omega
 rw [hw,h1,h2,h3,show IntKind.u8.wrap ((y % 256 % 128+128:Nat):Int)=((y % 256 % 128+128:Nat):Int) % 256 from rfl]
 omega
theorem Lz {y:Nat} (h:y < 128):IntKind.u8.wrap (y:Int)=((y.toUInt8.toNat:Nat):Int):=by
 have h3:y.toUInt8.toNat=y:=by rw [UInt8.toNat_ofNat']; omega
 rw [h3,show IntKind.u8.wrap (y:Int)=(y:Int) % 256 from rfl]
 omega
end Go.E
namespace Go.Proofs
open Go Go.E Go.Sort Go.Proofs.Tryz
open Go.Lib (uvarint uvarint_small uvarint_big)
section
variable {k:aq} {w:World}
theorem oZ {g m p r c x:Nat} {L:Bytes} (o:w.ownsRow 0 5 1 (.slice (some ⟨g,0,none⟩) m m) m (eF L)) (hr:vl x≤r) (hp:p+r≤m) (hx:x < 4294967296)
    (hk:∀ w2,w2.ownsRow 0 5 1 (.slice (some ⟨g,0,none⟩) m m) m (eF (wr L p (uvarint x)))→Keep (fun b _=>b=g) w w2→k (.int .i64 (vl x)) w2) :
    ai prog 117 #[.slice (some ⟨g,p,none⟩) r c,.int .u64 x] k w:=by
 have hL:L.length=m:=by have:=o.1; simpa [eF] using this
 have hv:=jT hx
 refine al [.tmp 4] func117 ?_
 refine bA ?_
 refine bZ (fun b:Nat × Nat=>[(0,.slice (some ⟨g,p,none⟩) r c),(1,.int .u64 b.2),(5,.int .i64 b.1)])
  (fun b w'=>b.2≤x∧(∃ dn:Bytes,dn++uvarint b.2=uvarint x∧dn.length=b.1∧w'.ownsRow 0 5 1 (.slice (some ⟨g,0,none⟩) m m) m (eF (wr L p dn)))∧Keep (fun b _=>b=g) w w') (fun b _=>b.2) (0,x) (by kernel_rfl) ?_ ⟨aF _,⟨[],rfl,rfl,o⟩,Keep.refl _ w⟩ ?_
 ·exact bU
 rintro K2 e ⟨i,y⟩ w1 ⟨i2,⟨dn,i3,i4,i5⟩,i6⟩ hK2
 simp only at i2 i3 i4
 have hlen:vl x=i+vl y:=by unfold vl; rw [← i3,aE,i4]
 have hvy:=fW y
 have fz:∀ o,w1.frozen? ⟨g,o,none⟩=false:=cl i5 rfl
 obtain ⟨z,hz⟩:∃ z,w1.cell? ⟨g,p+i,none⟩=some z:=⟨_,bW i5 (aD (by simp [eF,Be]; omega))⟩
 have hi0:(0:Int)≤i:=by omega
 have hir:(i:Int) < r:=by omega
 rcases aH y 128 with h | h
 ·have h':¬ (128:Int)≤y:=by omega
  have e1:IntKind.i64.wrap ((i:Int)+1)=((vl x:Nat):Int):=by rw [rz h] at hlen; rw [dP (by omega) (by omega)]; omega
  simp (disch:=first | exact dZ | fail) only [go_sem,h',Nat.mul_one,hz,fz,Lz h,e1]
  refine hk _ ?_ (i6.set fun _=>rfl)
  have:=cR i5 (p+i) (.int .u8 (y.toUInt8.toNat:Nat))
  rw [← vZ] at this
  rw [← i3,eR,uvarint_small h,i4]
  exact this
 ·have h':(128:Int)≤y:=by omega
  have e1:IntKind.i64.wrap ((i:Int)+1)=((i+1:Nat):Int):=by rw [dP (by omega) (by omega)]; omega
  have e2:=DZ (a:=y) (s:=7) (n:=7) (m:=128) rfl rfl
  refine vJ @h' @Nat.mul_one @hz @fz @Dz @e1 @e2 ?_
  refine hK2 _ _ (i+1,y / 128) ?_ ⟨?_,⟨dn++[(y % 128+128).toUInt8],?_,?_,?_⟩,?_⟩ ?_
  ·exact bU
  ·simp only; omega
  ·simp only
   rw [← i3,uvarint_big h,ax]; rfl
  ·simp [i4]
  ·have:=cR i5 (p+i) (.int .u8 ((y % 128+128).toUInt8.toNat:Nat))
   rw [← vZ] at this
   rw [eR,i4]
   have e3:IntKind.u8.wrap ((BitVec.ofInt IntKind.u8.bits (IntKind.u8.wrap (y:Int)) ||| BitVec.ofInt IntKind.u8.bits 128).toNat:Int)=(((y % 128+128).toUInt8.toNat:Nat):Int):=Dz y
   erw [e3]
   exact this
  ·exact i6.set fun _=>rfl
  ·simp only; omega
theorem gQ {x:Nat} (hx:x < 4294967296) (hk:k (.int .i64 (vl x)) w):ai prog 115 #[.int .i64 x] k w:=by
 have e0:IntKind.u32.wrap (x:Int)=x:=by rw [show IntKind.u32.wrap (x:Int)=(x:Int) % 4294967296 from rfl]; omega
 have hv:=jT hx
 refine al [.tmp 2] func115 ?_
 have e01:IntKind.i64.wrap ((0:Int)+1)=1:=by decide
 refine dO @e0 @e01 ?_
 refine bZ (fun b:Nat × Nat=>[(2,.int .i64 b.1),(3,.int .u32 b.2)])
  (fun b w'=>w'=w∧b.2≤x∧1≤b.1∧b.1+vl b.2=vl x+1) (fun b _=>b.2) (1,x) (by kernel_rfl) ?_ ⟨rfl,aF _,aF _,Nat.add_comm _ _⟩ ?_
 ·exact bU
 rintro K2 e ⟨i,y⟩ w1 ⟨rfl,i2,i3,i4⟩ hK2
 simp only at i2 i3 i4
 rcases aH y 128 with h | h
 ·have h':¬ (128:Int)≤y:=by omega
  rw [rz h] at i4
  obtain rfl:i=vl x:=by omega
  refine bu @h' ?_
  exact hk
 ·have h':(128:Int)≤y:=by omega
  have hvy:=fW y
  have e1:IntKind.i64.wrap ((i:Int)+1)=((i+1:Nat):Int):=by rw [dP (by omega) (by omega)]; omega
  have e2:((y:Int)).fdiv (2 ^ min (Int.toNat 7) 32)=((y / 128:Nat):Int):=DY y rfl
  rw [Dy h] at i4
  refine dQ @h' @e1 @e2 ?_
  refine hK2 _ _ (i+1,y / 128) ?_ ⟨rfl,?_,?_,?_⟩ ?_
  ·exact bU
  ·simp only; omega
  ·simp only; omega
  ·simp only; omega
  ·simp only; omega
end
end Go.Proofs
end
