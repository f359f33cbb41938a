/- Parts of the proof: Fs, Fn, Fp, Mi, Mj, Mk, Pm, Ms, Mt, Fj. -/
import Derived.Test.YtlmoafgebiffaaaGreatDoorV10
set_option linter.all false
set_option maxRecDepth 10000
section
namespace Go.E
open Go Go.Sort Go.Proofs
structure St (d w:World) (U o Bf:Nat) (Z:TX) (Ls:Array Lvl) (S:Nat→Prop) (pos:Nat→Int) (rev:Bool) (hp:Array Nat) (vk vb:Value) (vs:Nat→Prop) (lk:List KR) (xb:List Value):Prop where
 g:MB d w U o Bf 0 Ls pos
 h:MH w U o Bf 0 Ls pos rev hp
 u:MU w U o Z
 r:MR d w U o Bf Z Ls S vk vb vs lk xb
structure Lt (w w':World) (U o Bf:Nat) (Z:TX) (Ls:Array Lvl) (S S':Nat→Prop):Prop where
 s:∀ b,S' b→S b∨w.heap.size≤b
 k:Keep (JZ U o Bf Z Ls S) w w'
 e:w'.cell? ⟨U,o+9,none⟩=w.cell? ⟨U,o+9,none⟩
theorem Lt.refl (w:World) (U o Bf:Nat) (Z:TX) (Ls:Array Lvl) (S:Nat→Prop):Lt w w U o Bf Z Ls S S:=⟨fun _ h => .inl h,Keep.refl _ w,rfl⟩
theorem xR {U o Bf:Nat} {Z:TX} {Ls:Array Lvl} {S S1:Nat→Prop} {b x n:Nat} (h:JZ U o Bf Z Ls S1 b x) (hb:b < n) (hs:S1 b→S b∨n≤b):JZ U o Bf Z Ls S b x:=by
 rcases h with h | h | h | h | h
 ·exact .inl h
 ·exact .inr (.inl h)
 ·exact .inr (.inr (.inl h))
 ·exact .inr (.inr (.inr (.inl h)))
 ·rcases hs h with h3 | h3
  ·exact .inr (.inr (.inr (.inr h3)))
  ·omega
theorem Lt.trans {w w1 w2:World} {U o Bf:Nat} {Z:TX} {Ls:Array Lvl} {S S1 S2:Nat→Prop} (h:Lt w w1 U o Bf Z Ls S S1) (h2:Lt w1 w2 U o Bf Z Ls S1 S2):Lt w w2 U o Bf Z Ls S S2 where
 s b hb:=by
  rcases h2.s b hb with h3 | h3
  ·exact h.s b h3
  ·exact .inr (ah h.k.size h3)
 k:=h.k.tr h2.k fun b x hb hm=>xR hm hb (h.s b)
 e:=by rw [h2.e,h.e]
theorem Lt.mv {d w w1:World} {U o Bf:Nat} {Z:TX} {Ls:Array Lvl} {S:Nat→Prop} (c:MC d U Bf Ls) (hk:Keep (qw U o Bf 0 Ls) w w1) (hU:U < w.heap.size):Lt w w1 U o Bf Z Ls S S:=⟨fun _ h => .inl h,hk.mono fun b x _ h => .inl h,hk.cell U _ hU (uS c (by omega))⟩
def LB (d:World) (S:Nat→Prop) (w:World) (v:Value) (l:Bytes):Prop:=dR d v l∨w.ownsRow 0 5 1 v l.length (eF l)∧∀ g,v.ownBlock=some g→S g
theorem LB.bts {d w:World} {S:Nat→Prop} {v:Value} {l:Bytes} (h:LB d S w v l) (hd:cM d w):dR w v l:=by
 rcases h with h | h
 ·exact h.inc hd
 ·exact jS h.1
theorem LB.keep {d w w2:World} {S:Nat→Prop} {M:Nat→Nat→Prop} {v:Value} {l:Bytes} (h:LB d S w v l) (hk:Keep M w w2) (hm:∀ g,S g→∀ x,¬ M g x):LB d S w2 v l:=by
 rcases h with h | h
 ·exact .inl h
 ·exact .inr ⟨aX h.1 hk fun g hg x=>hm g (h.2 g hg) x,h.2⟩
theorem MR.lb {d w:World} {U o Bf:Nat} {Z:TX} {Ls:Array Lvl} {S:Nat→Prop} {vk vb:Value} {vs:Nat→Prop} {lk:List KR} {xb:List Value} (r:MR d w U o Bf Z Ls S vk vb vs lk xb) {v:Value} {l:Bytes} (h:SB d vb xb v l):LB d S w v l:=by
 rcases h with h | ⟨rfl,rfl⟩
 ·exact .inl h
 ·have:=r.bo
  rw [cP] at this
  exact .inr ⟨this,r.bS⟩
def qO (ord:Int) (d:World) (S:Nat→Prop) (w:World) (b o:Nat) (x:Sp):Prop :=
 (∃ v,w.cell? ⟨b,o,none⟩=some v∧LB d S w v x.s)∧(∃ v,w.cell? ⟨b,o+1,none⟩=some v∧LB d S w v x.e) ∧
 (∃ v,w.cell? ⟨b,o+2,none⟩=some v∧zN d S w v x.ks)∧w.cell? ⟨b,o+3,none⟩=some (.int .i8 ord)
theorem qO.o {ord:Int} {d w:World} {S:Nat→Prop} {b o:Nat} {x:Sp} (h:qO ord d S w b o x) (hd:cM d w):fE ord w b o x:=by
 obtain ⟨⟨s,s1,s2⟩,⟨e,e1,e2⟩,⟨v,v1,v2⟩,o1⟩:=h
 exact ⟨⟨s,s1,s2.bts hd⟩,⟨e,e1,e2.bts hd⟩,⟨_,v1,v2.slc hd⟩,o1⟩
theorem qO.keep {ord:Int} {d w w2:World} {S:Nat→Prop} {M:Nat→Nat→Prop} {b o:Nat} {x:Sp} (h:qO ord d S w b o x) (hk:Keep M w w2) (hm:∀ g,S g→∀ x,¬ M g x) (hb:∀ y,o≤y→y≤o+3→¬ M b y):qO ord d S w2 b o x:=by
 obtain ⟨⟨s,s1,s2⟩,⟨e,e1,e2⟩,⟨v,v1,v2⟩,o1⟩:=h
 exact ⟨⟨s,hk.some s1 (hb _ (by omega) (by omega)),s2.keep hk hm⟩,⟨e,hk.some e1 (hb _ (by omega) (by omega)),e2.keep hk hm⟩,⟨v,hk.some v1 (hb _ (by omega) (by omega)),v2.keep hk hm⟩,hk.some o1 (hb _ (by omega) (by omega))⟩
section
variable {d w w2:World} {U o Bf:Nat} {Z:TX} {Ls:Array Lvl} {B:List Bytes} {S:Nat→Prop} {pos:Nat→Int} {rev:Bool} {hp:Array Nat} {vk vb:Value} {vs:Nat→Prop} {lk:List KR} {xb:List Value}
theorem MH.keep {M:Nat→Nat→Prop} (h:MH w U o Bf 0 Ls pos rev hp) (hk:Keep M w w2) (h1:∀ x,2≤x→x≤4→¬ M Bf x) (h2:∀ x,o+50≤x→x < o+70→¬ M U x) (hU:U < w.heap.size):MH w2 U o Bf 0 Ls pos rev hp :=
 ⟨h.at_.keep hk (fun x a b=>h1 x (by omega) (by omega)) (fun x a b=>h2 x a b) hU,h.ok,h.mem,h.nd⟩
theorem St.setU (st:St d w U o Bf Z Ls S pos rev hp vk vb vs lk xb) (ms:MS d U o Bf Z Ls B) {x:Nat} (hx:x=o+1∨x=o+2) (v:Value) (hv:∃ a n c,v = .slice a n c):St d (w.setCell ⟨U,x,none⟩ v) U o Bf Z Ls S pos rev hp vk vb vs lk xb∧Lt w (w.setCell ⟨U,x,none⟩ v) U o Bf Z Ls S S:=by
 have c:=ms.mc
 have hk:Keep (fun b y=>b=U∧y=x) w (w.setCell ⟨U,x,none⟩ v):=bY ⟨rfl,rfl⟩
 have hU:=aC st.g.bufs
 have g':=st.g.keep c hk (by omega) (fun h=>c.ne h.1) (by omega) (fun y _ _=>by omega) (fun i hi y h=>c.iU i hi h.1) (fun a y h=>by rw [h.1]; exact c.oU y)
 have f:∀ {y u},y≠x→w.cell? ⟨U,y,none⟩=some u→(w.setCell ⟨U,x,none⟩ v).cell? ⟨U,y,none⟩=some u:=fun hy hu=>hk.some hu fun h=>hy h.2
 have fx:∀ {y},y≠x→(∃ u,w.cell? ⟨U,y,none⟩=some u)→∃ u,(w.setCell ⟨U,x,none⟩ v).cell? ⟨U,y,none⟩=some u:=fun hy ⟨u,hu⟩=>⟨u,f hy hu⟩
 have m:=st.u
 refine ⟨⟨g',st.h.keep hk (fun y _ _ h=>c.ne h.1) (fun y _ _ h=>by omega) hU,?_,st.r.keep ms hk (fun h=>c.ne h.1) (fun h=>c.ne h.1) (fun g hg y h=>(st.r.sp g hg).1 h.1) fun b y _ h=>by obtain ⟨rfl,rfl⟩:=h; exact ⟨fun h=>by have:=ms.tU h; omega,c.oU _⟩⟩,⟨fun _ h => .inl h,hk.mono fun b y _ h => .inr (.inl ⟨h.1,by omega⟩),hk.cell U _ hU (by omega)⟩⟩
 have fs:∀ {y},(∃ a n c,w.cell? ⟨U,y,none⟩=some (.slice a n c))→∃ a n c,(w.setCell ⟨U,x,none⟩ v).cell? ⟨U,y,none⟩=some (.slice a n c):=by
  rintro y ⟨a,n,cc,hu⟩
  by_cases hy:y=x
  ·subst hy
   obtain ⟨a',n',c',rfl⟩:=hv
   exact ⟨a',n',c',by rw [cJ,hu]; rfl⟩
  ·exact ⟨a,n,cc,f hy hu⟩
 exact ⟨fs m.u3,fs m.u4,f (by omega) m.u5,fx (by omega) m.u6,fx (by omega) m.u7,fx (by omega) m.u8,fx (by omega) m.u9,fx (by omega) m.u11⟩
theorem MB.drew' (g:MB d w U o Bf 0 Ls pos):MB d w.drew U o Bf 0 Ls pos:=g.drew
theorem MR.drew (r:MR d w U o Bf Z Ls S vk vb vs lk xb):MR d w.drew U o Bf Z Ls S vk vb vs lk xb:=⟨r.k.drew,Z.dr r.x,r.bh,r.bo.drew,r.kS,r.bS,r.sS,r.kb,r.ks,r.bs,r.sp⟩
theorem MU.drew (m:MU w U o Z):MU w.drew U o Z:=⟨m.u3,m.u4,m.u5,m.u6,m.u7,m.u8,m.u9,m.u11⟩
theorem St.drew (st:St d w U o Bf Z Ls S pos rev hp vk vb vs lk xb):St d w.drew U o Bf Z Ls S pos rev hp vk vb vs lk xb:=⟨st.g.drew,st.h.drew,st.u.drew,st.r.drew⟩
theorem Lt.drew {S':Nat→Prop} (h:Lt w w2 U o Bf Z Ls S S'):Lt w w2.drew U o Bf Z Ls S S':=⟨h.s,h.k.drew,h.e⟩
theorem St.buf (st:St d w U o Bf Z Ls S pos rev hp vk vb vs lk xb) (ms:MS d U o Bf Z Ls B) {w5:World} {v5:Value} {x5:List Value} (o5:w5.ownsRow 0 5 1 v5 x5.length x5) (k5:Keep (fun b _=>vb.ownBlock=some b) w w5) (n5:cZ w vb v5) :
    St d (w5.setCell ⟨Bf,5,none⟩ v5) U o Bf Z Ls (fun b=>S b∨v5.ownBlock=some b) pos rev hp vk v5 vs lk x5∧Lt w (w5.setCell ⟨Bf,5,none⟩ v5) U o Bf Z Ls S (fun b=>S b∨v5.ownBlock=some b):=by
 have c:=ms.mc
 obtain ⟨HK,ti,_⟩:=ms.ti
 have hU:=aC st.g.bufs
 have hB:=aC st.g.lvls
 have r:=st.r
 have kk:Keep (fun b x=>b=Bf∧x=5∨vb.ownBlock=some b) w (w5.setCell ⟨Bf,5,none⟩ v5):=(k5.mono fun b x _ h => .inr h).set fun _ => .inl ⟨rfl,rfl⟩
 have nB:∀ x,x≠5→¬ (Bf=Bf∧x=5∨vb.ownBlock=some Bf):=by
  rintro x hx (⟨_,h⟩ | h)
  ·exact hx h
  ·exact (r.sp _ (r.bS _ h)).2.1 rfl
 have nU:∀ x,¬ (U=Bf∧x=5∨vb.ownBlock=some U):=by
  rintro x (⟨h,_⟩ | h)
  ·exact c.ne h.symm
  ·exact (r.sp _ (r.bS _ h)).1 rfl
 have nI:∀ i,i < Ls.size→∀ x,¬ (Ls[i]!.I=Bf∧x=5∨vb.ownBlock=some Ls[i]!.I):=by
  rintro i hi x (⟨h,_⟩ | h)
  ·exact c.iB i hi h
  ·exact (r.sp _ (r.bS _ h)).2.2.2.1 i hi rfl
 have nd:∀ b x,(b=Bf∧x=5∨vb.ownBlock=some b)→d.cell? ⟨b,x,none⟩=none:=by
  rintro b x (⟨rfl,_⟩ | h)
  ·exact c.oB x
  ·exact (r.sp _ (r.bS _ h)).2.2.1 x
 have nT:∀ b x,(b=Bf∧x=5∨vb.ownBlock=some b)→¬ Z.T b x:=by
  rintro b x (⟨rfl,rfl⟩ | h) ht
  ·have:=ms.tB ht; omega
  ·rcases ms.tT ht with h' | h'
   ·exact (r.sp _ (r.bS _ h)).1 h'
   ·exact (r.sp _ (r.bS _ h)).2.1 h'
 have nk:∀ g,vk.ownBlock=some g→∀ x,¬ (g=Bf∧x=5∨vb.ownBlock=some g):=by
  rintro g hg x (⟨h,_⟩ | h)
  ·exact (r.sp _ (r.kS _ hg)).2.1 h
  ·exact r.kb g h hg
 have ns:∀ g,vs g→∀ x,¬ (g=Bf∧x=5∨vb.ownBlock=some g):=by
  rintro g hg x (⟨h,_⟩ | h)
  ·exact (r.sp _ (r.sS _ hg)).2.1 h
  ·exact r.bs g hg h
 have hvB:∀ g,v5.ownBlock=some g→g≠Bf:=fun g hg=>by
  rcases n5 g hg with h | h
  ·exact (r.sp _ (r.bS _ h)).2.1
  ·omega
 obtain ⟨q5,hq5⟩:∃ u,w5.cell? ⟨Bf,5,none⟩=some u:=⟨_,k5.some r.bh fun h=>(r.sp _ (r.bS _ h)).2.1 rfl⟩
 refine ⟨⟨st.g.keep c kk (nU _) (nB _ (by omega)) (nU _) (fun x _ _=>nU x) nI nd,st.h.keep kk (fun x _ _=>nB x (by omega)) (fun x _ _=>nU x) hU,st.u.keep kk (fun x _ _=>nU x) ?_,?_⟩,⟨fun b hb => ?_,kk.mono fun b x _ h => ?_,kk.cell U _ hU (nU _)⟩⟩
 ·obtain ⟨v,h⟩:=st.u.u11
  exact ⟨v,kk.some h (nU _)⟩
 ·refine ⟨r.k.keep kk (nB _ (by omega)) nk,ti.keep r.x kk fun b x _ h=>⟨nT b x h,fun hs=>ns b hs x h,nd b x h⟩,by rw [cJ,hq5]; rfl,aX o5 (bY (M:=fun b x=>b=Bf∧x=5) ⟨rfl,rfl⟩) fun g hg x h=>hvB g hg h.1,fun g hg => .inl (r.kS g hg),fun g hg => .inr hg,fun g hg => .inl (r.sS g hg),fun g hg hk => ?_,r.ks,fun g hg hb => ?_,fun g hg => ?_⟩
  ·rcases n5 g hg with h | h
   ·exact r.kb g h hk
   ·have:=(r.k.own.lt g hk).2; omega
  ·rcases n5 g hb with h | h
   ·exact r.bs g hg h
   ·have:=(ti.outS r.x g hg).2; omega
  ·rw [World.size_setCell]
   rcases hg with hg | hg
   ·obtain ⟨a1,a2,a3,a4,a5⟩:=r.sp g hg
    exact ⟨a1,a2,a3,a4,aL a5 k5.size⟩
   ·rcases n5 g hg with h | h
    ·obtain ⟨a1,a2,a3,a4,a5⟩:=r.sp _ (r.bS _ h)
     exact ⟨a1,a2,a3,a4,aL a5 k5.size⟩
    ·exact ⟨by omega,by omega,st.g.inc.out h,fun i hi he=>by have:=aC (st.g.lv i hi).iter.c0; omega,(o5.lt g hg).2⟩
 ·rcases hb with hb | hb
  ·exact .inl hb
  ·rcases n5 b hb with h | h
   ·exact .inl (r.bS _ h)
   ·exact .inr h
 ·rcases h with ⟨h1,h2⟩ | h
  ·exact .inr (.inr (.inl ⟨h1,by omega⟩))
  ·exact .inr (.inr (.inr (.inr (r.bS _ h))))
theorem St.syn {w':World} {vk':Value} {vs':Nat→Prop} {lk':List KR} (st:St d w U o Bf Z Ls S pos rev hp vk vb vs lk xb) (ms:MS d U o Bf Z Ls B) (ok:KOwn d w' Bf 0 vk' lk') (ox:Z.X w' vs') (xl:∀ b,vs' b→b < w'.heap.size) (nk:cZ w vk vk') (ns:∀ b,vs' b→vs b∨w.heap.size≤b) (dj:∀ g,vs' g→vk'.ownBlock≠some g) (kk:Keep (Gm U o Bf Z vk vs) w w')
    (e6:∃ v,w'.cell? ⟨U,o+4,none⟩=some v) (e7:∃ v,w'.cell? ⟨U,o+5,none⟩=some v) (e8:∃ v,w'.cell? ⟨U,o+6,none⟩=some v) (e9:∃ v,w'.cell? ⟨U,o+7,none⟩=some v) :
    St d w' U o Bf Z Ls (fun b=>S b∨vk'.ownBlock=some b∨vs' b) pos rev hp vk' vb vs' lk' xb∧Lt w w' U o Bf Z Ls S (fun b=>S b∨vk'.ownBlock=some b∨vs' b):=by
 have c:=ms.mc
 have hU:=aC st.g.bufs
 have hB:=aC st.g.lvls
 have r:=st.r
 have nB:∀ x,x≠0∧x < 9→¬ Gm U o Bf Z vk vs Bf x:=by
  rintro x hx (⟨h,_⟩ | ⟨_,h⟩ | h | h | h)
  ·exact c.ne h
  ·omega
  ·have:=ms.tB h; omega
  ·exact (r.sp _ (r.kS _ h)).2.1 rfl
  ·exact (r.sp _ (r.sS _ h)).2.1 rfl
 have nU:∀ x,o≤x→x < o+4∨o+7 < x→x < o+70→¬ Gm U o Bf Z vk vs U x:=by
  rintro x ho hx hx2 (⟨_,h1,h2⟩ | ⟨h,_⟩ | h | h | h)
  ·omega
  ·exact c.ne h.symm
  ·have:=ms.tU h; omega
  ·exact (r.sp _ (r.kS _ h)).1 rfl
  ·exact (r.sp _ (r.sS _ h)).1 rfl
 have nI:∀ i,i < Ls.size→∀ x,¬ Gm U o Bf Z vk vs Ls[i]!.I x:=by
  rintro i hi x (⟨h,_⟩ | ⟨h,_⟩ | h | h | h)
  ·exact c.iU i hi h
  ·exact c.iB i hi h
  ·exact ms.tI h hi rfl
  ·exact (r.sp _ (r.kS _ h)).2.2.2.1 i hi rfl
  ·exact (r.sp _ (r.sS _ h)).2.2.2.1 i hi rfl
 have nd:∀ b x,Gm U o Bf Z vk vs b x→d.cell? ⟨b,x,none⟩=none:=by
  rintro b x (⟨rfl,_⟩ | ⟨rfl,_⟩ | h | h | h)
  ·exact c.oU x
  ·exact c.oB x
  ·exact ms.tO h
  ·exact (r.sp _ (r.kS _ h)).2.2.1 x
  ·exact (r.sp _ (r.sS _ h)).2.2.1 x
 have nb:∀ g,vb.ownBlock=some g→∀ x,¬ Gm U o Bf Z vk vs g x:=by
  rintro g hg x (⟨h,_⟩ | ⟨h,_⟩ | h | h | h)
  ·exact (r.sp _ (r.bS _ hg)).1 h
  ·exact (r.sp _ (r.bS _ hg)).2.1 h
  ·rcases ms.tT h with h' | h'
   ·exact (r.sp _ (r.bS _ hg)).1 h'
   ·exact (r.sp _ (r.bS _ hg)).2.1 h'
  ·exact r.kb g hg h
  ·exact r.bs g h hg
 have m:=st.u
 have sp:∀ g,(S g∨vk'.ownBlock=some g∨vs' g)→S g∨w.heap.size≤g∧g < w'.heap.size:=by
  rintro g (h | h | h)
  ·exact .inl h
  ·rcases nk g h with h' | h'
   ·exact .inl (r.kS g h')
   ·exact .inr ⟨h',(ok.own.lt g h).2⟩
  ·rcases ns g h with h' | h'
   ·exact .inl (r.sS g h')
   ·exact .inr ⟨h',xl g h⟩
 have bl:∀ g,vb.ownBlock=some g→g < w.heap.size:=fun g hg=>(r.sp _ (r.bS _ hg)).2.2.2.2
 refine ⟨⟨st.g.keep c kk (nU _ (by omega) (by omega) (by omega)) (nB _ (by omega)) (nU _ (by omega) (by omega) (by omega)) (fun x h1 h2=>nU x (by omega) (by omega) (by omega)) nI nd,st.h.keep kk (fun x h1 h2=>nB x (by omega)) (fun x h1 h2=>nU x (by omega) (by omega) (by omega)) hU,?_,?_⟩,⟨fun b hb => ?_,kk.mono fun b x _ h => ?_,kk.cell U _ hU (nU _ (by omega) (by omega) (by omega))⟩⟩
 ·have f:∀ {y u},o≤y→y < o+4∨o+7 < y→y < o+70→w.cell? ⟨U,y,none⟩=some u→w'.cell? ⟨U,y,none⟩=some u:=fun h1 h2 h3 hu=>kk.some hu (nU _ h1 h2 h3)
  have fs:∀ {y},o≤y→y < o+4→(∃ a n c,w.cell? ⟨U,y,none⟩=some (.slice a n c))→∃ a n c,w'.cell? ⟨U,y,none⟩=some (.slice a n c):=fun h1 h2 ⟨a,n,c,hu⟩=>⟨a,n,c,f h1 (.inl h2) (by omega) hu⟩
  obtain ⟨v11,h11⟩:=m.u11
  exact ⟨fs (by omega) (by omega) m.u3,fs (by omega) (by omega) m.u4,f (by omega) (by omega) (by omega) m.u5,e6,e7,e8,e9,v11,f (by omega) (by omega) (by omega) h11⟩
 ·refine ⟨ok,ox,kk.some r.bh (nB _ (by omega)),aX r.bo kk nb,fun g hg => .inr (.inl hg),fun g hg => .inl (r.bS g hg),fun g hg => .inr (.inr hg),fun g hg hk => ?_,dj,fun g hg hb => ?_,fun g hg => ?_⟩
  ·rcases nk g hk with h | h
   ·exact r.kb g hg h
   ·have:=bl g hg; omega
  ·rcases ns g hg with h | h
   ·exact r.bs g h hb
   ·have:=bl g hb; omega
  ·rcases sp g hg with h | ⟨h1,h2⟩
   ·obtain ⟨a1,a2,a3,a4,a5⟩:=r.sp g h
    exact ⟨a1,a2,a3,a4,aL a5 kk.size⟩
   ·exact ⟨by omega,by omega,st.g.inc.out h1,fun i hi he=>by have:=aC (st.g.lv i hi).iter.c0; omega,h2⟩
 ·rcases sp b hb with h | ⟨h,_⟩
  ·exact .inl h
  ·exact .inr h
 ·rcases h with ⟨h1,h2,h3⟩ | ⟨h1,h2⟩ | h | h | h
  ·exact .inr (.inl ⟨h1,by omega⟩)
  ·exact .inr (.inr (.inl ⟨h1,by omega⟩))
  ·exact .inr (.inr (.inr (.inl h)))
  ·exact .inr (.inr (.inr (.inr (r.kS _ h))))
  ·exact .inr (.inr (.inr (.inr (r.sS _ h))))
theorem St.clr {w':World} {vk':Value} (st:St d w U o Bf Z Ls S pos rev hp vk vb vs lk xb) (ms:MS d U o Bf Z Ls B) (ok:KOwn d w' Bf 0 vk' []) (ek:vk'.ownBlock=vk.ownBlock) (k2:Keep (fun b x=>b=Bf∧x=0∨vk.ownBlock=some b) w w') :
    St d w' U o Bf Z Ls (fun b=>S b∨vk'.ownBlock=some b∨vs b) pos rev hp vk' vb vs [] xb∧Lt w w' U o Bf Z Ls S (fun b=>S b∨vk'.ownBlock=some b∨vs b):=by
 have c:=ms.mc
 obtain ⟨HK,ti,_⟩:=ms.ti
 have r:=st.r
 have nU:∀ x,¬ (U=Bf∧x=0∨vk.ownBlock=some U):=by
  rintro x (⟨h,_⟩ | h)
  ·exact c.ne h.symm
  ·exact (r.sp _ (r.kS _ h)).1 rfl
 have fx:∀ {y},(∃ u,w.cell? ⟨U,y,none⟩=some u)→∃ u,w'.cell? ⟨U,y,none⟩=some u:=fun ⟨u,hu⟩=>⟨u,k2.some hu (nU _)⟩
 refine st.syn ms ok (ti.keep r.x k2 fun b x _ h => ?_) (fun b hb=>aL (ti.outS r.x b hb).2 k2.size) (fun g hg => .inl (by rw [← ek]; exact hg)) (fun _ h => .inl h) (fun g hg hk=>r.ks g hg (by rw [← ek]; exact hk)) (k2.mono fun b x _ h => ?_) (fx st.u.u6) (fx st.u.u7) (fx st.u.u8) (fx st.u.u9)
 ·rcases h with ⟨rfl,rfl⟩ | h
  ·exact ⟨fun h=>by have:=ms.tB h; omega,fun h=>(r.sp _ (r.sS _ h)).2.1 rfl,c.oB _⟩
  ·obtain ⟨a1,a2,a3,_⟩:=r.sp _ (r.kS _ h)
   exact ⟨fun h=>by rcases ms.tT h with h | h; exact a1 h; exact a2 h,fun h'=>r.ks _ h' h,a3 x⟩
 ·rcases h with ⟨h1,h2⟩ | h
  ·exact .inr (.inl ⟨h1,h2⟩)
  ·exact .inr (.inr (.inr (.inl h)))
theorem St.mv {pos':Nat→Int} {hp':Array Nat} {rev':Bool} (st:St d w U o Bf Z Ls S pos rev hp vk vb vs lk xb) (m:MS d U o Bf Z Ls B) (g:MB d w2 U o Bf 0 Ls pos') (h:MH w2 U o Bf 0 Ls pos' rev' hp') (hk:Keep (qw U o Bf 0 Ls) w w2) :
    St d w2 U o Bf Z Ls S pos' rev' hp' vk vb vs lk xb∧Lt w w2 U o Bf Z Ls S S:=⟨⟨g,h,st.u.mv m.mc hk,st.r.mv m hk⟩,Lt.mv m.mc hk (aC st.g.bufs)⟩
end
end Go.E
end
section
namespace Go.E
open Go Go.Sort Go.Proofs Go.Proofs.Tryz
def Ks (Ls:Array Lvl) (pos:Nat→Int):Nat:=xQ (fun i=>(2 * (Ls[i]!.L.length:Int) - pos i).toNat) Ls.size
theorem Hh {Ls:Array Lvl} {pos:Nat→Int} {r:Nat} (hr:r < Ls.size) (hv:gY Ls[r]!.L (pos r)):Ks Ls (pT pos r (lu Ls[r]!.L (pos r))) < Ks Ls pos:=by
 refine Ft hr ?_ fun i _ hir => ?_
 ·unfold pT lu
  unfold gY at hv
  rw [if_pos rfl,if_neg (by omega)]
  omega
 ·unfold pT; rw [if_neg hir]
theorem MH.root_min {w:World} {U o Bf f:Nat} {Ls:Array Lvl} {pos:Nat→Int} {hp:Array Nat} (h:MH w U o Bf f Ls pos false hp) {x:Nat} (hx:x < Ls.size) (hv:gY Ls[x]!.L (pos x)):¬ iA Ls[x]!.L (pos x).toNat < iA Ls[hp[0]!]!.L (pos hp[0]!).toNat:=by
 obtain ⟨j,hj,e⟩:=bB ((h.mem x).2 ⟨hx,hv⟩)
 have hj:j < hp.size:=by simpa using hj
 have:=h.ok.root hj
 have e2:hp[j]! = x:=by rw [aI hp j hj]; simpa using e
 rw [e2] at this
 simp only [jm,Gg,Bool.false_eq_true,if_false,if_true] at this
 exact @of_decide_eq_false _ _ this
theorem MH.root_max {w:World} {U o Bf f:Nat} {Ls:Array Lvl} {pos:Nat→Int} {hp:Array Nat} (h:MH w U o Bf f Ls pos true hp) {x:Nat} (hx:x < Ls.size) (hv:gY Ls[x]!.L (pos x)):¬ iA Ls[hp[0]!]!.L (pos hp[0]!).toNat < iA Ls[x]!.L (pos x).toNat:=by
 obtain ⟨j,hj,e⟩:=bB ((h.mem x).2 ⟨hx,hv⟩)
 have hj:j < hp.size:=by simpa using hj
 have:=h.ok.root hj
 have e2:hp[j]! = x:=by rw [aI hp j hj]; simpa using e
 rw [e2] at this
 simp only [jm,Gg,Bool.false_eq_true,if_false,if_true] at this
 exact @of_decide_eq_false _ _ this
theorem MH.empty {w:World} {U o Bf f:Nat} {Ls:Array Lvl} {pos:Nat→Int} {rev:Bool} {hp:Array Nat} (h:MH w U o Bf f Ls pos rev hp) (h0:¬ 0 < hp.size) {x:Nat} (hx:x < Ls.size):¬ gY Ls[x]!.L (pos x):=by
 intro hv
 have:=(h.mem x).2 ⟨hx,hv⟩
 have e:hp = #[]:=Array.eq_empty_of_size_eq_zero (by omega)
 rw [e] at this
 simp at this
end Go.E
namespace Go.Proofs
open Go Go.E Go.Sort Go.Proofs.Tryz
section
variable {k:aq} {d w:World} {U o Bf t:Nat} {Z:TX} {Ls:Array Lvl} {B:List Bytes} {pos:Nat→Int} {hp:Array Nat}
def zK:KR:=⟨⟨0,[],[]⟩,.slice none 0 0,.slice none 0 0⟩
theorem BU {vk:Value} {lk:List KR} (g:MB d w U o Bf 0 Ls pos) (r:KOwn d w Bf 0 vk lk) (hvk:∀ g,vk.ownBlock=some g→g≠U∧g≠Bf) (hU:U≠Bf)
    (hk:∀ w' vk',KOwn d w' Bf 0 vk' []→vk'.ownBlock=vk.ownBlock→Keep (fun b x=>b=Bf∧x=0∨vk.ownBlock=some b) w w'→k (.tuple #[]) w'):ai prog 176 #[.pointer (some ⟨U,o,none⟩)] k w:=by
 have c1:=g.bufs
 have fB:=g.fB
 have hBs:=aC g.lvls
 obtain ⟨va,vcap,e,hcap,_⟩:=bP r.own
 subst e
 have r0:=r.hd
 have z0:(0:Int).toNat=0:=rfl
 have zc:(0:Int)≤vcap:=by omega
 refine al [] func176 ?_
 refine dO @c1 @r0 ?_
 refine bZ (fun i:Nat=>[(0,.pointer (some ⟨U,o,none⟩)),(10,.int .i64 lk.length),(11,.int .i64 i)])
  (fun i w'=>∃ c,w'.ownsRow 0 117 3 (.slice va lk.length vcap) lk.length (dA c)∧c.length=lk.length∧Keep (fun b _=>(Value.slice va lk.length vcap).ownBlock=some b) w w'∧i≤lk.length) (fun i _=>lk.length - i) 0 (by kernel_rfl) ?_ ⟨lk,r.own,rfl,Keep.refl _ w,aT _⟩ ?_
 ·exact bU
 rintro K e i w1 ⟨c,i1,i2,i3,i4⟩ hK
 have c1:=i3.some c1 (fun h=>(hvk _ h).1 rfl)
 have r0:=i3.some r0 (fun h=>(hvk _ h).2 rfl)
 have fB:∀ x,w1.frozen? ⟨Bf,x,none⟩=false:=fun x=>by rw [i3.frozen Bf x hBs]; exact fB x
 by_cases hi:i < lk.length
 ·have hi':(i:Int) < lk.length:=by omega
  obtain ⟨g',c',hgs⟩:∃ g' c',Value.slice va lk.length vcap = .slice (some ⟨g',0,none⟩) lk.length c':=by
   rcases cg i1 with ⟨_,h,_⟩ | ⟨g',c',h,_⟩
   ·omega
   ·exact ⟨g',c',h⟩
  simp only [aU,true_and] at hgs
  obtain ⟨rfl,rfl⟩:=hgs
  have fg:∀ o,w1.frozen? ⟨g',o,none⟩=false:=fun o=>cl i1 rfl o
  obtain ⟨x,hx⟩:∃ x,c[i]? = some x:=⟨c[i],aD (by omega)⟩
  obtain ⟨f1,f2,f3⟩:=kZ hx
  have q1:=bW i1 f1
  have q2:=bW i1 f2
  have q3:=bW i1 f3
  refine vJ @hi' @c1 @r0 @fg @q1 @q2 @q3 ?_
  have o2:=cR (cR (cR i1 (i * 3) (.int .u64 0)) (i * 3+1) (.slice none 0 0)) (i * 3+2) (.slice none 0 0)
  have e3:=lx c i zK (by omega)
  have e4:zK.k.tr=0:=rfl
  rw [show (Value.int .u64 (zK.k.tr:Int)) = .int .u64 0 from rfl,show zK.sv = .slice none 0 0 from rfl,show zK.vv = .slice none 0 0 from rfl] at e3
  rw [e3] at o2
  refine hK _ _ (i+1) ?_ ⟨c.set i zK,o2,by simp [i2],?_,by omega⟩ (by omega)
  ·exact bU
  ·exact ((i3.set (fun _=>rfl)).set (fun _=>rfl)).set (fun _=>rfl)
 ·have hi':¬ (i:Int) < lk.length:=by omega
  refine bu @hi' ?_
  refine bF (sq [0,1,2] (.read 3 (sq [4,5,6] (.read 7 (sq [8,9] (.read 10 (sq [11,12,13] (.eff 14 [] .done)))))))) ?_
  simp (disch:=first | exact dZ | fail) only [go_sem,c1,r0,pG Tryz.es143,z0,zc,fB]
  have kk:Keep (fun b x=>b=Bf∧x=0) w1 (w1.setCell ⟨Bf,0,none⟩ (.slice va 0 vcap)).drew:=(bY ⟨rfl,rfl⟩).drew
  refine hk _ (.slice va 0 vcap) ⟨?_,?_,fun x hx=>by simp at hx⟩ (cS _ _ _ _) ((i3.mono fun b x _ h => .inr h).trans (kk.mono fun b x _ h => .inl h))
  ·exact bX @r0
  ·exact aX (eQ i1) kk fun g' hg' x h=>(hvk g' (by rw [cS va lk.length 0]; exact hg')).2 h.1
end
end Go.Proofs
namespace Go.E
open Go Go.Sort Go.Proofs Go.Proofs.Tryz
end Go.E
namespace Go.Proofs
open Go Go.E Go.Sort Go.Proofs.Tryz
section
variable {k:aq} {d w:World} {U o Bf t:Nat} {Z:TX} {Ls:Array Lvl} {B:List Bytes} {pos:Nat→Int} {hp:Array Nat}
theorem ie {v:Value} {l:Bytes} (h:dR w v l):rW w v l.length (eF l):=by
 unfold dR at h
 split at h
 ·obtain ⟨rfl,rfl⟩:=h
  exact ⟨rfl,rfl,rfl⟩
 ·rename_i a n c
  obtain ⟨b,o,s⟩:=a
  obtain ⟨h1,h2,h3⟩:=h
  have hs:s=none:=h1
  subst hs
  exact ⟨h2,fun j u hj=>by rw [dS rfl]; exact h3 j u hj⟩
 ·exact h.elim
theorem ig (l:Bytes):∀ u ∈ eF l,u.oneCell'=true:=by
 intro u hu
 unfold eF at hu
 obtain ⟨x,_,rfl⟩:=bj.1 hu
 rfl
theorem zQ {a:Option Addr} {n c:Nat} (h:(Value.slice a n c).ownBlock.isSome=true):rY (.slice a n c)=true:=by
 cases a with
 | none=>simp [Value.ownBlock] at h
 | some a=>rfl
def Hi (d w:World) (U o Bf:Nat) (Z:TX) (Ls:Array Lvl) (B:List Bytes) (S:Nat→Prop) (t:Nat) (k:aq):Prop :=
 ∀ w' S' u pos' hp' vk vb vs lk xb,St d w' U o Bf Z Ls S' pos' false hp' vk vb vs lk xb→Lt w w' U o Bf Z Ls S S'→FA Ls.size (Lf Ls) B u pos' →
  (u ∈ eK Ls.size (Lf Ls) B→t < u→(∀ v ∈ eK Ls.size (Lf Ls) B,t < v→¬ v < u)→qO Z.ord d S' w' U (o+4) (lz Z.F Ls.size (Lf Ls) B u)→(∃ v,w'.cell? ⟨U,o+1,none⟩=some v∧rY v=true)→(∃ v,w'.cell? ⟨U,o+2,none⟩=some v∧rY v=true)→k (.pointer (some ⟨U,o+4,none⟩)) w') ∧
  (u=B.length→(∀ v ∈ eK Ls.size (Lf Ls) B,¬ t < v)→k (.pointer none) w')
set_option maxHeartbeats 2000000 in
theorem jH {S:Nat→Prop} {vk vb:Value} {vs:Nat→Prop} {lk:List KR} {xb:List Value} (m:MS d U o Bf Z Ls B) (st:St d w U o Bf Z Ls S pos false hp vk vb vs lk xb) (nf:NearF Ls.size (Lf Ls) B t pos)
    (hk:Hi d w U o Bf Z Ls B S t k):ai prog 180 #[.pointer (some ⟨U,o,none⟩)] k w:=by
 have ne:=m.mc.ne
 refine al [.tmp 2] func180 ?_
 refine bA ?_
 refine jf (fun _:Unit=>[(0,.pointer (some ⟨U,o,none⟩))]) (fun _ w'=>∃ S' pos' hp' vk vb vs lk xb,St d w' U o Bf Z Ls S' pos' false hp' vk vb vs lk xb∧Lt w w' U o Bf Z Ls S S'∧FA Ls.size (Lf Ls) B B.length pos'∧∀ v ∈ eK Ls.size (Lf Ls) B,¬ t < v) (by kernel_rfl) (fun K hK => ?_) ?_
 ·refine bZ (fun _:Nat=>[(0,.pointer (some ⟨U,o,none⟩))]) (fun t1 w'=>∃ S' pos' hp' vk vb vs lk xb,St d w' U o Bf Z Ls S' pos' false hp' vk vb vs lk xb∧Lt w w' U o Bf Z Ls S S'∧NearF Ls.size (Lf Ls) B t1 pos'∧t≤t1∧∀ v ∈ eK Ls.size (Lf Ls) B,t < v→t1 < v) (fun t1 _=>B.length - t1) t (by kernel_rfl) ?_ ⟨S,pos,hp,vk,vb,vs,lk,xb,st,Lt.refl w U o Bf Z Ls S,nf,aF _,fun v _ h=>h⟩ ?_
  ·exact bU
  clear st nf
  rintro K2 e t1 w1 ⟨S1,pos1,hp1,vk1,vb1,vs1,lk1,xb1,st,l1,nf,htt,hc⟩ hK2
  have c1:=st.g.bufs
  have er:=st.g.err
  have hUs:=aC c1
  refine bu @c1 ?_
  refine iY st.h.at_ ?_
  by_cases h0:0 < hp1.size
  ·have h0':(0:Int) < hp1.size:=by omega
   have hr:=(st.h.mem _).1 (kY h0)
   obtain ⟨r,hre⟩:∃ r,r=hp1[0]! := ⟨_,rfl⟩
   rw [← hre] at hr
   obtain ⟨ht,hroot⟩:=nf.root m.bds hr.1 hr.2 fun x hx hv=>by rw [hre]; exact st.h.root_min hx hv
   have lr:=st.g.lv r hr.1
   have dk:=lr.kd
   obtain ⟨kv,d2,kvc,y2⟩:=lr.ky
   obtain ⟨kvS,kvB⟩:=y2 hr.2
   rw [show iA Ls[r]!.L (pos1 r).toNat=B[t1]! from hroot] at kvB
   obtain ⟨kva,kvn,kvcap,rfl⟩:=iZ kvS
   have p0:=st.h.at_.ptr 0 h0
   rw [← hre] at p0
   have c2:=st.h.at_.c2
   obtain ⟨_,_,_,u3⟩:=st.u.u3
   have fU:=st.g.fU
   have z0:(0:Int).toNat=0:=rfl
   have z1:(0:Int)≤0:=by decide
   refine HX @h0' @er @c1 @c2 @p0 @d2 @dk @z0 @z1 @u3 @fU @Nat.zero_mul @Nat.add_zero ?_
   obtain ⟨st2,l2⟩:=st.setU m (x:=o+1) (.inl rfl) (.slice (some kva) kvn kvcap) ⟨_,_,_,rfl⟩
   obtain ⟨w2,hw2⟩:∃ w2,w2=w1.setCell ⟨U,o+1,none⟩ (.slice (some kva) kvn kvcap):=⟨_,rfl⟩
   rw [← hw2] at st2 l2 ⊢
   have w23:w2.cell? ⟨U,o+1,none⟩=some (.slice (some kva) kvn kvcap):=by rw [hw2]; exact bX @u3
   refine mW (fun _:Unit=>[(0,.pointer (some ⟨U,o,none⟩))]) (fun _ w'=>∃ S2 vb2 xb2 v,St d w' U o Bf Z Ls S2 pos1 false hp1 vk1 vb2 vs1 lk1 xb2∧Lt w1 w' U o Bf Z Ls S1 S2∧w'.cell? ⟨U,o+1,none⟩=some v∧rY v=true∧SB d vb2 xb2 v B[t1]!) (by kernel_rfl) (by kernel_rfl) (fun K3 hK3 => ?_) ?_
   ·by_cases hkd:ia Ls[r]!.L (pos1 r)=2
    ·have e5:(ia Ls[r]!.L (pos1 r) == 2)=true:=by rw [hkd]; rfl
     have c1:=st2.g.bufs
     have b5:=st2.r.bh
     have fB:=st2.g.fB
     have fU:=st2.g.fU
     have hUs2:=aC c1
     have hBs2:=aC b5
     obtain ⟨ba,bcap,hbe,hbc,_⟩:=bP st2.r.bo
     subst hbe
     have zb:(0:Int)≤bcap:=by omega
     have kvB2:dR w2 (.slice (some kva) kvn kvcap) B[t1]! := kvB.inc st2.g.inc
     refine bu @e5 ?_
     refine bF (sq [0,1,2] (.read 3 (sq [4,5,6] (.read 7 (sq [8,9] (.read 10 (sq [11,12,13,14] (.read 15 (.eff 16 [3] (sq [17,18] (.eff 19 [] .done))))))))))) ?_
     simp (disch:=first | exact dZ | fail) only [go_sem,c1,b5,w23,pG Tryz.es56,z0,zb]
     have hBm:B[t1]! ∈ B:=by rw [aI B t1 (by omega)]; exact an _
     have hbl:=m.blen _ hBm
     simp only [me]
     refine pO (m:=B[t1]!.length) (news:=eF B[t1]!) rw56 (eQ st2.r.bo).drew (by rw [cP,Nat.mul_one]) (ie (by exact kvB2)) (ig _) (by omega) fun v5 w5 o5 k5 n5 s5 => ?_
     obtain ⟨a5,cap5,e5',_,_⟩:=bP o5
     subst e5'
     have k5:Keep (fun b _=>(Value.slice ba xb1.length bcap).ownBlock=some b) w2 w5:=(Keep.refl _ w2).drew.trans (k5 _ fun b o hb _=>by rw [cS ba xb1.length 0]; exact hb)
     have n25:cZ w2 (.slice ba xb1.length bcap) (.slice a5 (0+B[t1]!.length) cap5):=fun g' hg'=>by
      rcases n5 with h | ⟨g2,h,h',_⟩
      ·exact .inl (by rw [← hg',h]; exact cS _ _ _ _)
      ·rw [h] at hg'
       simp only [aP] at hg'
       subst hg'
       exact .inr h'
     rw [List.nil_append,Nat.zero_add,← cP] at o5
     rw [Nat.zero_add,← cP] at n25 s5
     have hnb:∀ g',(Value.slice ba xb1.length bcap).ownBlock=some g'→g'≠U∧g'≠Bf:=fun g' hg'=>⟨(st2.r.sp _ (st2.r.bS _ hg')).1,(st2.r.sp _ (st2.r.bS _ hg')).2.1⟩
     obtain ⟨st6,l6⟩:=st2.buf m o5 k5 n25
     have c1:=k5.some c1 fun h=>(hnb _ h).1 rfl
     have b5:=k5.some b5 fun h=>(hnb _ h).2 rfl
     have w53:=k5.some w23 fun h=>(hnb _ h).1 rfl
     have fB:∀ x,w5.frozen? ⟨Bf,x,none⟩=false:=fun x=>by rw [k5.frozen Bf x hBs2]; exact fB x
     have fU:∀ x,w5.frozen? ⟨U,x,none⟩=false:=fun x=>by rw [k5.frozen U x hUs2]; exact fU x
     rw [Nat.zero_add,← cP]
     refine hJ @c1 @b5 @w53 @fB @fU ?_
     obtain ⟨st7,l7⟩:=st6.setU m (x:=o+1) (.inl rfl) (.slice a5 (eF B[t1]!).length cap5) ⟨_,_,_,rfl⟩
     have hne:B[t1]! ≠ []:=by
      intro h0
      have hl:=(m.mc.wf r hr.1).1 ((pos1 r).toNat / 2) (by have:=hr.2; unfold gY at this; omega)
      have:iA Ls[r]!.L (pos1 r).toNat=[]:=by rw [← h0]; exact hroot
      have hodd:¬ (pos1 r).toNat % 2=0:=fun he=>by
       rw [rZ hr.2 (by have:=hr.2; unfold gY at this; omega)] at hkd
       omega
      unfold iA at this
      rw [if_neg hodd] at this
      rw [this] at hl
      simp at hl
     refine hK3 _ _ () ?_ ⟨_,_,eF B[t1]!,_,st7,(l2.trans l6).trans l7,?_,zQ (s5 (by rw [cP]; exact List.length_pos_iff.2 hne)),.inr ⟨rfl,rfl⟩⟩
     ·exact bU
     ·exact bX @w53
    ·have e5:(ia Ls[r]!.L (pos1 r) == 2)=false:=by rw [beq_eq_false_iff_ne]; exact hkd
     refine bu @e5 ?_
     refine hK3 _ _ () ?_ ⟨S1,vb1,xb1,_,st2,l2,w23,rfl,.inl kvB⟩
     exact bU
   ·rintro e3 _ w3 ⟨S2,vb2,xb2,v3,st3,l3,q3,hs3,sb3⟩
    obtain ⟨v3a,v3n,v3c,rfl⟩:=iZ hs3
    refine bA ?_
    refine mh m.mc st3.g st3.h h0 fun w4 hp4 g4 h4 k4 => ?_
    rw [← hre] at g4 h4
    obtain ⟨st4,l4⟩:=st3.mv m g4 h4 k4
    have rg4:E9 Ls.size (Lf Ls) B t1 (pT pos1 r (lu Ls[r]!.L (pos1 r))):=nf.rg.step m.bds ht hr.1 hr.2 hroot
    have q4:=k4.some q3 (uS m.mc (by omega))
    refine bA ?_
    refine jf (fun _:Unit=>[(0,.pointer (some ⟨U,o,none⟩))]) (fun _ w'=>∃ pos' hp',St d w' U o Bf Z Ls S2 pos' false hp' vk1 vb2 vs1 lk1 xb2∧Lt w3 w' U o Bf Z Ls S2 S2∧w'.cell? ⟨U,o+1,none⟩=some (.slice (some v3a) v3n v3c)∧FA Ls.size (Lf Ls) B (t1+1) pos') (by kernel_rfl) (fun K4 hK4 => ?_) ?_
    ·refine bZ (fun _:(Nat→Int) × Array Nat=>[(0,.pointer (some ⟨U,o,none⟩))]) (fun x w'=>St d w' U o Bf Z Ls S2 x.1 false x.2 vk1 vb2 vs1 lk1 xb2∧Lt w3 w' U o Bf Z Ls S2 S2∧w'.cell? ⟨U,o+1,none⟩=some (.slice (some v3a) v3n v3c)∧E9 Ls.size (Lf Ls) B t1 x.1) (fun x _=>Ks Ls x.1) (_,hp4) (by kernel_rfl) ?_ ⟨st4,l4,q4,rg4⟩ ?_
     ·exact bU
     rintro K5 e5 ⟨pos5,hp5⟩ w5 ⟨st5,l5,q5,rg5⟩ hK5
     simp only at st5 rg5
     have c1:=st5.g.bufs
     have c2:=st5.h.at_.c2
     have er:=st5.g.err
     refine bA ?_
     refine bF (sq [0,1,2] (.read 3 (sq [4,5,6] (.read 7 (sq [8,9,10,11,12,13] (.read 14 (sq [15,16,17,18,19,21,22,23] (.read 24 (.eff 20 [24] (.eff 25 [] (sq [26,27] .done))))))))))) ?_
     by_cases h5:0 < hp5.size
     ·have h5':(0:Int) < hp5.size:=by omega
      have hr5:=(st5.h.mem _).1 (kY h5)
      obtain ⟨kv5,d5,_,y5⟩:=(st5.g.lv _ hr5.1).ky
      obtain ⟨kvS5,kvB5⟩:=y5 hr5.2
      obtain ⟨kva5,kvn5,kvc5,rfl⟩:=iZ kvS5
      refine hJ @c1 @c2 @er @h5' @q5 ?_
      refine vY (by first | exact st5.g.drew | exact st5.g) (by first | exact st5.h.drew | exact st5.h) h5 (by exact d5) ⟨_,_,_,rfl⟩ ?_
      refine bu @q5 ?_
      refine Fs (x:=iA Ls[hp5[0]!]!.L (pos5 hp5[0]!).toNat) (y:=B[t1]!) (by exact c1) (by exact st5.h.at_.c0) (by exact kvB5.inc st5.g.inc) (by exact st5.r.sb st5.g.inc sb3) ?_
      by_cases heq:iA Ls[hp5[0]!]!.L (pos5 hp5[0]!).toNat=B[t1]!
      ·have e6:(eH (iA Ls[hp5[0]!]!.L (pos5 hp5[0]!).toNat) B[t1]! == 0)=true:=by rw [beq_iff_eq]; exact gB.2 heq
       refine bu @e6 ?_
       have heq':iA (Lf Ls hp5[0]!) (pos5 hp5[0]!).toNat=B[t1]! := heq
       refine mh m.mc (by first | exact st5.g.drew | exact st5.g) (by first | exact st5.h.drew | exact st5.h) h5 fun w6 hp6 g6 h6 k6 => ?_
       have k6:Keep (qw U o Bf 0 Ls) w5 w6:=by first | exact k6 | exact (Keep.refl _ w5).drew.trans k6
       obtain ⟨st6,l6⟩:=st5.mv m g6 h6 k6
       refine bA ?_
       refine hK5 _ _ (pT pos5 hp5[0]! (lu Ls[hp5[0]!]!.L (pos5 hp5[0]!)),hp6) ?_ ⟨st6,l5.trans l6,k6.some q5 (uS m.mc (by omega)),rg5.step m.bds ht hr5.1 hr5.2 heq'⟩ (Hh hr5.1 hr5.2)
       exact bU
      ·have e6:(eH (iA Ls[hp5[0]!]!.L (pos5 hp5[0]!).toNat) B[t1]! == 0)=false:=by rw [beq_eq_false_iff_ne]; exact fun h=>heq (gB.1 h)
       refine bu @e6 ?_
       refine hK4 _ _ () ?_ ⟨pos5,hp5,st5.drew,l5.drew,q5,rg5.done m.bds ht fun x hx hv he => ?_⟩
       ·exact bU
       ·have a1:=st5.h.root_min hx hv
        have a2:=rg5.ge m.bds ht hr5.1 hr5.2
        have a3:iA Ls[x]!.L (pos5 x).toNat=B[t1]! := he
        rw [a3] at a1
        exact heq (eY a2 a1)
     ·have h5':¬ (0:Int) < hp5.size:=by omega
      refine eO @c1 @c2 @er @h5' ?_
      refine hK4 _ _ () ?_ ⟨pos5,hp5,st5.drew,l5.drew,q5,rg5.done m.bds ht fun x hx hv=>absurd hv (st5.h.empty h5 hx)⟩
      exact bU
    ·rintro e5 _ w5 ⟨pos5,hp5,st5,l5,q5,af5⟩
     have l15:Lt w1 w5 U o Bf Z Ls S1 S2:=l3.trans l5
     have c1:=st5.g.bufs
     have c2:=st5.h.at_.c2
     have er:=st5.g.err
     have hUs5:=aC c1
     by_cases h5:0 < hp5.size
     ·have h5':((hp5.size:Int) == 0)=false:=by rw [beq_eq_false_iff_ne]; omega
      have hz5:(0:Int) < hp5.size:=by omega
      have hr5:=(st5.h.mem _).1 (kY h5)
      obtain ⟨r5,hre5⟩:∃ r5,r5=hp5[0]! := ⟨_,rfl⟩
      rw [← hre5] at hr5
      have nf5:=af5.near m.bds (show t1+1≤B.length by omega)
      obtain ⟨ht5,hroot5⟩:=nf5.root m.bds hr5.1 hr5.2 fun x hx hv=>by rw [hre5]; exact st5.h.root_min hx hv
      obtain ⟨kv5,d5,_,y5⟩:=(st5.g.lv _ hr5.1).ky
      obtain ⟨kvS5,kvB5⟩:=y5 hr5.2
      rw [show iA Ls[r5]!.L (pos5 r5).toNat=B[t1+1]! from hroot5] at kvB5
      obtain ⟨kva5,kvn5,kvc5,rfl⟩:=iZ kvS5
      have p5:=st5.h.at_.ptr 0 h5
      rw [← hre5] at p5
      obtain ⟨_,_,_,u4⟩:=st5.u.u4
      have fU:=st5.g.fU
      refine HX @c1 @c2 @er @h5' @p5 @d5 @z0 @z1 @hz5 @u4 @fU @Nat.zero_mul @Nat.add_zero ?_
      obtain ⟨st6,l6⟩:=st5.setU m (x:=o+2) (.inr rfl) (.slice (some kva5) kvn5 kvc5) ⟨_,_,_,rfl⟩
      obtain ⟨w6,hw6⟩:∃ w6,w6=w5.setCell ⟨U,o+2,none⟩ (.slice (some kva5) kvn5 kvc5):=⟨_,rfl⟩
      rw [← hw6] at st6 l6 ⊢
      have q63:w6.cell? ⟨U,o+1,none⟩=some (.slice (some v3a) v3n v3c):=by rw [hw6]; exact bX @q5
      have q64:w6.cell? ⟨U,o+2,none⟩=some (.slice (some kva5) kvn5 kvc5):=by rw [hw6]; exact bX @u4
      have hB6:=aC st6.g.lvls
      have hU6:=aC q63
      refine zO (u:=t1+1) m st6.g st6.u st6.h.at_.c0 af5 st6.r.k st6.r.x (fun g hg=>by obtain ⟨a1,a2,a3,a4,_⟩:=st6.r.sp _ (st6.r.kS g hg); exact ⟨a1,a2,a3,a4⟩) (fun g hg=>by obtain ⟨a1,a2,a3,a4,_⟩:=st6.r.sp _ (st6.r.sS g hg); exact ⟨a1,a2,a3,a4,st6.r.ks g hg⟩) q63 q64 fun w7 vk7 vs7 lk7 kv7 p6 p7 p8 p9 ok oT ox xl nk ns dj k7 => ?_
      obtain ⟨st7,l7⟩:=st6.syn m ok ox xl nk ns dj k7 ⟨_,p6⟩ ⟨_,p7⟩ ⟨_,p8⟩ ⟨_,p9⟩
      have n7:∀ x,o≤x→x≤o+3→¬ Gm U o Bf Z vk1 vs1 U x:=by
       rintro x h0 hx (⟨_,h1,h2⟩ | ⟨h,_⟩ | h | h | h)
       ·omega
       ·exact ne h.symm
       ·have:=m.tU h; omega
       ·exact (st6.r.sp _ (st6.r.kS _ h)).1 rfl
       ·exact (st6.r.sp _ (st6.r.sS _ h)).1 rfl
      have q73:=k7.some q63 (n7 _ (by omega) (by omega))
      have q74:=k7.some q64 (n7 _ (by omega) (by omega))
      have l17:=(l15.trans l6).trans l7
      by_cases hcov:tE Ls.size (Lf Ls) B (t1+1)=true
      ·rw [hcov]
       refine bA ?_
       have hin:t1+1 ∈ eK Ls.size (Lf Ls) B:=gO.2 ⟨by omega,hcov⟩
       refine (hk w7 _ (t1+1) pos5 hp5 _ _ _ _ _ st7 (l1.trans l17) af5).1 hin ?_ ?_ ?_ ⟨_,q73,rfl⟩ ⟨_,q74,rfl⟩
       ·omega
       ·intro v hv hlt hvu
        have:=hc v hv hlt
        omega
       ·exact ⟨⟨_,p6,st7.r.lb sb3⟩,⟨_,p7,.inl kvB5⟩,⟨_,p8,oT.mono fun b hb => .inr hb⟩,p9⟩
      ·have hcov:tE Ls.size (Lf Ls) B (t1+1)=false:=by simpa using hcov
       rw [hcov]
       refine bA ?_
       refine hK2 _ _ (t1+1) ?_ ⟨_,pos5,hp5,_,_,_,_,_,st7,l1.trans l17,nf5,by omega,fun v hv hlt => ?_⟩ (by omega)
       ·exact bU
       ·have:=hc v hv hlt
        have hvc:=(gO.1 hv).2
        rcases aH (t1+1) v with h | h
        ·exact h
        ·obtain rfl:v=t1+1:=by omega
         rw [hcov] at hvc
         simp at hvc
     ·have h5':((hp5.size:Int) == 0)=true:=by rw [beq_iff_eq]; omega
      obtain hm:t1+1=B.length:=(af5.near m.bds (by omega)).none m.bds fun x hx=>st5.h.empty h5 hx
      refine dQ @c1 @c2 @h5' ?_
      refine hK _ _ () ?_ ⟨S2,pos5,hp5,vk1,vb2,vs1,lk1,xb2,st5,l1.trans l15,by rw [← hm]; exact af5,fun v hv hlt => ?_⟩
      ·exact bU
      ·have:=hc v hv hlt
       have:=(mA m.bds v hv).2
       omega
  ·have h0':¬ (0:Int) < hp1.size:=by omega
   refine bu @h0' ?_
   obtain rfl:t1=B.length:=nf.none m.bds fun x hx=>st.h.empty h0 hx
   refine hK _ _ () ?_ ⟨S1,pos1,hp1,vk1,vb1,vs1,lk1,xb1,st,l1,?_,fun v hv hlt => ?_⟩
   ·exact bU
   ·intro i hi hl
    have:=(nf.rg i hi hl)
    rw [show min (B.length+1) B.length=B.length by omega] at this
    omega
   ·have:=hc v hv hlt
    have:=(mA m.bds v hv).2
    omega
 rintro e _ w1 ⟨S1,pos1,hp1,vk1,vb1,vs1,lk1,xb1,st,l1,af,hc⟩
 refine bA ?_
 refine BU st.g st.r.k (fun g hg=>⟨(st.r.sp _ (st.r.kS g hg)).1,(st.r.sp _ (st.r.kS g hg)).2.1⟩) (Ne.symm ne) fun w2 vk2 ok ek k2 => ?_
 obtain ⟨st2,l2⟩:=st.clr m ok ek k2
 refine bA ?_
 exact (hk w2 _ B.length pos1 hp1 _ _ _ _ _ st2 (l1.trans l2) af).2 rfl hc
end
end Go.Proofs
end
section
namespace Go.Proofs
open Go Go.E Go.Sort
section
variable {k:aq} {d w:World} {U o Bf t:Nat} {Z:TX} {Ls:Array Lvl} {B:List Bytes} {pos:Nat→Int} {hp:Array Nat}
end
end Go.Proofs
end
section
namespace Go.E
open Go Go.Sort Go.Proofs
structure Sc (d w:World) (U o Bf:Nat) (Z:TX) (Ls:Array Lvl) (S:Nat→Prop) (pos:Nat→Int) (vk vb:Value) (vs:Nat→Prop) (lk:List KR) (xb:List Value):Prop where
 g:MB d w U o Bf 0 Ls pos
 hw:HW w U o Bf 0
 u:MU w U o Z
 r:MR d w U o Bf Z Ls S vk vb vs lk xb
theorem St.sc {d w:World} {U o Bf:Nat} {Z:TX} {Ls:Array Lvl} {S:Nat→Prop} {pos:Nat→Int} {rev:Bool} {hp:Array Nat} {vk vb:Value} {vs:Nat→Prop} {lk:List KR} {xb:List Value} (st:St d w U o Bf Z Ls S pos rev hp vk vb vs lk xb):Sc d w U o Bf Z Ls S pos vk vb vs lk xb:=⟨st.g,st.h.at_.hw,st.u,st.r⟩
def mT (U o Bf:Nat) (Z:TX) (Ls:Array Lvl):Nat→Nat→Prop:=fun b x=>b=U∧o≤x∧x < o+70∨b=Bf∧x≤5∨(∃ i,i < Ls.size∧b=Ls[i]!.I)∨Z.T b x
def AT (w:World) (U o:Nat):Prop:=(∃ v,w.cell? ⟨U,o+1,none⟩=some v∧rY v=true)∧∃ v,w.cell? ⟨U,o+2,none⟩=some v∧rY v=true
def Mi (d:World) (U o Bf:Nat) (Z:TX) (Ls:Array Lvl) (B:List Bytes) (w:World) (S:Nat→Prop) (p:Int):Prop :=
 ∃ u pos vk vb vs lk xb,Sc d w U o Bf Z Ls S pos vk vb vs lk xb∧u≤B.length∧AO (eK Ls.size (Lf Ls) B) B.length u p∧(0≤p→p < (eK Ls.size (Lf Ls) B).length→qO Z.ord d S w U (o+4) (lz Z.F Ls.size (Lf Ls) B u)) ∧
  (w.cell? ⟨U,o+9,none⟩=some (.int .i8 1)∧(∃ hp,MH w U o Bf 0 Ls pos false hp)∧FA Ls.size (Lf Ls) B u pos∧(u=B.length∨AT w U o) ∨
   w.cell? ⟨U,o+9,none⟩=some (.int .i8 (-1))∧(∃ hp,MH w U o Bf 0 Ls pos true hp)∧He Ls.size (Lf Ls) B u pos∧(u=0∨AT w U o) ∨
   w.cell? ⟨U,o+9,none⟩=some (.int .i8 0)∧He Ls.size (Lf Ls) B u pos∧u=0∧w.cell? ⟨Bf,4,none⟩=some (.slice (some ⟨U,o+50,none⟩) 0 10))
section
variable {d w w1 w2:World} {U o Bf t:Nat} {Z:TX} {Ls:Array Lvl} {B:List Bytes} {S S1:Nat→Prop} {pos:Nat→Int} {vk vb:Value} {vs:Nat→Prop} {lk:List KR} {xb:List Value} {p q:Int} {k:aq}
theorem Hj (b x:Nat) (h:JZ U o Bf Z Ls S b x):mT U o Bf Z Ls b x∨S b:=by
 rcases h with (⟨h1,h2,h3⟩ | ⟨h1,h2,h3⟩ | ⟨i,hi,h1,_⟩) | ⟨h1,h2⟩ | ⟨h1,h2⟩ | h | h
 ·exact .inl (.inl ⟨h1,by omega⟩)
 ·exact .inl (.inr (.inl ⟨h1,by omega⟩))
 ·exact .inl (.inr (.inr (.inl ⟨i,hi,h1⟩)))
 ·exact .inl (.inl ⟨h1,by omega⟩)
 ·exact .inl (.inr (.inl ⟨h1,by omega⟩))
 ·exact .inl (.inr (.inr (.inr h)))
 ·exact .inr h
structure Bef (w w1:World) (U o Bf:Nat) (Z:TX) (Ls:Array Lvl) (S S1:Nat→Prop):Prop where
 s:∀ b,S1 b→S b∨w.heap.size≤b
 k:Keep (JZ U o Bf Z Ls S) w w1
theorem Bef.refl (w:World) (U o Bf:Nat) (Z:TX) (Ls:Array Lvl) (S:Nat→Prop):Bef w w U o Bf Z Ls S S:=⟨fun _ h => .inl h,Keep.refl _ w⟩
theorem Bef.trans {S2:Nat→Prop} (h:Bef w w1 U o Bf Z Ls S S1) (h2:Bef w1 w2 U o Bf Z Ls S1 S2):Bef w w2 U o Bf Z Ls S S2 where
 s b hb:=by
  rcases h2.s b hb with h3 | h3
  ·exact h.s b h3
  ·exact .inr (ah h.k.size h3)
 k:=h.k.tr h2.k fun b x hb hm=>xR hm hb (h.s b)
theorem Lt.bef (h:Lt w w1 U o Bf Z Ls S S1):Bef w w1 U o Bf Z Ls S S1:=⟨h.s,h.k⟩
theorem Bef.ret (h:Bef w w1 U o Bf Z Ls S S1) (hk:FK (.pointer none) U (o+4) (GL Z.F Ls.size (Lf Ls) B) (mT U o Bf Z Ls) (Mi d U o Bf Z Ls B) w S q k) (hm:Mi d U o Bf Z Ls B w1 S1 q):k (l8 U (o+4) (GL Z.F Ls.size (Lf Ls) B) q) w1 :=
 hk w1 S1 hm h.s (h.k.mono fun b x _ hx=>Hj b x hx)
theorem Ja (m:MS d U o Bf Z Ls B) (b1:Bef w w1 U o Bf Z Ls S S1) (e1:w1.cell? ⟨U,o+9,none⟩=some (.int .i8 1)) (hc:∀ u ∈ eK Ls.size (Lf Ls) B,t < u→(∀ v ∈ eK Ls.size (Lf Ls) B,t < v→¬ v < u)→AO (eK Ls.size (Lf Ls) B) B.length u q∧0≤q∧q < (eK Ls.size (Lf Ls) B).length)
    (hn:(∀ v ∈ eK Ls.size (Lf Ls) B,¬ t < v)→q=(eK Ls.size (Lf Ls) B).length) (hk:FK (.pointer none) U (o+4) (GL Z.F Ls.size (Lf Ls) B) (mT U o Bf Z Ls) (Mi d U o Bf Z Ls B) w S q k):Hi d w1 U o Bf Z Ls B S1 t k:=by
 intro w2 S2 u pos' hp' vk vb vs lk xb st l2 af
 refine ⟨fun hu htu hno sp s3 s4 => ?_,fun hu hno => ?_⟩
 ·obtain ⟨h1,h2,h3⟩:=hc u hu htu hno
  have:=(b1.trans l2.bef).ret (B:=B) (d:=d) hk ⟨u,pos',_,_,_,_,_,st.sc,(gO.1 hu).1,h1,fun _ _=>sp,.inl ⟨by rw [l2.e]; exact e1,⟨_,st.h⟩,af,.inr ⟨s3,s4⟩⟩⟩
  rwa [mR h2 (by rw [dX]; exact h3)] at this
 ·have hq:=hn hno
  subst hu
  have:=(b1.trans l2.bef).ret (B:=B) (d:=d) hk ⟨B.length,pos',_,_,_,_,_,st.sc,aF _,.inr (.inl ⟨hq,rfl⟩),fun _ h=>by omega,.inl ⟨by rw [l2.e]; exact e1,⟨_,st.h⟩,af,.inl rfl⟩⟩
  rwa [jy (by rw [dX]; omega)] at this
theorem Sc.turn {pos':Nat→Int} {hp':Array Nat} {rev:Bool} {dv:Value} (sc:Sc d w U o Bf Z Ls S pos vk vb vs lk xb) (m:MS d U o Bf Z Ls B) (g:MB d w2 U o Bf 0 Ls pos') (h:MH w2 U o Bf 0 Ls pos' rev hp') (e:w2.cell? ⟨U,o+9,none⟩=some dv) (hk:Keep (JR U o Bf 0 Ls) w w2) :
    St d w2 U o Bf Z Ls S pos' rev hp' vk vb vs lk xb∧Bef w w2 U o Bf Z Ls S S:=by
 have c:=m.mc
 have nU:∀ x,x < o+9∨o+70≤x→¬ JR U o Bf 0 Ls U x:=by
  rintro x hx (h | ⟨_,h⟩)
  ·exact uS c (by omega) h
  ·omega
 have nB:∀ x,x < 3∨4 < x→¬ JR U o Bf 0 Ls Bf x:=by
  rintro x hx (h | ⟨h,_⟩)
  ·exact Dt c (by omega) h
  ·exact c.ne h
 refine ⟨⟨g,h,sc.u.keep hk (fun x h1 h2=>nU x (by omega)) ⟨_,e⟩,sc.r.keep m hk (nB _ (by omega)) (nB _ (by omega)) (fun gb hg x hx => ?_) fun b x _ h => ?_⟩,⟨fun _ h => .inl h,hk.mono fun b x _ h => ?_⟩⟩
 ·obtain ⟨a,b,_,e',_⟩:=sc.r.sp gb hg
  rcases hx with (⟨h1,_⟩ | ⟨h1,_⟩ | ⟨i,hi,h1,_⟩) | ⟨h1,_⟩
  ·exact a h1
  ·exact b h1
  ·exact e' i hi h1
  ·exact a h1
 ·rcases h with h | ⟨rfl,rfl⟩
  ·exact Gn m h
  ·exact ⟨fun h=>by have:=m.tU h; omega,c.oU _⟩
 ·rcases h with h | ⟨h1,h2⟩
  ·exact .inl h
  ·exact .inr (.inl ⟨h1,by omega⟩)
theorem Sc.drew (sc:Sc d w U o Bf Z Ls S pos vk vb vs lk xb):Sc d w.drew U o Bf Z Ls S pos vk vb vs lk xb:=⟨sc.g.drew,⟨sc.hw.c0,sc.hw.c1,sc.hw.c2,sc.hw.ex⟩,sc.u.drew,sc.r.drew⟩
theorem Bef.drew (h:Bef w w1 U o Bf Z Ls S S1):Bef w w1.drew U o Bf Z Ls S S1:=⟨h.s,h.k.drew⟩
theorem Sc.lv {pos':Int} {r:Nat} (sc:Sc d w U o Bf Z Ls S pos vk vb vs lk xb) (m:MS d U o Bf Z Ls B) (hr:r < Ls.size) (hl:LvAt d w2 U (o+10+r * 4) Ls[r]!.I Ls[r]!.b Ls[r]!.o Ls[r]!.L pos') (hk:Keep (Gf U (o+10+r * 4) Ls[r]!.I) w w2) :
    Sc d w2 U o Bf Z Ls S (pT pos r pos') vk vb vs lk xb∧Bef w w2 U o Bf Z Ls S S:=by
 have c:=m.mc
 have k':Keep (qw U o Bf 0 Ls) w w2:=hk.mono fun b x _ h=>qy (o:=o) c hr b x h
 exact ⟨⟨sc.g.step c hr hl hk,sc.hw.step (o:=o) c hr hk,sc.u.mv c k',sc.r.mv m k'⟩,⟨fun _ h => .inl h,k'.mono fun b x _ h => .inl h⟩⟩
end
end Go.E
end
section
namespace Go.Proofs
open Go Go.E Go.Sort Go.Proofs.Tryz
section
variable {k:aq} {d w:World} {U o Bf:Nat} {Z:TX} {Ls:Array Lvl} {B:List Bytes} {S:Nat→Prop} {pos:Nat→Int} {vk vb:Value} {vs:Nat→Prop} {lk:List KR} {xb:List Value} {p:Int}
theorem BV (g:MB d w U o Bf 0 Ls pos) (hk:k (.tuple #[]) w):ai prog 178 #[.pointer (some ⟨U,o,none⟩)] k w:=by
 have er:=g.err
 have fU:=g.fU
 refine al [] func178 ?_
 refine dO @er @fU ?_
 rw [gw er]
 exact hk
theorem rr (st:Nat→Int→Int) (pos:Nat→Int) {i n:Nat} (h:i < n):Ck st pos n i=st i (pos i):=if_pos h
set_option maxHeartbeats 1000000 in
theorem BW (m:MS d U o Bf Z Ls B) (sc:Sc d w U o Bf Z Ls S pos vk vb vs lk xb)
    (hk:FK (.pointer none) U (o+4) (GL Z.F Ls.size (Lf Ls) B) (mT U o Bf Z Ls) (Mi d U o Bf Z Ls B) w S 0 k):ai prog 169 #[.pointer (some ⟨U,o,none⟩)] k w:=by
 have c:=m.mc
 have c1:=sc.g.bufs
 have lvs:=sc.g.lvls
 refine al [.tmp 2] func169 ?_
 refine bA ?_
 refine BV sc.g ?_
 refine dO @c1 @lvs ?_
 refine bZ (fun i:Nat=>[(0,.pointer (some ⟨U,o,none⟩)),(14,.int .i64 Ls.size),(15,.int .i64 i)]) (fun i w'=>Sc d w' U o Bf Z Ls S (Ck (fun x q=>if Ls[x]!.L.length=0 then q else 0) pos i) vk vb vs lk xb∧Bef w w' U o Bf Z Ls S S∧i≤Ls.size) (fun i _=>Ls.size - i) 0 (by kernel_rfl) ?_ ⟨by rw [xI]; exact sc,Bef.refl _ _ _ _ _ _ _,aT _⟩ ?_
 ·exact bU
 rintro K e i w1 ⟨sc1,b1,hi0⟩ hK
 have c1:=sc1.g.bufs
 have lvs:=sc1.g.lvls
 have n10:=c.n10
 by_cases hi:i < Ls.size
 ·have hi':(i:Int) < Ls.size:=by omega
  have l1:=sc1.g.lv i hi
  rw [xJ] at l1
  have d0:=l1.it
  have d1:=l1.kd
  obtain ⟨v2,d2,_,_⟩:=l1.ky
  obtain ⟨v3,d3,_,_⟩:=l1.sp
  have e2:=xH (fun x q=>if Ls[x]!.L.length=0 then q else 0) pos i
  have hsz:=c.sz i hi
  refine eO @hi' @c1 @lvs @d0 ?_
  refine tP l1.iter (by omega) fun w2 i2 k2 => ?_
  have k2':Keep (Gf U (o+10+i * 4) Ls[i]!.I) w1 w2:=k2.mono fun b x _ h => .inr h
  have nU:∀ x,¬ Da Ls[i]!.I U x:=fun x h=>c.iU i hi h.1.symm
  have nB:∀ x,¬ Da Ls[i]!.I Bf x:=fun x h=>c.iB i hi h.1.symm
  have c1:=k2.some c1 (nU _)
  have lvs:=k2.some lvs (nB _)
  have d1:=k2.some d1 (nU _)
  have d2:=k2.some d2 (nU _)
  have d3:=k2.some d3 (nU _)
  have fU:∀ x,w2.frozen? ⟨U,x,none⟩=false:=fun x=>by rw [k2.frozen U x (aC sc1.g.bufs)]; exact sc1.g.fU x
  by_cases hl:Ls[i]!.L.length=0
  ·rw [if_pos hl]
   rw [if_pos hl] at i2
   simp (disch:=first | exact dZ | fail) only [go_sem,c1,lvs,d1,d2,d3,fU,Option.isNone_none]
   have q1:=l1.mk' (q:=pos i) (x:=0) (y := .slice none 0 0) (z := .pointer none) (Ne.symm (c.iU i hi)) l1.rg i2 k2 (by rw [mQ (by unfold gY; omega)]) rfl rfl (fun h=>by unfold gY at h; omega) (fun h=>by unfold gY at h; omega)
   obtain ⟨sc2,b2⟩:=sc1.lv m hi q1 (oH k2)
   have e3:(if Ls[i]!.L.length=0 then pos i else 0)=pos i:=if_pos hl
   simp only [e3] at e2
   rw [e2] at sc2
   refine hK _ _ (i+1) ?_ ⟨sc2,b1.trans b2,by omega⟩ (by omega)
   exact bU
  ·rw [if_neg hl]
   rw [if_neg hl] at i2
   have hinc2:cM d w2:=sc1.g.inc.keep k2 fun b x h=>by rw [h.1]; exact c.oI i hi x
   obtain ⟨⟨vv1,s1,s1s,s1b⟩,⟨vv2,s2,s2s,s2b⟩,_,_⟩:=c.sp i hi (0) (by omega)
   have s1:=hinc2 _ _ _ s1
   have s2:=hinc2 _ _ _ s2
   obtain ⟨a1,n1,cc1,rfl⟩:=iZ s1s
   obtain ⟨a2,n2,cc2,rfl⟩:=iZ s2s
   simp (disch:=first | exact dZ | fail) only [go_sem,AI,Option.isNone_some]
   refine bF (sq [0,1,2] (.read 3 (sq [4,5] (.read 6 (sq [7,8,9,10] (.read 11 (sq [12,13,14,15] (.eff 16 [] .done)))))))) ?_
   simp (disch:=first | exact dZ | fail) only [go_sem,c1,lvs,d1,d2,d3,fU,AI,s1,s2]
   have q1:=l1.mk' (q:=0) (x:=1) (y := .slice (some a1) n1 cc1) (z:=AI Ls[i]!.b Ls[i]!.o (0)) (Ne.symm (c.iU i hi)) (by omega) (by exact i2) k2 ((rZ ⟨by omega,by omega⟩ (by omega)).symm) rfl rfl (fun h=>⟨rfl,?_⟩) (fun h => ?_)
   ·obtain ⟨sc2,b2⟩:=sc1.lv m hi q1 (oH k2)
    have e3:(if Ls[i]!.L.length=0 then pos i else 0)=0:=if_neg hl
    simp only [e3] at e2
    rw [e2] at sc2
    refine hK _ _ (i+1) ?_ ⟨(by first | exact sc2 | exact sc2.drew),(by first | exact b1.trans b2 | exact (b1.trans b2).drew),by omega⟩ (by omega)
    exact bU
   ·unfold iA; rw [if_pos (by decide)]; exact s1b
   ·rfl
 ·have hi':¬ (i:Int) < Ls.size:=by omega
  obtain rfl:i=Ls.size:=by omega
  refine bu @hi' ?_
  refine lL c sc1.g sc1.hw sc1.u.u11 fun w2 hp2 g2 h2 e2 k2 => ?_
  obtain ⟨st2,b2⟩:=sc1.turn m g2 h2 e2 k2
  refine bA ?_
  refine jH m st2 (FA.near (t:=0) m.bds (fun i hi hl => ?_) (aT _)) ?_
  ·have hl:0 < Ls[i]!.L.length:=hl; rw [rr _ _ hi]; show (if Ls[i]!.L.length=0 then pos i else (0:Int))=_; rw [if_neg (by omega)]; unfold cp; rw [if_pos rfl]; rfl
  ·refine Ja (q:=0) m (b1.trans b2) e2 (fun u hu htu hno => ?_) (fun hno => ?_) (fun w3 S3 r1 r2 r3 => ?_)
   ·have h:=AO.next (p := -1) ja (mA m.bds) (.inr (.inr ⟨rfl,rfl⟩)) hu htu hno; exact ⟨h.1,by omega,by have:=h.2; omega⟩
   ·have h:=AO.next_none (p := -1) ja (mA m.bds) (.inr (.inr ⟨rfl,rfl⟩)) hno; have:(eK Ls.size (Lf Ls) B).length=0:=(by omega); omega
   ·refine bA ?_
    exact hk w3 S3 r1 r2 r3
end
end Go.Proofs
end
section
namespace Go.Proofs
open Go Go.E Go.Sort Go.Proofs.Tryz
section
variable {k:aq} {d w:World} {U o Bf:Nat} {Z:TX} {Ls:Array Lvl} {B:List Bytes} {S:Nat→Prop} {p:Int}
theorem Dv {a:Option Addr} {n c:Nat}:rY (.slice a n c)=a.isSome:=by cases a <;> rfl
set_option maxHeartbeats 1000000 in
theorem Dw (m:MS d U o Bf Z Ls B) (hm:Mi d U o Bf Z Ls B w S p) (hp:p < (eK Ls.size (Lf Ls) B).length)
    (hk:FK (.pointer none) U (o+4) (GL Z.F Ls.size (Lf Ls) B) (mT U o Bf Z Ls) (Mi d U o Bf Z Ls B) w S (p+1) k):ai prog 171 #[.pointer (some ⟨U,o,none⟩)] k w:=by
 obtain ⟨u,pos,vk,vb,vs,lk,xb,sc,hu,hcur,hsp,hd⟩:=hm
 have c:=m.mc
 have er:=sc.g.err
 have hS:=ja (n:=Ls.size) (L:=Lf Ls) (B:=B)
 have hb:=mA m.bds
 have m11:((-1:Int) == 1)=false:=by decide
 have m11':((-1:Int) != 1)=true:=by decide
 have m01:((0:Int) == 1)=false:=by decide
 have m01':((0:Int) != 1)=true:=by decide
 have p11':((1:Int) != 1)=false:=by decide
 have fin:∀ {w1:World} {S1:Nat→Prop} {K:aq},Bef w w1 U o Bf Z Ls S S1→w1.cell? ⟨U,o+9,none⟩=some (.int .i8 1)→(∀ w3 S3,Mi d U o Bf Z Ls B w3 S3 (p+1)→(∀ b,S3 b→S b∨w.heap.size≤b)→Keep (fun b x=>mT U o Bf Z Ls b x∨S b) w w3→K (l8 U (o+4) (GL Z.F Ls.size (Lf Ls) B) (p+1)) w3)→Hi d w1 U o Bf Z Ls B S1 u K:=by
  intro w1 S1 K hb1 he hK
  refine Ja m hb1 he (fun v hv htv hno => ?_) (fun hno => ?_) hK
  ·have h:=hcur.next hS hb hv htv hno
   have:=hcur.rg
   exact ⟨h.1,by omega,h.2⟩
  ·have h:=hcur.next_none hS hb hno
   omega
 rcases hd with ⟨h11,⟨hp',hh⟩,af,hse⟩ | ⟨h11,_,ab,_⟩ | ⟨h11,ab,h0,_⟩
 ·obtain ⟨a3,n3,c3,u3⟩:=sc.u.u3
  obtain ⟨a4,n4,c4,u4⟩:=sc.u.u4
  have ended:u=B.length→k (l8 U (o+4) (GL Z.F Ls.size (Lf Ls) B) (p+1)) w:=by
   intro hu2
   have hpN:p+1=(eK Ls.size (Lf Ls) B).length:=by
    rcases hcur with ⟨j,rfl,hj⟩ | ⟨rfl,_⟩ | ⟨rfl,h0⟩
    ·have:=hb _ (aO hj); omega
    ·omega
    ·rcases bt (eK Ls.size (Lf Ls) B).length with h1 | h1
     ·omega
     ·have:=hb _ (an h1); omega
   exact hk w S ⟨u,pos,vk,vb,vs,lk,xb,sc,hu,.inr (.inl ⟨hpN,hu2⟩),fun _ h=>by omega,.inl ⟨h11,⟨hp',hh⟩,af,.inl hu2⟩⟩ (fun _ h => .inl h) (Keep.refl _ w)
  have endN:u=B.length→l8 U (o+4) (GL Z.F Ls.size (Lf Ls) B) (p+1) = .pointer none:=by
   intro hu2
   refine jy ?_
   rw [dX]
   rcases hcur with ⟨j,rfl,hj⟩ | ⟨rfl,_⟩ | ⟨rfl,h0⟩
   ·have:=hb _ (aO hj); omega
   ·omega
   ·rcases bt (eK Ls.size (Lf Ls) B).length with h1 | h1
    ·omega
    ·have:=hb _ (an h1); omega
  have hse4:a4=none∨a3=none→u=B.length:=by
   intro h
   rcases hse with h1 | ⟨⟨v3,q3,s3⟩,⟨v4,q4,s4⟩⟩
   ·exact h1
   ·rw [u3] at q3
    rw [u4] at q4
    cases q3
    cases q4
    rw [Dv] at s3 s4
    rcases h with rfl | rfl
    ·simp at s4
    ·simp at s3
  refine al [.tmp 2] func171 ?_
  cases a4 with
  | none =>
   have he:=ended (hse4 (.inl rfl))
   rw [endN (hse4 (.inl rfl))] at he
   simp (disch:=first | exact dZ | fail) only [go_sem,er,h11,u3,u4,p11',Option.isNone_none]
   exact he
  | some a4 =>
   cases a3 with
   | none =>
    have he:=ended (hse4 (.inr rfl))
    rw [endN (hse4 (.inr rfl))] at he
    simp (disch:=first | exact dZ | fail) only [go_sem,er,h11,u3,u4,p11',Option.isNone_none,Option.isNone_some]
    exact he
   | some a3 =>
    simp (disch:=first | exact dZ | fail) only [go_sem,er,h11,u3,u4,p11',Option.isNone_none,Option.isNone_some]
    refine jH m ⟨sc.g,hh,sc.u,sc.r⟩ (af.near m.bds hu) (fin (Bef.refl _ _ _ _ _ _ _) h11 fun w3 S3 r1 r2 r3 => ?_)
    refine bA ?_
    exact hk w3 S3 r1 r2 r3
 ·refine al [.tmp 2] func171 ?_
  refine eO @er @h11 @m11 @m11' ?_
  refine lP c sc.g sc.hw sc.u.u11 fun w2 hp2 g2 h2 e2 k2 => ?_
  obtain ⟨st2,b2⟩:=sc.turn m g2 h2 e2 k2
  refine bA ?_
  refine jH m st2 (FA.near m.bds (t:=u) (fun i hi hl => ?_) hu) (fin b2 e2 fun w3 S3 r1 r2 r3 => ?_)
  ·have a1:=ab i hi hl
   have a2:=jw (L:=Lf Ls) (B:=B) u i
   rw [rr _ _ hi]
   show lu Ls[i]!.L (pos i)=_
   have hl2:(Lf Ls i).length=Ls[i]!.L.length:=rfl
   unfold lu
   rw [if_neg (by omega)]
   exact a1
  ·refine bA ?_
   exact hk w3 S3 r1 r2 r3
 ·refine al [.tmp 2] func171 ?_
  refine eO @er @h11 @m01 @m01' ?_
  refine lP c sc.g sc.hw sc.u.u11 fun w2 hp2 g2 h2 e2 k2 => ?_
  obtain ⟨st2,b2⟩:=sc.turn m g2 h2 e2 k2
  refine bA ?_
  refine jH m st2 (FA.near m.bds (t:=u) (fun i hi hl => ?_) hu) (fin b2 e2 fun w3 S3 r1 r2 r3 => ?_)
  ·have a1:=ab i hi hl
   have a2:=jw (L:=Lf Ls) (B:=B) u i
   rw [rr _ _ hi]
   show lu Ls[i]!.L (pos i)=_
   have hl2:(Lf Ls i).length=Ls[i]!.L.length:=rfl
   unfold lu
   rw [if_neg (by omega)]
   exact a1
  ·refine bA ?_
   exact hk w3 S3 r1 r2 r3
end
end Go.Proofs
end
section
namespace Go.E
open Go Go.Sort Go.Proofs
section
variable {n:Nat} {L:Nat→List Sp} {B:List Bytes} {key:Bytes} {pos:Nat→Int}
end
end Go.E
end
section
namespace Go.Proofs
open Go Go.E Go.Sort
section
variable {k:aq} {d w:World} {U o Bf:Nat} {Z:TX} {Ls:Array Lvl} {B:List Bytes} {S:Nat→Prop} {pos:Nat→Int} {vk vb:Value} {vs:Nat→Prop} {lk:List KR} {xb:List Value} {p:Int}
end
end Go.Proofs
end
section
namespace Go.Proofs
open Go Go.E Go.Sort
section
variable {k:aq} {d w:World} {U o Bf:Nat} {Z:TX} {Ls:Array Lvl} {B:List Bytes} {S:Nat→Prop} {pos:Nat→Int} {vk vb:Value} {vs:Nat→Prop} {lk:List KR} {xb:List Value} {p:Int}
end
end Go.Proofs
end
section
namespace Go.E
open Go Go.Sort Go.Proofs
structure FJ (P:Program) (recv:Value) (d:World) (pb po:Nat) (ord:Int) (G:List Sp) (pF pL:Prop) (pK:Bytes→Prop) (T:Nat→Nat→Prop) (R:World→(Nat→Prop)→Int→Prop):Prop where
 wf:Wf G
 small:G.length < 1000000
 inc:∀ {w S p},R w S p→cM d w
 rg:∀ {w S p},R w S p → -2≤p∧p≤G.length
 cur:∀ {w S} {p:Int} {j:Nat},R w S p→p=j→j < G.length→qO ord d S w pb po G[j]!
 keep:∀ {w w2 S p M},R w S p→Keep M w w2→(∀ b x,b < w.heap.size→M b x→¬ T b x∧¬ S b∧d.cell? ⟨b,x,none⟩=none)→R w2 S p
 outS:∀ {w S p},R w S p→∀ b,S b→cj d b∧b < w.heap.size
 outT:∀ {b x},T b x→d.cell? ⟨b,x,none⟩=none
 next : ∀ {w S p k}, R w S p → -1 ≤ p → p < G.length → FK recv pb po G T R w S (p + 1) k → cQ P recv "Next" #[] k w
 prev : ∀ {w S p k}, R w S p → pL → -1 < p → FK recv pb po G T R w S (p - 1) k → cQ P recv "Prev" #[] k w
 first : ∀ {w S p k}, R w S p → pF → FK recv pb po G T R w S 0 k → cQ P recv "First" #[] k w
 last : ∀ {w S p k}, R w S p → pL → FK recv pb po G T R w S (G.length - 1) k → cQ P recv "Last" #[] k w
 seekGE : ∀ {w S p k kv key}, R w S p → pK key → dR w kv key → JW kv (fun b => ∀ x, ¬ T b x ∧ ¬ S b) → FK recv pb po G T R w S (qj G key) k → cQ P recv "SeekGE" #[kv] k w
 seekLT : ∀ {w S p k kv key}, R w S p → pK key → dR w kv key → JW kv (fun b => ∀ x, ¬ T b x ∧ ¬ S b) → FK recv pb po G T R w S (tQ G key) k → cQ P recv "SeekLT" #[kv] k w
 error : ∀ {w S p k}, R w S p → (∀ w', R w' S p → bp w w' → k .nilIface w') → cQ P recv "Error" #[] k w
end Go.E
end
