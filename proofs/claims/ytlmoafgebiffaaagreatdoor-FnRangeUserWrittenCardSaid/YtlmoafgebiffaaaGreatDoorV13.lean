/- Parts of the proof: Df, Dg, Dh, Di. -/
import Derived.Test.YtlmoafgebiffaaaGreatDoorV12
set_option linter.all false
set_option maxRecDepth 10000
section
namespace Go.E
open Go Go.Sort Go.Proofs Go.Proofs.Tryz
structure DC (d:World) (Y:DX) (U Bf C pb po:Nat) (rt:TypeId) (rv:Value) (G:List Sp) (pF pL:Prop) (pK:Bytes→Prop) (T:Nat→Nat→Prop) (R:World→(Nat→Prop)→Int→Prop):Prop where
 f:FJ prog (.iface rt rv) d pb po Y.ord G pF pL pK T R
 t:∀ x,Y.a≤x→x≤Y.a+11→¬ T U x
 tB:∀ x,Y.e≤x→x≤Y.e+2→¬ T Bf x
 s:∀ {w S p},R w S p→¬ S U∧¬ S Bf
 tl:∀ {w S p b x},R w S p→T b x→b < w.heap.size
 meth:∀ {w S p xb xo yb yo x y k},R w S p→fE Y.ord w xb xo x→fE Y.ord w yb yo y→x.ks≠[]→x.ks.length < 100000→(∀ w',bp w w'→k (.bool (decide (x.ks.map Y.π=y.ks.map Y.π))) w') →
  cQ prog (.iface Y.mt Y.mv) "ShouldDefragment" #[.func (.func 86) #[] #[], .pointer (some ⟨xb, xo, none⟩), .pointer (some ⟨yb, yo, none⟩)] k w
 tp:∀ y,po≤y→y≤po+3→T pb y
 oU:cj d U
 oB:cj d Bf
 ne:Bf≠U
 cmp0:d.cell? ⟨C,0,none⟩=some (.func (.func 85) #[] #[])
 len:∀ j,j < G.length→G[j]!.s.length≤4294967296∧G[j]!.e.length≤4294967296∧G[j]!.ks.length < 100000∧∀ x ∈ G[j]!.ks,x.suf.length≤4294967296∧x.val.length≤4294967296
structure DP (w:World) (Y:DX) (U Bf C:Nat) (rt:TypeId) (rv:Value) (is:Option Addr) (ps:Int):Prop where
 d81:w.cell? ⟨U,Y.a,none⟩=some (.pointer (some ⟨Bf,Y.e,none⟩))
 d82:w.cell? ⟨U,Y.a+1,none⟩=some (.pointer (some ⟨C,0,none⟩))
 d83:w.cell? ⟨U,Y.a+2,none⟩=some (.func (.func 86) #[] #[])
 d84:w.cell? ⟨U,Y.a+3,none⟩=some (.iface rt rv)
 d85:w.cell? ⟨U,Y.a+4,none⟩=some (.pointer is)
 d86:w.cell? ⟨U,Y.a+5,none⟩=some (.int .i8 ps)
 d87:∃ v,w.cell? ⟨U,Y.a+6,none⟩=some v
 d88:∃ v,w.cell? ⟨U,Y.a+7,none⟩=some v
 d89:∃ v,w.cell? ⟨U,Y.a+8,none⟩=some v
 d90:∃ v,w.cell? ⟨U,Y.a+9,none⟩=some v
 d91:w.cell? ⟨U,Y.a+10,none⟩=some (.iface Y.mt Y.mv)
 d92:∃ c f,w.cell? ⟨U,Y.a+11,none⟩=some (.func (.func 99) c f)∧c = #[]∧f = #[]
 fU:∀ x,w.frozen? ⟨U,x,none⟩=false
 fB:∀ x,w.frozen? ⟨Bf,x,none⟩=false
structure DR (d w:World) (Y:DX) (U Bf:Nat) (T:Nat→Nat→Prop) (D S:Nat→Prop) (Q:Nat→Nat→Prop) (vc vk vb:Value) (xs xb:List Value) (cc:Nat) (lk:List KR):Prop where
 ch:w.cell? ⟨Bf,Y.e,none⟩=some vc
 co:w.ownsRow 0 5 1 vc xs.length xs
 cf:(∃ a,vc = .slice a xs.length cc)∧cc≤8589934592
 kh:w.cell? ⟨Bf,Y.e+1,none⟩=some vk
 ko:w.ownsRow 0 117 3 vk lk.length (dA lk)
 bh:w.cell? ⟨Bf,Y.e+2,none⟩=some vb
 bo:w.ownsRow 0 5 1 vb xb.length xb
 cD:∀ g,vc.ownBlock=some g→D g
 kD:∀ g,vk.ownBlock=some g→D g
 bD:∀ g,vb.ownBlock=some g→D g
 ck:∀ g,vc.ownBlock=some g→vk.ownBlock≠some g
 cb:∀ g,vc.ownBlock=some g→vb.ownBlock≠some g
 kb:∀ g,vk.ownBlock=some g→vb.ownBlock≠some g
 dD:∀ g,D g→g < w.heap.size∧g≠U∧g≠Bf∧¬ S g∧(∀ x,¬ T g x)∧cj d g
 qD:∀ b x,Q b x→D b
 qc:∀ g x,vc.ownBlock=some g→Q g x→x < xs.length
 qk:∀ g x,vk.ownBlock=some g→¬ Q g x
 qb:∀ g x,vb.ownBlock=some g→¬ Q g x
def Pc (w:World) (Q:Nat→Nat→Prop) (v:Value) (l:Bytes):Prop:=dR w v l∧∀ b o n c,v = .slice (some ⟨b,o,none⟩) n c→∀ i,i < l.length→Q b (o+i)
def dM (Y:DX) (U Bf:Nat) (D:Nat→Prop):Nat→Nat→Prop:=fun b x=>b=U∧Y.a≤x∧x≤Y.a+11∨b=Bf∧Y.e≤x∧x≤Y.e+2∨D b
section
variable {d w w2:World} {Y:DX} {U Bf C:Nat} {rt:TypeId} {rv:Value} {T:Nat→Nat→Prop} {D S:Nat→Prop} {Q Q2:Nat→Nat→Prop} {vc vk vb v:Value} {xs xb:List Value} {cc:Nat} {lk:List KR} {is:Option Addr} {ps:Int} {l:Bytes} {M:Nat→Nat→Prop}
theorem Pc.keep (h:Pc w Q v l) (hk:Keep M w w2) (hm:∀ b x,Q b x→b < w.heap.size→¬ M b x):Pc w2 Q v l:=by
 refine ⟨?_,h.2⟩
 obtain ⟨h1,h2⟩:=h
 unfold dR at h1 ⊢
 split at h1
 ·exact h1
 ·rename_i a n c
  obtain ⟨b,o,s⟩:=a
  obtain ⟨e1,e2,e3⟩:=h1
  have hs:s=none:=e1
  subst hs
  refine ⟨rfl,e2,fun i x hx => ?_⟩
  have hx':=e3 i x hx
  have hi:i < l.length:=by
   have:=(aQ.1 hx).1
   rwa [cP] at this
  exact hk.some hx' (hm _ _ (h2 b o n c rfl i hi) (aC hx'))
 ·exact h1.elim
theorem Pc.mono (h:Pc w Q v l) (hq:∀ b x,Q b x→Q2 b x):Pc w Q2 v l:=⟨h.1,fun b o n c e i hi=>hq _ _ (h.2 b o n c e i hi)⟩
theorem DP.keep (h:DP w Y U Bf C rt rv is ps) (hB:Bf < w.heap.size) (hk:Keep M w w2) (h1:∀ x,Y.a≤x→x≤Y.a+11→¬ M U x):DP w2 Y U Bf C rt rv is ps:=by
 have hU:=aC h.d81
 have s:∀ {x v},Y.a≤x→x≤Y.a+11→w.cell? ⟨U,x,none⟩=some v→w2.cell? ⟨U,x,none⟩=some v:=fun a b hv=>hk.some hv (h1 _ a b)
 have sx:∀ {x},Y.a≤x→x≤Y.a+11→(∃ v,w.cell? ⟨U,x,none⟩=some v)→∃ v,w2.cell? ⟨U,x,none⟩=some v:=fun a b ⟨v,hv⟩=>⟨v,s a b hv⟩
 obtain ⟨c,f,e,e2⟩:=h.d92
 exact ⟨s (by omega) (by omega) h.d81,s (by omega) (by omega) h.d82,s (by omega) (by omega) h.d83,s (by omega) (by omega) h.d84,s (by omega) (by omega) h.d85,s (by omega) (by omega) h.d86,sx (by omega) (by omega) h.d87,sx (by omega) (by omega) h.d88,sx (by omega) (by omega) h.d89,sx (by omega) (by omega) h.d90,s (by omega) (by omega) h.d91,⟨c,f,s (by omega) (by omega) e,e2⟩,fun x=>by rw [hk.frozen U x hU]; exact h.fU x,fun x=>by rw [hk.frozen Bf x hB]; exact h.fB x⟩
theorem DP.drew (h:DP w Y U Bf C rt rv is ps):DP w.drew Y U Bf C rt rv is ps:=⟨h.d81,h.d82,h.d83,h.d84,h.d85,h.d86,h.d87,h.d88,h.d89,h.d90,h.d91,h.d92,h.fU,h.fB⟩
theorem DR.keep (r:DR d w Y U Bf T D S Q vc vk vb xs xb cc lk) (hk:Keep M w w2) (h1:∀ x,Y.e≤x→x≤Y.e+2→¬ M Bf x) (h2:∀ g,D g→∀ x,¬ M g x):DR d w2 Y U Bf T D S Q vc vk vb xs xb cc lk where
 ch:=hk.some r.ch (h1 _ (by omega) (by omega))
 co:=aX r.co hk fun g hg=>h2 g (r.cD g hg)
 cf:=r.cf
 kh:=hk.some r.kh (h1 _ (by omega) (by omega))
 ko:=aX r.ko hk fun g hg=>h2 g (r.kD g hg)
 bh:=hk.some r.bh (h1 _ (by omega) (by omega))
 bo:=aX r.bo hk fun g hg=>h2 g (r.bD g hg)
 cD:=r.cD
 kD:=r.kD
 bD:=r.bD
 ck:=r.ck
 cb:=r.cb
 kb:=r.kb
 dD g hg:=by obtain ⟨a,b⟩:=r.dD g hg; exact ⟨aL a hk.size,b⟩
 qD:=r.qD
 qc:=r.qc
 qk:=r.qk
 qb:=r.qb
theorem DR.drew (r:DR d w Y U Bf T D S Q vc vk vb xs xb cc lk):DR d w.drew Y U Bf T D S Q vc vk vb xs xb cc lk:=⟨r.ch,r.co.drew,r.cf,r.kh,r.ko.drew,r.bh,r.bo.drew,r.cD,r.kD,r.bD,r.ck,r.cb,r.kb,r.dD,r.qD,r.qc,r.qk,r.qb⟩
end
end Go.E
namespace Go.Proofs
open Go Go.E Go.Sort Go.Proofs.Tryz
section
variable {k:aq} {d w:World} {Y:DX} {U Bf C:Nat} {rt:TypeId} {rv:Value} {T:Nat→Nat→Prop} {D S:Nat→Prop} {Q:Nat→Nat→Prop} {vc vk vb:Value} {xs xb:List Value} {cc:Nat} {lk:List KR} {is:Option Addr} {ps:Int} {l:Bytes}
set_option maxHeartbeats 1000000 in
theorem iT {src:Value} (ne:Bf≠U) (p:DP w Y U Bf C rt rv is ps) (r:DR d w Y U Bf T D S Q vc vk vb xs xb cc lk) (hinc:cM d w) (hS:∀ g,S g→g < w.heap.size) (hT:∀ b x,T b x→b < w.heap.size) (hs:dR w src l) (hl:l.length≤4294967296)
    (hk:∀ w2 v vc2 xs2 cc2 (D2:Nat→Prop) (Q2:Nat→Nat→Prop),DP w2 Y U Bf C rt rv is ps→DR d w2 Y U Bf T D2 S Q2 vc2 vk vb xs2 xb cc2 lk→Pc w2 Q2 v l→(∃ a n c,v = .slice a n c)→(∀ b x,Q b x→Q2 b x)→(∀ b,D b→D2 b)→(∀ b,D2 b→D b∨w.heap.size≤b) →
     Keep (fun b x=>(b=Bf∧x=Y.e∨vc.ownBlock=some b)∧¬ Q b x) w w2→k v w2) :
    ai prog 234 #[.pointer (some ⟨U,Y.a,none⟩),src] k w:=by
 obtain ⟨sa,sc,rfl⟩:=aY hs
 have d81:=p.d81
 have c6:=r.ch
 have hU:=aC d81
 have hB:=aC c6
 obtain ⟨⟨ca,hcf⟩,hcc⟩:=r.cf
 subst hcf
 refine al [.tmp 4] func234 ?_
 cases sa with
 | none =>
  have hl0:l=[]:=by
   obtain ⟨h1,h2⟩:l.length=0∧l=[]:=hs
   exact h2
  subst hl0
  simp (disch:=first | exact dZ | fail) only [go_sem,Option.isNone_none]
  exact hk w _ _ _ _ D Q p r ⟨⟨rfl,rfl⟩,fun b o n c e=>by simp at e⟩ ⟨_,_,_,rfl⟩ (fun _ _ h=>h) (fun _ h=>h) (fun _ h => .inl h) (Keep.refl _ w)
 | some sa =>
  simp (disch:=first | exact dZ | fail) only [go_sem,Option.isNone_some]
  refine bF (sq [0,1,2] (.read 3 (sq [4,5,6] (.read 7 (sq [8,9] (.read 10 (sq [11] (.eff 12 [3] (sq [13,14,15,16,17] (.eff 18 [] (sq [19] .done))))))))))) ?_
  refine dO @d81 @c6 ?_
  refine Dx (w:=w.drew) r.co.drew ⟨ca,rfl⟩ hcc (by exact hs) hl fun w2 v2 ys vcap2 pa o2 f2 hc2 n2 k2 b2 s2 m2 => ?_
  have k2:Keep (fun b x=>(Value.slice ca xs.length cc).ownBlock=some b∧xs.length≤x) w w2:=(Keep.refl _ w).drew.trans k2
  have n2:cZ w (.slice ca xs.length cc) v2:=n2
  obtain ⟨a2,hv2⟩:=f2
  subst hv2
  have hvc:∀ g,(Value.slice ca xs.length cc).ownBlock=some g→g≠U∧g≠Bf:=fun g hg=>⟨(r.dD g (r.cD g hg)).2.1,(r.dD g (r.cD g hg)).2.2.1⟩
  have q81:=k2.some d81 fun h=>(hvc _ h.1).1 rfl
  have q6:=k2.some c6 fun h=>(hvc _ h.1).2 rfl
  have fB2:∀ x,w2.frozen? ⟨Bf,x,none⟩=false:=fun x=>by rw [k2.frozen Bf x hB]; exact p.fB x
  refine dQ @q81 @q6 @fB2 ?_
  obtain ⟨w3,hw3⟩:∃ w3,w3=w2.setCell ⟨Bf,Y.e,none⟩ (.slice a2 ys.length vcap2):=⟨_,rfl⟩
  rw [← hw3]
  have k3:Keep (fun b x=>b=Bf∧x=Y.e) w2 w3:=by rw [hw3]; exact bY ⟨rfl,rfl⟩
  obtain ⟨Q2,hQ2⟩:∃ Q2:Nat→Nat→Prop,Q2=fun b x=>Q b x∨∃ off,0 < l.length∧pa=some ⟨b,off,none⟩∧off≤x∧x < off+l.length:=⟨_,rfl⟩
  obtain ⟨D2,hD2⟩:∃ D2:Nat→Prop,D2=fun b=>D b∨(Value.slice a2 ys.length vcap2).ownBlock=some b:=⟨_,rfl⟩
  have piece:∀ b off,0 < l.length→pa=some ⟨b,off,none⟩→(Value.slice a2 ys.length vcap2).ownBlock=some b∧off+l.length≤ys.length:=by
   intro b off h0 he
   obtain ⟨g,o',e1,e2,e3,_⟩:=s2 h0
   rw [e2] at he
   cases he
   exact ⟨e1,e3⟩
  have kf:Keep (fun b x=>(b=Bf∧x=Y.e∨(Value.slice ca xs.length cc).ownBlock=some b)∧¬ Q b x) w w3:=by
   refine (k2.mono fun b x _ h=>⟨.inr h.1,fun hq => ?_⟩).trans (k3.mono fun b x _ h=>⟨.inl h,fun hq=>(r.dD b (r.qD b x hq)).2.2.1 h.1⟩)
   have:=r.qc b x h.1 hq
   have:=h.2
   omega
  have kx:Keep (fun b x=>b=Bf∧x=Y.e∨(Value.slice ca xs.length cc).ownBlock=some b) w w3:=kf.mono fun b x _ h=>h.1
  have nk:∀ g,vk.ownBlock=some g→∀ x,¬ (g=Bf∧x=Y.e∨(Value.slice ca xs.length cc).ownBlock=some g):=by
   rintro g hg x (⟨h,_⟩ | h)
   ·exact (r.dD g (r.kD g hg)).2.2.1 h
   ·exact r.ck g h hg
  have nb:∀ g,vb.ownBlock=some g→∀ x,¬ (g=Bf∧x=Y.e∨(Value.slice ca xs.length cc).ownBlock=some g):=by
   rintro g hg x (⟨h,_⟩ | h)
   ·exact (r.dD g (r.bD g hg)).2.2.1 h
   ·exact r.cb g h hg
  have nB:∀ x,x≠Y.e→¬ (Bf=Bf∧x=Y.e∨(Value.slice ca xs.length cc).ownBlock=some Bf):=by
   rintro x hx (⟨_,h⟩ | h)
   ·exact hx h
   ·exact (hvc Bf h).2 rfl
  have v2d:∀ g,(Value.slice a2 ys.length vcap2).ownBlock=some g→g < w3.heap.size∧g≠U∧g≠Bf∧¬ S g∧(∀ x,¬ T g x)∧cj d g:=fun g hg=>by
   have hlt:=aL (o2.lt g hg).2 k3.size
   rcases n2 g hg with h | h
   ·exact ⟨hlt,(r.dD g (r.cD g h)).2⟩
   ·exact ⟨hlt,by omega,by omega,fun hs=>by have:=hS g hs; omega,fun x hx=>by have:=hT g x hx; omega,hinc.out h⟩
  have dr:DR d w3 Y U Bf T D2 S Q2 (.slice a2 ys.length vcap2) vk vb ys xb vcap2 lk:=by
   refine ⟨by rw [hw3,cJ,q6]; rfl,aX o2 k3 fun g hg x h=>(v2d g hg).2.2.1 h.1,⟨⟨a2,rfl⟩,hc2⟩,kx.some r.kh (nB _ (by omega)),aX r.ko kx nk,kx.some r.bh (nB _ (by omega)),aX r.bo kx nb,?_,?_,?_,?_,?_,r.kb,?_,?_,?_,?_,?_⟩
   ·intro g hg; rw [hD2]; exact .inr hg
   ·intro g hg; rw [hD2]; exact .inl (r.kD g hg)
   ·intro g hg; rw [hD2]; exact .inl (r.bD g hg)
   ·intro g hg hk'
    rcases n2 g hg with h | h
    ·exact r.ck g h hk'
    ·have:=(r.ko.lt g hk').2; omega
   ·intro g hg hb'
    rcases n2 g hg with h | h
    ·exact r.cb g h hb'
    ·have:=(r.bo.lt g hb').2; omega
   ·intro g hg
    rw [hD2] at hg
    rcases hg with hg | hg
    ·obtain ⟨a,b⟩:=r.dD g hg
     exact ⟨aL a kx.size,b⟩
    ·exact v2d g hg
   ·intro b x hq
    rw [hQ2] at hq
    rw [hD2]
    rcases hq with hq | ⟨off,h0,he,_⟩
    ·exact .inl (r.qD b x hq)
    ·exact .inr (piece b off h0 he).1
   ·intro g x hg hq
    rw [hQ2] at hq
    rcases hq with hq | ⟨off,h0,he,h1,h2⟩
    ·rcases n2 g hg with h | h
     ·have:=r.qc g x h hq
      have:=m2 (by rw [hg]; exact h.symm)
      omega
     ·have:=(r.dD g (r.qD g x hq)).1; omega
    ·have:=(piece g off h0 he).2
     omega
   ·intro g x hg hq
    rw [hQ2] at hq
    rcases hq with hq | ⟨off,h0,he,_⟩
    ·exact r.qk g x hg hq
    ·have hp:=(piece g off h0 he).1
     rcases n2 g hp with h | h
     ·exact r.ck g h hg
     ·have:=(r.ko.lt g hg).2; omega
   ·intro g x hg hq
    rw [hQ2] at hq
    rcases hq with hq | ⟨off,h0,he,_⟩
    ·exact r.qb g x hg hq
    ·have hp:=(piece g off h0 he).1
     rcases n2 g hp with h | h
     ·exact r.cb g h hg
     ·have:=(r.bo.lt g hg).2; omega
  refine hk w3 _ _ _ _ D2 Q2 (p.keep hB kx ?_) dr ?_ ⟨pa,_,_,rfl⟩ ?_ ?_ ?_ kf
  ·rintro x _ _ (⟨h,_⟩ | h)
   ·exact ne h.symm
   ·exact (hvc U h).1 rfl
  ·have pc2:Pc w2 Q2 (.slice pa l.length l.length) l:=by
     refine ⟨b2,fun b o n c e i hi => ?_⟩
     simp only [aU] at e
     rw [hQ2]
     exact .inr ⟨o,by omega,e.1,by omega,by omega⟩
   exact pc2.keep k3 fun b x hq _ h=>(dr.dD b (dr.qD b x hq)).2.2.1 h.1
  ·intro b x h; rw [hQ2]; exact .inl h
  ·intro b h; rw [hD2]; exact .inl h
  ·intro b h
   rw [hD2] at h
   rcases h with h | h
   ·exact .inl h
   ·rcases n2 b h with h | h
    ·exact .inl (r.cD b h)
    ·exact .inr h
end
end Go.Proofs
end
section
namespace Go.E
open Go Go.Sort Go.Proofs Go.Proofs.Tryz
section
variable {d w w2:World} {Y:DX} {U Bf C pb po:Nat} {rt:TypeId} {rv:Value} {G:List Sp} {pF pL:Prop} {pK:Bytes→Prop} {T:Nat→Nat→Prop} {R:World→(Nat→Prop)→Int→Prop} {D S:Nat→Prop} {Q Q2:Nat→Nat→Prop} {vc vk vb v:Value} {xs xb:List Value} {cc:Nat} {lk:List KR} {is:Option Addr} {ps q:Int} {l:Bytes} {M:Nat→Nat→Prop}
theorem DR.cut {ka ba:Option Addr} {kc bc:Nat} (r:DR d w Y U Bf T D S Q vc (.slice ka lk.length kc) (.slice ba xb.length bc) xs xb cc lk) :
    DR d ((w.setCell ⟨Bf,Y.e+1,none⟩ (.slice ka 0 kc)).setCell ⟨Bf,Y.e+2,none⟩ (.slice ba 0 bc)) Y U Bf T D S (fun _ _=>False) vc (.slice ka 0 kc) (.slice ba 0 bc) xs [] cc [] ∧
    Keep (fun b x=>b=Bf∧Y.e+1≤x∧x≤Y.e+2) w ((w.setCell ⟨Bf,Y.e+1,none⟩ (.slice ka 0 kc)).setCell ⟨Bf,Y.e+2,none⟩ (.slice ba 0 bc)):=by
 have kk:Keep (fun b x=>b=Bf∧Y.e+1≤x∧x≤Y.e+2) w ((w.setCell ⟨Bf,Y.e+1,none⟩ (.slice ka 0 kc)).setCell ⟨Bf,Y.e+2,none⟩ (.slice ba 0 bc)):=((Keep.refl _ w).set (fun _=>⟨rfl,by omega,by omega⟩)).set (fun _=>⟨rfl,by omega,by omega⟩)
 have nD:∀ g,D g→∀ x,¬ (g=Bf∧Y.e+1≤x∧x≤Y.e+2):=fun g hg x h=>(r.dD g hg).2.2.1 h.1
 have h7:=r.kh
 have h8:=r.bh
 refine ⟨⟨kk.some r.ch (by omega),aX r.co kk fun g hg=>nD g (r.cD g hg),r.cf,?_,aX (eQ r.ko) kk fun g hg=>nD g (r.kD g (by rw [cS ka lk.length 0]; exact hg)),?_,aX (eQ r.bo) kk fun g hg=>nD g (r.bD g (by rw [cS ba xb.length 0]; exact hg)),r.cD,fun g hg=>r.kD g (by rw [cS ka lk.length 0]; exact hg),fun g hg=>r.bD g (by rw [cS ba xb.length 0]; exact hg),
  fun g hg hk=>r.ck g hg (by rw [cS ka lk.length 0]; exact hk),fun g hg hb=>r.cb g hg (by rw [cS ba xb.length 0]; exact hb),fun g hg hb=>r.kb g (by rw [cS ka lk.length 0]; exact hg) (by rw [cS ba xb.length 0]; exact hb),fun g hg => ?_,fun b x h=>h.elim,fun g x _ h=>h.elim,fun g x _ h=>h,fun g x _ h=>h⟩,kk⟩
 ·rw [fk (by omega),cJ,h7]; rfl
 ·rw [cJ,fk (by omega),h8]; rfl
 ·obtain ⟨a,b⟩:=r.dD g hg
  exact ⟨aL a kk.size,b⟩
theorem DR.kset {w8:World} {v8:Value} {lk8:List KR} (r:DR d w Y U Bf T D S Q vc vk vb xs xb cc lk) (o8:w8.ownsRow 0 117 3 v8 lk8.length (dA lk8)) (k8:Keep (fun b _=>vk.ownBlock=some b) w w8) (n8:cZ w vk v8) (hU:U < w.heap.size) (hinc:cM d w) (hS:∀ g,S g→g < w.heap.size) (hT:∀ b x,T b x→b < w.heap.size) :
    DR d (w8.setCell ⟨Bf,Y.e+1,none⟩ v8) Y U Bf T (fun b=>D b∨v8.ownBlock=some b) S Q vc v8 vb xs xb cc lk8∧Keep (fun b x=>(b=Bf∧x=Y.e+1∨vk.ownBlock=some b)∧¬ Q b x) w (w8.setCell ⟨Bf,Y.e+1,none⟩ v8):=by
 have hB:=aC r.ch
 have kk:Keep (fun b x=>(b=Bf∧x=Y.e+1∨vk.ownBlock=some b)∧¬ Q b x) w (w8.setCell ⟨Bf,Y.e+1,none⟩ v8):=(k8.mono fun b x _ h=>⟨.inr h,r.qk b x h⟩).set fun _=>⟨.inl ⟨rfl,rfl⟩,fun hq=>(r.dD _ (r.qD _ _ hq)).2.2.1 rfl⟩
 have kx:Keep (fun b x=>b=Bf∧x=Y.e+1∨vk.ownBlock=some b) w (w8.setCell ⟨Bf,Y.e+1,none⟩ v8):=kk.mono fun b x _ h=>h.1
 have nB:∀ x,x≠Y.e+1→¬ (Bf=Bf∧x=Y.e+1∨vk.ownBlock=some Bf):=by
  rintro x hx (⟨_,h⟩ | h)
  ·exact hx h
  ·exact (r.dD Bf (r.kD Bf h)).2.2.1 rfl
 have v8d:∀ g,v8.ownBlock=some g→g < w8.heap.size∧g≠U∧g≠Bf∧¬ S g∧(∀ x,¬ T g x)∧cj d g:=fun g hg=>by
  rcases n8 g hg with h | h
  ·exact ⟨(o8.lt g hg).2,(r.dD g (r.kD g h)).2⟩
  ·exact ⟨(o8.lt g hg).2,by omega,by omega,fun hs=>by have:=hS g hs; omega,fun x hx=>by have:=hT g x hx; omega,hinc.out h⟩
 have nc:∀ g,vc.ownBlock=some g→∀ x,¬ (g=Bf∧x=Y.e+1∨vk.ownBlock=some g):=by
  rintro g hg x (⟨h,_⟩ | h)
  ·exact (r.dD g (r.cD g hg)).2.2.1 h
  ·exact r.ck g hg h
 have nb:∀ g,vb.ownBlock=some g→∀ x,¬ (g=Bf∧x=Y.e+1∨vk.ownBlock=some g):=by
  rintro g hg x (⟨h,_⟩ | h)
  ·exact (r.dD g (r.bD g hg)).2.2.1 h
  ·exact r.kb g h hg
 obtain ⟨q7,hq7⟩:∃ u,w8.cell? ⟨Bf,Y.e+1,none⟩=some u:=⟨_,k8.some r.kh fun h=>(r.dD Bf (r.kD Bf h)).2.2.1 rfl⟩
 refine ⟨⟨kx.some r.ch (nB _ (by omega)),aX r.co kx nc,r.cf,by rw [cJ,hq7]; rfl,aX o8 (bY (M:=fun b x=>b=Bf∧x=Y.e+1) ⟨rfl,rfl⟩) fun g hg x h=>(v8d g hg).2.2.1 h.1,kx.some r.bh (nB _ (by omega)),aX r.bo kx nb,fun g hg => .inl (r.cD g hg),fun g hg => .inr hg,fun g hg => .inl (r.bD g hg),fun g hg hk => ?_,r.cb,fun g hg hb => ?_,fun g hg => ?_,fun b x hq => .inl (r.qD b x hq),r.qc,fun g x hg hq => ?_,r.qb⟩,kk⟩
 ·rcases n8 g hk with h | h
  ·exact r.ck g hg h
  ·have:=(r.co.lt g hg).2; omega
 ·rcases n8 g hg with h | h
  ·exact r.kb g h hb
  ·have:=(r.bo.lt g hb).2; omega
 ·rw [World.size_setCell]
  rcases hg with hg | hg
  ·obtain ⟨a,b⟩:=r.dD g hg
   exact ⟨aL a k8.size,b⟩
  ·exact v8d g hg
 ·rcases n8 g hg with h | h
  ·exact r.qk g x h hq
  ·have:=(r.dD g (r.qD g x hq)).1; omega
theorem DC.safe (dc:DC d Y U Bf C pb po rt rv G pF pL pK T R) (hR:R w S q) (dD:∀ g,D g→¬ S g∧(∀ x,¬ T g x)∧cj d g):∀ b x,dM Y U Bf D b x→¬ T b x∧¬ S b∧d.cell? ⟨b,x,none⟩=none:=by
 rintro b x (⟨rfl,h1,h2⟩ | ⟨rfl,h1,h2⟩ | h)
 ·exact ⟨dc.t x h1 h2,(dc.s hR).1,dc.oU x⟩
 ·exact ⟨dc.tB x h1 h2,(dc.s hR).2,dc.oB x⟩
 ·exact ⟨(dD b h).2.1 x,(dD b h).1,(dD b h).2.2 x⟩
theorem DR.dD' (r:DR d w Y U Bf T D S Q vc vk vb xs xb cc lk):∀ g,D g→¬ S g∧(∀ x,¬ T g x)∧cj d g:=fun g hg=>(r.dD g hg).2.2.2
end
end Go.E
namespace Go.Proofs
open Go Go.E Go.Sort Go.Proofs.Tryz
section
variable {k:aq} {d w:World} {Y:DX} {U Bf C pb po:Nat} {rt:TypeId} {rv:Value} {G:List Sp} {pF pL:Prop} {pK:Bytes→Prop} {T:Nat→Nat→Prop} {R:World→(Nat→Prop)→Int→Prop} {D S:Nat→Prop} {Q:Nat→Nat→Prop} {vc vk vb:Value} {xs xb:List Value} {cc:Nat} {lk:List KR} {is:Option Addr} {ps q:Int} {l:Bytes}
theorem Bg {a:Option Addr} {n c:Nat} (hk:k (.slice a 0 c) w):ai prog 156 #[.slice a n c] k w:=by
 have z0:(0:Int).toNat=0:=rfl
 have zc:(0:Int)≤c:=by omega
 refine al [.tmp 2] func156 ?_
 simp (disch:=first | exact dZ | fail) only [go_sem,pG Tryz.es194,z0,zc]
 exact hk
theorem Fw {v:Value} {acc:List KR} {x:KR} {q:aq} (o:w.ownsRow 0 117 3 v acc.length (dA acc)) (hg:x.good d) (hz:acc.length < 1000000)
    (hk:∀ a c w',w'.ownsRow 0 117 3 (.slice a (acc.length+1) c) (acc.length+1) (dA (acc++[x]))→Keep (fun b _=>v.ownBlock=some b) w w'→cZ w v (.slice a (acc.length+1) c)→q (.slice a (acc.length+1) c) w') :
    me prog #[57,57] 57 #[v,.slice (some ⟨w.heap.size,0,none⟩) 1 1] q (w.alloc (.cells x.cells.toArray 117)):=by
 obtain ⟨w4,hw4⟩:∃ w4,w4=w.alloc (.cells x.cells.toArray 117):=⟨_,rfl⟩
 rw [← hw4]
 have k4:bp w w4:=by rw [hw4]; exact aJ _
 simp only [me]
 refine pO (m:=1) (news:=x.cells) rw57 (aX o k4 (fun _ _ _ h=>h)) (by rfl) ⟨rfl,?_⟩ (gC hg) ?_ fun v5 w5 o5 k5 n5 _ => ?_
 ·intro j u hj
  rw [dS rfl,Nat.zero_add,hw4]
  refine bA ?_
  simpa using hj
 ·omega
 obtain ⟨a5,cap5,e5,_⟩:=bP o5
 subst e5
 have fl:dA acc++x.cells=dA (acc++[x]):=by rw [ib]; rfl
 rw [fl] at o5
 have kk5:Keep (fun b _=>v.ownBlock=some b) w4 w5:=k5 _ fun b o hb _=>hb
 refine hk a5 cap5 w5 o5 (k4.keep.trans kk5) fun g hg => ?_
 rcases n5 with h | ⟨g2,h,h',_⟩
 ·exact .inl (by rw [← h]; exact hg)
 ·rw [h] at hg
  simp only [aP] at hg
  subst hg
  have:=k4.size
  exact .inr (by omega)
def PK (w:World) (Q:Nat→Nat→Prop) (x:KR):Prop:=x.k.tr < 18446744073709551616∧Pc w Q x.sv x.k.suf∧Pc w Q x.vv x.k.val
set_option maxHeartbeats 4000000 in
theorem qm {j:Nat} (dc:DC d Y U Bf C pb po rt rv G pF pL pK T R) (hR:R w S q) (hq:q=j) (hj:j < G.length) (p:DP w Y U Bf C rt rv (some ⟨pb,po,none⟩) ps) (r:DR d w Y U Bf T D S Q vc vk vb xs xb cc lk)
    (hk:∀ w2 vc2 vk2 vb2 xs2 xb2 cc2 lk2 (D2:Nat→Prop) (Q2:Nat→Nat→Prop) sv ev,R w2 S q→DP w2 Y U Bf C rt rv (some ⟨pb,po,none⟩) ps→DR d w2 Y U Bf T D2 S Q2 vc2 vk2 vb2 xs2 xb2 cc2 lk2→w2.cell? ⟨U,Y.a+6,none⟩=some sv→Pc w2 Q2 sv G[j]!.s→w2.cell? ⟨U,Y.a+7,none⟩=some ev→Pc w2 Q2 ev G[j]!.e →
     w2.cell? ⟨U,Y.a+8,none⟩=some vk2→w2.cell? ⟨U,Y.a+9,none⟩=some (.int .i8 Y.ord)→lk2.map KR.k=G[j]!.ks→(∀ x ∈ lk2,PK w2 Q2 x)→(∀ b,D2 b→D b∨w.heap.size≤b)→Keep (dM Y U Bf D) w w2→k (.tuple #[]) w2) :
    ai prog 230 #[.pointer (some ⟨U,Y.a,none⟩)] k w:=by
 have ne:=dc.ne
 have d81:=p.d81
 have d85:=p.d85
 have hU:=aC d81
 have hB:=aC r.ch
 obtain ⟨⟨ca,hcf⟩,hcc⟩:=r.cf
 subst hcf
 obtain ⟨ka,kc,e1,hkc,_⟩:=bP r.ko
 subst e1
 obtain ⟨ba,bc,e1,hbc,_⟩:=bP r.bo
 subst e1
 have c6:=r.ch
 have c7:=r.kh
 have c8:=r.bh
 have fB:=p.fB
 have z0:(0:Int).toNat=0:=rfl
 have zk:(0:Int)≤kc:=by omega
 have zb:(0:Int)≤bc:=by omega
 obtain ⟨r1,kr1⟩:=r.cut
 refine al [] func230 ?_
 refine dO @d81 @c6 ?_
 refine Bg ?_
 refine bA ?_
 refine bF (sq [0,1,2] (.read 3 (sq [4,5,6] (.read 7 (sq [8,9] (.read 10 (sq [11,12,13] (.eff 14 [] .done)))))))) ?_
 simp (disch:=first | exact dZ | fail) only [go_sem,d81,c7,pG Tryz.es57,z0,zk,fB]
 refine bF (sq [0,1,2] (.read 3 (sq [4,5,6] (.read 7 (sq [8,9] (.read 10 (sq [11,12,13] (.eff 14 [] .done)))))))) ?_
 simp (disch:=first | exact dZ | fail) only [go_sem,d81,c8,pG Tryz.es56,z0,zb,fB,d85,Option.isNone_some]
 obtain ⟨w1,hw1⟩:∃ w1,w1=((w.setCell ⟨Bf,Y.e+1,none⟩ (.slice ka 0 kc)).setCell ⟨Bf,Y.e+2,none⟩ (.slice ba 0 bc)).drew.drew:=⟨_,rfl⟩
 rw [← hw1]
 have r1:DR d w1 Y U Bf T D S (fun _ _=>False) (.slice ca xs.length cc) (.slice ka 0 kc) (.slice ba 0 bc) xs [] cc []:=by rw [hw1]; exact r1.drew.drew
 have k01:Keep (fun b x=>b=Bf∧Y.e+1≤x∧x≤Y.e+2) w w1:=by rw [hw1]; exact kr1.drew.drew
 have k01':Keep (dM Y U Bf D) w w1:=k01.mono fun b x _ h => .inr (.inl ⟨h.1,by omega,by omega⟩)
 have p1:=p.keep hB k01 fun x _ _ h=>dc.ne h.1.symm
 have hR1:R w1 S q:=dc.f.keep hR k01' fun b x _ h=>dc.safe hR r.dD' b x h
 obtain ⟨⟨s0,s1,s2⟩,⟨e0,e1,e2⟩,⟨kv0,k1,kka,kkn,kkc,kcs,out,rfl,k2,k3,k4,k5,k6,k7⟩,o1⟩:=dc.f.cur hR1 hq hj
 obtain ⟨l1,l2,l3,l4⟩:=dc.len j hj
 have inc1:=dc.f.inc hR1
 obtain ⟨sa,sc,hs0⟩:=aY (s2.bts inc1)
 obtain ⟨ea,ec,he0⟩:=aY (e2.bts inc1)
 subst hs0
 subst he0
 have q81:=p1.d81
 have q85:=p1.d85
 have sp:∀ {D':Nat→Prop} {vc':Value} {Q':Nat→Nat→Prop},(∀ g,D' g→¬ S g∧(∀ x,¬ T g x)∧cj d g)→(∀ g,vc'.ownBlock=some g→D' g)→∀ {b x},((b=Bf∧x=Y.e∨vc'.ownBlock=some b)∧¬ Q' b x)→(∀ y,po≤y→y≤po+3→¬ (b=pb∧x=y))∧¬ S b∧dM Y U Bf D' b x:=by
  intro D' vc' Q' hD' hv' b x hm
  rcases hm with ⟨⟨rfl,rfl⟩ | h,_⟩
  ·exact ⟨fun y h1 h2 ⟨he,hy⟩=>dc.tB (Y.e) (by omega) (by omega) (by rw [he,hy]; exact dc.tp y h1 h2),(dc.s hR1).2,.inr (.inl ⟨rfl,by omega,by omega⟩)⟩
  ·exact ⟨fun y h1 h2 ⟨he,hy⟩=>(hD' b (hv' b h)).2.1 y (by rw [he]; exact dc.tp y h1 h2),(hD' b (hv' b h)).1,.inr (.inr (hv' b h))⟩
 refine bF (sq [0,1,2,3,4] (.read 5 (sq [6,7] (.read 8 (sq [10,11,12,13] (.read 14 (sq [15,16] (.read 17 (sq [19,20,21] (.read 22 (sq [23,24] (.read 25 (.eff 9 [14,17,22,25] (.eff 18 [22,25] (sq [26,27,28] (.eff 29 [] .done)))))))))))))))) ?_
 refine hJ @q81 @q85 @s1 @e1 @o1 ?_
 refine iT dc.ne p1.drew r1.drew (by exact inc1) (fun g hg=>(dc.f.outS hR1 g hg).2) (fun b x h=>(by exact dc.tl hR1 h:b < w1.heap.size)) (by exact s2.bts inc1) l1 fun w2 sv vc2 xs2 cc2 D2 Q2 p2 r2 pc2 sf2 hq2 hD2 hD2' k12 => ?_
 have k12:Keep (fun b x=>(b=Bf∧x=Y.e∨(Value.slice ca xs.length cc).ownBlock=some b)∧¬ False) w1 w2:=(Keep.refl _ w1).drew.trans k12
 have hD2':∀ b,D2 b→D b∨w1.heap.size≤b:=hD2'
 have sp1:=fun {b x}=>sp (Q':=fun _ _=>False) r1.dD' r1.cD (b:=b) (x:=x)
 have hR2:R w2 S q:=dc.f.keep hR1 k12 fun b x _ h=>dc.safe hR1 r1.dD' b x (sp1 h).2.2
 have s1:=k12.some s1 fun h=>(sp1 h).1 po (by omega) (by omega) ⟨rfl,rfl⟩
 have e1:=k12.some e1 fun h=>(sp1 h).1 (po+1) (by omega) (by omega) ⟨rfl,rfl⟩
 have k1:=k12.some k1 fun h=>(sp1 h).1 (po+2) (by omega) (by omega) ⟨rfl,rfl⟩
 have o1:=k12.some o1 fun h=>(sp1 h).1 (po+3) (by omega) (by omega) ⟨rfl,rfl⟩
 have k2:=aX k2 k12 fun g hg x h=>(sp1 h).2.1 (k7 g hg)
 have e2:=e2.keep k12 fun g hg x h=>(sp1 h).2.1 hg
 have inc2:=dc.f.inc hR2
 have q81:=p2.d81
 have q85:=p2.d85
 obtain ⟨sva,svn,svc,rfl⟩:=sf2
 refine hJ @q81 @q85 @s1 @e1 @o1 ?_
 refine iT dc.ne p2 r2 inc2 (fun g hg=>(dc.f.outS hR2 g hg).2) (fun b x h=>dc.tl hR2 h) (e2.bts inc2) l2 fun w3 ev vc3 xs3 cc3 D3 Q3 p3 r3 pc3 sf3 hq3 hD3 hD3' k23 => ?_
 have sp2:=fun {b x}=>sp (Q':=Q2) r2.dD' r2.cD (b:=b) (x:=x)
 have hR3:R w3 S q:=dc.f.keep hR2 k23 fun b x _ h=>dc.safe hR2 r2.dD' b x (sp2 h).2.2
 have o1:=k23.some o1 fun h=>(sp2 h).1 (po+3) (by omega) (by omega) ⟨rfl,rfl⟩
 have k1:=k23.some k1 fun h=>(sp2 h).1 (po+2) (by omega) (by omega) ⟨rfl,rfl⟩
 have k2:=aX k2 k23 fun g hg x h=>(sp2 h).2.1 (k7 g hg)
 have pc2:=(pc2.keep k23 fun b x hq _ h=>h.2 hq).mono hq3
 have inc3:=dc.f.inc hR3
 have q81:=p3.d81
 have q85:=p3.d85
 obtain ⟨eva,evn,evc,rfl⟩:=sf3
 obtain ⟨_,h87⟩:=p3.d87
 obtain ⟨_,h88⟩:=p3.d88
 obtain ⟨_,h89⟩:=p3.d89
 obtain ⟨_,h90⟩:=p3.d90
 have fU3:=p3.fU
 have hU3:=aC q81
 refine rS @q81 @q85 @o1 @h87 @h88 @h89 @h90 @fU3 ?_
 obtain ⟨w4,hw4⟩:∃ w4,w4=((((w3.setCell ⟨U,Y.a+6,none⟩ (.slice sva svn svc)).setCell ⟨U,Y.a+7,none⟩ (.slice eva evn evc)).setCell ⟨U,Y.a+8,none⟩ (.slice none 0 0)).setCell ⟨U,Y.a+9,none⟩ (.int .i8 Y.ord)):=⟨_,rfl⟩
 rw [← hw4]
 have k34:Keep (fun b x=>b=U∧Y.a+6≤x∧x≤Y.a+9) w3 w4:=by
  rw [hw4]
  exact ((((Keep.refl _ w3).set (fun _=>⟨rfl,by omega,by omega⟩)).set (fun _=>⟨rfl,by omega,by omega⟩)).set (fun _=>⟨rfl,by omega,by omega⟩)).set (fun _=>⟨rfl,by omega,by omega⟩)
 have hR4:R w4 S q:=dc.f.keep hR3 k34 fun b x _ h=>dc.safe hR3 r3.dD' b x (.inl ⟨h.1,by omega,by omega⟩)
 have q4:w4.cell? ⟨U,Y.a+6,none⟩=some (.slice sva svn svc)∧w4.cell? ⟨U,Y.a+7,none⟩=some (.slice eva evn evc)∧w4.cell? ⟨U,Y.a+8,none⟩=some (.slice none 0 0)∧w4.cell? ⟨U,Y.a+9,none⟩=some (.int .i8 Y.ord):=by
  rw [hw4]
  refine ⟨?_,?_,?_,?_⟩
  ·exact bX @h87
  ·exact bX @h88
  ·exact bX @h89
  ·exact bX @h90
 obtain ⟨q87,q88,q89,q90⟩:=q4
 have s4:∀ {x v},Y.a≤x→x < Y.a+6∨Y.a+9 < x→w3.cell? ⟨U,x,none⟩=some v→w4.cell? ⟨U,x,none⟩=some v:=fun _ hx hv=>k34.some hv fun h=>by omega
 have p4:DP w4 Y U Bf C rt rv (some ⟨pb,po,none⟩) ps:=by
  obtain ⟨c,f,e,e2⟩:=p3.d92
  exact ⟨s4 (by omega) (by omega) p3.d81,s4 (by omega) (by omega) p3.d82,s4 (by omega) (by omega) p3.d83,s4 (by omega) (by omega) p3.d84,s4 (by omega) (by omega) p3.d85,s4 (by omega) (by omega) p3.d86,⟨_,q87⟩,⟨_,q88⟩,⟨_,q89⟩,⟨_,q90⟩,s4 (by omega) (by omega) p3.d91,⟨c,f,s4 (by omega) (by omega) e,e2⟩,fun x=>by rw [k34.frozen U x hU3]; exact p3.fU x,fun x=>by rw [k34.frozen Bf x (aC r3.ch)]; exact p3.fB x⟩
 have r4:=r3.keep k34 (fun x _ _ h=>dc.ne h.1) fun g hg x h=>(r3.dD g hg).2.1 h.1
 have n4:∀ {y},po≤y→y≤po+3→¬ (pb=U∧Y.a+6≤y∧y≤Y.a+9):=fun {y} h1 h2 h=>dc.t y (by omega) (by omega) (by rw [← h.1]; exact dc.tp y h1 h2)
 have k1:=k34.some k1 (n4 (by omega) (by omega))
 have k2:=aX k2 k34 fun g hg x h=>(dc.s hR3).1 (by rw [← h.1]; exact k7 g hg)
 have pcs:=pc2.keep k34 fun b x hq _ h=>(r3.dD b (r3.qD b x hq)).2.1 h.1
 have pce:=pc3.keep k34 fun b x hq _ h=>(r3.dD b (r3.qD b x hq)).2.1 h.1
 have k04:Keep (dM Y U Bf D) w w4:=by
  have a1:Keep (dM Y U Bf D) w w2:=k01'.trans (k12.mono fun b x _ h=>(sp1 h).2.2)
  have hd2:∀ b,b < w.heap.size→D2 b→D b:=fun b hb h=>by
   rcases hD2' b h with h | h
   ·exact h
   ·have:=k01.size; omega
  have a2:Keep (dM Y U Bf D) w w3:=a1.tr k23 fun b x hb h=>by
   rcases (sp2 h).2.2 with h' | h' | h'
   ·exact .inl h'
   ·exact .inr (.inl h')
   ·exact .inr (.inr (hd2 b hb h'))
  exact a2.trans (k34.mono fun b x _ h => .inl ⟨h.1,by omega,by omega⟩)
 have hD3:∀ b,D3 b→D b∨w.heap.size≤b:=fun b h=>by
  have z1:=k01.size
  have z2:=k12.size
  rcases hD3' b h with h | h
  ·rcases hD2' b h with h | h
   ·exact .inl h
   ·exact .inr (by omega)
  ·exact .inr (by omega)
 have q81:=p4.d81
 have q85:=p4.d85
 refine dQ @q81 @q85 @k1 ?_
 have hks:out.length=G[j]!.ks.length:=by rw [← k6,aR]
 refine bZ (fun i:Nat=>[(0,.pointer (some ⟨U,Y.a,none⟩)),(80,.int .i64 out.length),(81,.int .i64 i)])
  (fun i w'=>∃ vc' vk' xs' cc' lk' D' Q',R w' S q∧DP w' Y U Bf C rt rv (some ⟨pb,po,none⟩) ps∧DR d w' Y U Bf T D' S Q' vc' vk' (.slice ba 0 bc) xs' [] cc' lk'∧lk'.map KR.k=(out.map KR.k).take i∧(∀ x ∈ lk',PK w' Q' x) ∧
   w'.cell? ⟨U,Y.a+6,none⟩=some (.slice sva svn svc)∧Pc w' Q' (.slice sva svn svc) G[j]!.s∧w'.cell? ⟨U,Y.a+7,none⟩=some (.slice eva evn evc)∧Pc w' Q' (.slice eva evn evc) G[j]!.e∧w'.cell? ⟨U,Y.a+9,none⟩=some (.int .i8 Y.ord) ∧
   w'.cell? ⟨pb,po+2,none⟩=some (.slice kka out.length kkc)∧w'.ownsRow 0 117 3 (.slice kka kkn kkc) kkn (dA kcs)∧(∀ b,D' b→D b∨w.heap.size≤b)∧Keep (dM Y U Bf D) w w'∧i≤out.length) (fun i _=>out.length - i) 0 (by kernel_rfl) ?_
  ⟨_,_,_,_,_,D3,Q3,hR4,p4,r4,rfl,fun x hx=>by simp at hx,q87,pcs,q88,pce,q90,k1,k2,hD3,k04,aT _⟩ ?_
 ·exact bU
 clear k1 k2 q81 q85 q87 q88 q89 q90 hR1 hR2 hR3 hR4 p1 p2 p3 p4 r1 r2 r3 r4 pc2 pc3 pcs pce
 rintro K e i w5 ⟨vc5,vk5,xs5,cc5,lk5,D5,Q5,hR5,p5,r5,m5,pk5,q87,pcs,q88,pce,q90,k1,k2,hD5,k05,hi0⟩ hK
 have q81:=p5.d81
 have q85:=p5.d85
 have c7:=r5.kh
 have inc5:=dc.f.inc hR5
 by_cases hi:i < out.length
 ·have hi':(i:Int) < out.length:=by omega
  obtain ⟨x,hx⟩:∃ x,out[i]? = some x:=⟨out[i],aD hi⟩
  have hxc:kcs[i]? = some x:=by
   have h:=hx
   have h2:(kcs.take out.length)[i]? = some x:=by rw [k4]; exact h
   rw [List.getElem?_take_of_lt hi] at h2
   exact h2
  have hg:=k5 x (aO hxc)
  have hxk:x.k ∈ G[j]!.ks:=by rw [← k6]; exact List.mem_map_of_mem (aO hx)
  obtain ⟨hl1,hl2⟩:=l4 x.k hxk
  obtain ⟨gk,kc',hga⟩:∃ g c',Value.slice kka kkn kkc = .slice (some ⟨g,0,none⟩) kkn c':=by
   rcases cg k2 with ⟨_,h,_⟩ | ⟨g,c',h,_⟩
   ·rw [h] at k3
    have:=(aQ.1 hxc).1
    omega
   ·exact ⟨g,c',h⟩
  simp only [aU,true_and] at hga
  obtain ⟨rfl,rfl⟩:=hga
  obtain ⟨f1,f2,f3⟩:=kZ hxc
  obtain ⟨a,na,b,nb,g1,g2⟩:=hg.form
  have t1:=bW k2 f1
  have t2:=bW k2 f2
  have t3:=bW k2 f3
  rw [g1] at t2
  rw [g2] at t3
  obtain ⟨vka,vkc,e5,_,_⟩:=bP r5.ko
  subst e5
  refine bu @hi' ?_
  refine bF (sq [0,1,2] (.read 3 (sq [4,5,6] (.read 7 (sq [8,9] (.read 10 (sq [11,12,13] (.read 14 (sq [15,16] (.read 17 (sq [18,19,20] (.read 21 (sq [22,23,24,25] (.read 26 (sq [27,28] (.read 29 (sq [30,31,32] (.read 33 (sq [35,36,37,38] (.read 39 (sq [40,41] (.read 42 (sq [43,44,45] (.read 46 (.eff 34 [3,7,10,14,17,21,39,42,46] (.eff 47 [3,7,10,14,17,21] (sq [48] (.eff 49 [3,7,10] (.eff 50 [3] (sq [51,52] (.eff 53 [] .done))))))))))))))))))))))))))))))) ?_
  refine vJ @q81 @q85 @c7 @k1 @t1 @t2 @t3 ?_
  refine iT dc.ne p5.drew r5.drew (by exact inc5) (fun g hg=>(dc.f.outS hR5 g hg).2) (fun b x h=>(by exact dc.tl hR5 h:b < w5.heap.size)) (by have:=hg.2.1.inc inc5; rw [g1] at this; exact this) hl1 fun w6 sw vc6 xs6 cc6 D6 Q6 p6 r6 pc6 sf6 hq6 hD6 hD6' k56 => ?_
  have k56:Keep (fun b x=>(b=Bf∧x=Y.e∨vc5.ownBlock=some b)∧¬ Q5 b x) w5 w6:=(Keep.refl _ w5).drew.trans k56
  have hD6':∀ b,D6 b→D5 b∨w5.heap.size≤b:=hD6'
  have sp5:=fun {b x}=>sp (Q':=Q5) r5.dD' r5.cD (b:=b) (x:=x)
  have hR6:R w6 S q:=dc.f.keep hR5 k56 fun b x _ h=>dc.safe hR5 r5.dD' b x (sp5 h).2.2
  have n6:∀ x,¬ ((gk=Bf∧x=Y.e∨vc5.ownBlock=some gk)∧¬ Q5 gk x):=fun x h=>(sp5 h).2.1 (k7 gk rfl)
  have k1:=k56.some k1 fun h=>(sp5 h).1 (po+2) (by omega) (by omega) ⟨rfl,rfl⟩
  have k2:=aX k2 k56 fun g hg x h=>(sp5 h).2.1 (k7 g hg)
  have t1:=k56.some t1 (n6 _)
  have t2:=k56.some t2 (n6 _)
  have t3:=k56.some t3 (n6 _)
  have inc6:=dc.f.inc hR6
  have q81:=p6.d81
  have q85:=p6.d85
  have c7:=r6.kh
  obtain ⟨swa,swn,swc,rfl⟩:=sf6
  refine vJ @q81 @q85 @c7 @k1 @t1 @t2 @t3 ?_
  refine iT dc.ne p6 r6 inc6 (fun g hg=>(dc.f.outS hR6 g hg).2) (fun b x h=>dc.tl hR6 h) (by have:=hg.2.2.inc inc6; rw [g2] at this; exact this) hl2 fun w7 vw vc7 xs7 cc7 D7 Q7 p7 r7 pc7 sf7 hq7 hD7 hD7' k67 => ?_
  have sp6:=fun {b x}=>sp (Q':=Q6) r6.dD' r6.cD (b:=b) (x:=x)
  have hR7:R w7 S q:=dc.f.keep hR6 k67 fun b x _ h=>dc.safe hR6 r6.dD' b x (sp6 h).2.2
  have n7:∀ x,¬ ((gk=Bf∧x=Y.e∨vc6.ownBlock=some gk)∧¬ Q6 gk x):=fun x h=>(sp6 h).2.1 (k7 gk rfl)
  have k1:=k67.some k1 fun h=>(sp6 h).1 (po+2) (by omega) (by omega) ⟨rfl,rfl⟩
  have k2:=aX k2 k67 fun g hg x h=>(sp6 h).2.1 (k7 g hg)
  have t1:=k67.some t1 (n7 _)
  have t2:=k67.some t2 (n7 _)
  have t3:=k67.some t3 (n7 _)
  have q81:=p7.d81
  have q85:=p7.d85
  have c7:=r7.kh
  obtain ⟨vwa,vwn,vwc,rfl⟩:=sf7
  have hU7:=aC q81
  have hB7:=aC c7
  have hpb7:=aC k1
  have hgk7:=aC t1
  refine vJ @q81 @q85 @c7 @k1 @t1 @t2 @t3 ?_
  obtain ⟨y,hy⟩:∃ y:KR,y=⟨x.k,.slice swa swn swc,.slice vwa vwn vwc⟩:=⟨_,rfl⟩
  have pc6:=(pc6.keep k67 fun b x hq _ h=>h.2 hq).mono hq7
  have hgy:y.good w7:=by rw [hy]; exact ⟨hg.1,pc6.1,pc7.1⟩
  have hcells : #[Value.int IntKind.u64 x.k.tr,Value.slice swa swn swc,Value.slice vwa vwn vwc]=y.cells.toArray:=by rw [hy]; rfl
  rw [hcells]
  have hll:lk5.length=i:=by
   have:=congrArg List.length m5
   rw [aR,bE,aR] at this
   omega
  refine Fw (d:=w7) r7.ko hgy (by omega) fun a8 c8 w8 o8 k8 n8 => ?_
  have inc7:=dc.f.inc hR7
  rw [show lk5.length+1=(lk5++[y]).length by simp] at o8 n8 ⊢
  obtain ⟨r9,k79⟩:=r7.kset o8 k8 n8 hU7 inc7 (fun g hg=>(dc.f.outS hR7 g hg).2) (fun b x h=>dc.tl hR7 h)
  have nv:∀ b x,(Value.slice vka lk5.length vkc).ownBlock=some b→¬ T b x∧¬ S b∧b≠U∧b≠Bf:=fun b x h=>by
   obtain ⟨_,a1,a2,a3,a4,_⟩:=r7.dD b (r7.kD b h)
   exact ⟨a4 x,a3,a1,a2⟩
  have q81':=k8.some q81 fun h=>(nv _ 0 h).2.2.1 rfl
  have c7':=k8.some c7 fun h=>(nv _ 0 h).2.2.2 rfl
  have fB8:∀ x,w8.frozen? ⟨Bf,x,none⟩=false:=fun x=>by rw [k8.frozen Bf x hB7]; exact p7.fB x
  refine dQ @q81' @c7' @fB8 ?_
  obtain ⟨w9,hw9⟩:∃ w9,w9=w8.setCell ⟨Bf,Y.e+1,none⟩ (.slice a8 (lk5++[y]).length c8):=⟨_,rfl⟩
  rw [← hw9] at r9 k79 ⊢
  have sp7:∀ {b x},((b=Bf∧x=Y.e+1∨(Value.slice vka lk5.length vkc).ownBlock=some b)∧¬ Q7 b x)→dM Y U Bf D7 b x:=by
   rintro b x ⟨⟨h1,h2⟩ | h,_⟩
   ·exact .inr (.inl ⟨h1,by omega,by omega⟩)
   ·exact .inr (.inr (r7.kD b h))
  have hR9:R w9 S q:=dc.f.keep hR7 k79 fun b x _ h=>dc.safe hR7 r7.dD' b x (sp7 h)
  have nU5:∀ x,¬ ((U=Bf∧x=Y.e∨vc5.ownBlock=some U)∧¬ Q5 U x):=by
   rintro x ⟨⟨h,_⟩ | h,_⟩
   ·exact dc.ne h.symm
   ·exact (r5.dD U (r5.cD U h)).2.1 rfl
  have nU6:∀ x,¬ ((U=Bf∧x=Y.e∨vc6.ownBlock=some U)∧¬ Q6 U x):=by
   rintro x ⟨⟨h,_⟩ | h,_⟩
   ·exact dc.ne h.symm
   ·exact (r6.dD U (r6.cD U h)).2.1 rfl
  have nU7:∀ x,¬ ((U=Bf∧x=Y.e+1∨(Value.slice vka lk5.length vkc).ownBlock=some U)∧¬ Q7 U x):=by
   rintro x ⟨⟨h,_⟩ | h,_⟩
   ·exact dc.ne h.symm
   ·exact (nv U 0 h).2.2.1 rfl
  have cU:∀ {x v},w5.cell? ⟨U,x,none⟩=some v→w9.cell? ⟨U,x,none⟩=some v:=fun hv=>k79.some (k67.some (k56.some hv (nU5 _)) (nU6 _)) (nU7 _)
  have pcU:∀ {v l},Pc w5 Q5 v l→Pc w9 Q7 v l:=fun h=>(((h.keep k56 fun b x hq _ hh=>hh.2 hq).mono hq6).keep k67 fun b x hq _ hh=>hh.2 hq).mono hq7 |>.keep k79 fun b x hq _ hh=>hh.2 hq
  have pc7U:∀ {v l},Pc w7 Q7 v l→Pc w9 Q7 v l:=fun h=>h.keep k79 fun b x hq _ hh=>hh.2 hq
  have z56:=k56.size
  have z67:=k67.size
  have z05:=k05.size
  refine hK _ _ (i+1) ?_ ⟨vc7,_,xs7,cc7,lk5++[y],_,Q7,hR9,p7.keep hB7 k79 (fun x _ _=>nU7 x),r9,?_,?_,cU q87,pcU pcs,cU q88,pcU pce,cU q90,k79.some k1 ?_,aX k2 k79 ?_,?_,?_,by omega⟩ (by omega)
  ·exact bU
  ·rw [az,m5,List.take_add_one,bw,hx,hy]
   rfl
  ·intro z hz
   rcases aS.1 hz with h | h
   ·obtain ⟨b1,b2,b3⟩:=pk5 z h
    exact ⟨b1,pcU b2,pcU b3⟩
   ·rw [aM] at h
    subst h
    rw [hy]
    exact ⟨hg.1,pc7U pc6,pc7U pc7⟩
  ·rintro ⟨⟨h,h'⟩ | h,_⟩
   ·exact dc.tB (Y.e+1) (by omega) (by omega) (by rw [← h,← h']; exact dc.tp (po+2) (by omega) (by omega))
   ·exact (nv pb (po+2) h).1 (dc.tp (po+2) (by omega) (by omega))
  ·rintro g hg x ⟨⟨h,_⟩ | h,_⟩
   ·exact (dc.s hR7).2 (by rw [← h]; exact k7 g hg)
   ·exact (nv g 0 h).2.1 (k7 g hg)
  ·intro b hb
   have hD7b:D7 b→D b∨w.heap.size≤b:=fun h=>by
    rcases hD7' b h with h | h
    ·rcases hD6' b h with h | h
     ·exact hD5 b h
     ·exact .inr (by omega)
    ·exact .inr (by omega)
   rcases hb with hb | hb
   ·exact hD7b hb
   ·rcases n8 b hb with h | h
    ·exact hD7b (r7.kD b h)
    ·exact .inr (by omega)
  ·have dDw:∀ (D':Nat→Prop) {b x},(∀ b,D' b→D b∨w.heap.size≤b)→b < w.heap.size→dM Y U Bf D' b x→dM Y U Bf D b x:=by
     rintro D' b x hd hb (h | h | h)
     ·exact .inl h
     ·exact .inr (.inl h)
     ·rcases hd b h with h | h
      ·exact .inr (.inr h)
      ·omega
   have hD6:∀ b,D6 b→D b∨w.heap.size≤b:=fun b h=>by
    rcases hD6' b h with h | h
    ·exact hD5 b h
    ·exact .inr (by omega)
   have hD7:∀ b,D7 b→D b∨w.heap.size≤b:=fun b h=>by
    rcases hD7' b h with h | h
    ·exact hD6 b h
    ·exact .inr (by omega)
   exact ((k05.tr k56 fun b x hb h=>dDw D5 hD5 hb (sp5 h).2.2).tr k67 fun b x hb h=>dDw D6 hD6 hb (sp6 h).2.2).tr k79 fun b x hb h=>dDw D7 hD7 hb (sp7 h)
 ·have hi':¬ (i:Int) < out.length:=by omega
  obtain rfl:i=out.length:=by omega
  obtain ⟨_,h89⟩:=p5.d89
  have fU5:=p5.fU
  obtain ⟨vka,vkc,e5,_,_⟩:=bP r5.ko
  subst e5
  refine hJ @hi' @q81 @c7 @h89 @fU5 ?_
  obtain ⟨w6,hw6⟩:∃ w6,w6=w5.setCell ⟨U,Y.a+8,none⟩ (.slice vka lk5.length vkc):=⟨_,rfl⟩
  rw [← hw6]
  have k56:Keep (fun b x=>b=U∧x=Y.a+8) w5 w6:=by rw [hw6]; exact bY ⟨rfl,rfl⟩
  have s6:∀ {x v},x≠Y.a+8→w5.cell? ⟨U,x,none⟩=some v→w6.cell? ⟨U,x,none⟩=some v:=fun hx hv=>k56.some hv fun h=>hx h.2
  have h89':w6.cell? ⟨U,Y.a+8,none⟩=some (.slice vka lk5.length vkc):=by rw [hw6,cJ,h89]; rfl
  have p6:DP w6 Y U Bf C rt rv (some ⟨pb,po,none⟩) ps:=by
   obtain ⟨c,f,e,e2⟩:=p5.d92
   exact ⟨s6 (by omega) p5.d81,s6 (by omega) p5.d82,s6 (by omega) p5.d83,s6 (by omega) p5.d84,s6 (by omega) p5.d85,s6 (by omega) p5.d86,⟨_,s6 (by omega) q87⟩,⟨_,s6 (by omega) q88⟩,⟨_,h89'⟩,⟨_,s6 (by omega) q90⟩,s6 (by omega) p5.d91,⟨c,f,s6 (by omega) e,e2⟩,fun x=>by rw [k56.frozen U x (aC q81)]; exact p5.fU x,fun x=>by rw [k56.frozen Bf x (aC c7)]; exact p5.fB x⟩
  have pcU:∀ {v l},Pc w5 Q5 v l→Pc w6 Q5 v l:=fun h=>h.keep k56 fun b x hq _ hh=>(r5.dD b (r5.qD b x hq)).2.1 hh.1
  refine hk w6 vc5 _ _ xs5 [] cc5 lk5 D5 Q5 _ _ (dc.f.keep hR5 k56 fun b x _ h=>dc.safe hR5 r5.dD' b x (.inl ⟨h.1,by omega,by omega⟩)) p6 (r5.keep k56 (fun x _ _ h=>dc.ne h.1) fun g hg x h=>(r5.dD g hg).2.1 h.1) (s6 (by omega) q87) (pcU pcs) (s6 (by omega) q88) (pcU pce) h89' (s6 (by omega) q90) ?_ ?_ hD5 (k05.trans (k56.mono fun b x _ h => .inl ⟨h.1,by omega,by omega⟩))
  ·rw [m5,← k6]
   exact dq (by simp)
  ·intro x hx
   obtain ⟨b1,b2,b3⟩:=pk5 x hx
   exact ⟨b1,pcU b2,pcU b3⟩
end
end Go.Proofs
end
section
namespace Go.E
open Go Go.Proofs.Tryz
theorem bp.drew' {w w2:World} (h:bp w w2):bp w w2.drew:=Keep.drew h
end Go.E
namespace Go.Proofs
open Go Go.E Go.Sort Go.Proofs.Tryz
section
variable {k:aq} {d w:World} {Y:DX} {U Bf C:Nat} {rt:TypeId} {rv:Value} {is:Option Addr} {ps:Int}
theorem mS {b o n c:Nat} {ka:Option Addr} (h:w.cell? ⟨b,o+2,none⟩=some (.slice ka n c)) (hk:k (.bool (decide (n=0))) w):ai prog 76 #[.pointer (some ⟨b,o,none⟩)] k w:=by
 refine al [.tmp 2] func76 ?_
 have e:((n:Int) == 0)=decide (n=0):=by rw [bG]; simp
 simp (disch:=first | exact dZ | fail) only [go_sem,Option.isNone_some,h,e]
 exact hk
theorem xX {a b:Option Addr} {n m c e:Nat} (hk:k (.slice a n c) w):ai prog 99 #[.slice a n c,.slice b m e] k w:=by
 refine al [.tmp 4] func99 ?_
 refine bA ?_
 exact hk
theorem r8 {pb po:Nat} {x y:Sp} (p:DP w Y U Bf C rt rv (some ⟨pb,po,none⟩) ps) (hx:fE Y.ord w pb po x) (hy:fE Y.ord w U (Y.a+6) y)
    (hm : ∀ {q : aq}, x.ks ≠ [] → (∀ w', bp w w' → q (.bool (decide (x.ks.map Y.π = y.ks.map Y.π))) w') → cQ prog (.iface Y.mt Y.mv) "ShouldDefragment" #[.func (.func 86) #[] #[], .pointer (some ⟨pb, po, none⟩), .pointer (some ⟨U, Y.a + 6, none⟩)] q w.drew)
    (hk:∀ w',bp w w'→k (.bool (decide (x.ks≠[]∧x.ks.map Y.π=y.ks.map Y.π))) w'):ai prog 233 #[.pointer (some ⟨U,Y.a,none⟩),.pointer (some ⟨pb,po,none⟩),.pointer (some ⟨U,Y.a+6,none⟩)] k w:=by
 have hx0:=hx
 have hy0:=hy
 obtain ⟨_,_,⟨xv,x1,x2⟩,x3⟩:=hx
 obtain ⟨_,_,⟨yv,y1,y2⟩,y3⟩:=hy
 obtain ⟨xa,xc,rfl⟩:=x2.form
 obtain ⟨ya,yc,rfl⟩:=y2.form
 have q83:=p.d83
 have q85:=p.d85
 have q91:=p.d91
 refine al [.tmp 6] func233 ?_
 refine bA ?_
 refine bF (sq [0] (.eff 1 [] (sq [2,3,4] (.eff 5 [] (sq [6,7,8,9,10,11] (.read 12 (sq [13,14,15] (.read 16 (sq [17,18,19] (.read 20 (sq [21,22,23,24,25] (.eff 26 [] (sq [27,28] .done))))))))))))) ?_
 refine dQ @q83 @q85 @q91 ?_
 refine mS x1 ?_
 by_cases h0:x.ks.length=0
 ·rw [aV h0]
  refine dQ @q83 @q85 @q91 ?_
  have hks:x.ks=[]:=ak.1 h0
  have:=hk w.drew (Keep.refl _ w).drew
  rw [aG (by rw [hks]; simp)] at this
  exact this
 ·rw [aG h0]
  have hks:x.ks≠[]:=fun h=>h0 (by rw [h]; rfl)
  refine dQ @q83 @q85 @q91 ?_
  refine mS y1 ?_
  by_cases h1:y.ks.length=0
  ·rw [aV h1]
   refine dQ @q83 @q85 @q91 ?_
   have:=hk w.drew (Keep.refl _ w).drew
   rw [aG (by rintro ⟨_,h⟩; have:=congrArg List.length h; simp [h1] at this; exact hks this)] at this
   exact this
  ·rw [aG h1]
   refine dQ @q83 @q85 @q91 ?_
   refine hm hks fun w2 x2 => ?_
   refine bA ?_
   have:=hk w2 x2
   rw [show decide (x.ks≠[]∧x.ks.map Y.π=y.ks.map Y.π)=decide (x.ks.map Y.π=y.ks.map Y.π) by rw [decide_eq_decide]; exact ⟨fun h=>h.2,fun h=>⟨hks,h⟩⟩] at this
   exact this
theorem DC.meq {pb po xb xo yb yo:Nat} {x y:Sp} {G:List Sp} {pF pL:Prop} {pK:Bytes→Prop} {T:Nat→Nat→Prop} {R:World→(Nat→Prop)→Int→Prop} {S:Nat→Prop} {q:Int} (dc:DC d Y U Bf C pb po rt rv G pF pL pK T R) (hR:R w S q) (hx:fE Y.ord w xb xo x) (hy:fE Y.ord w yb yo y) (hl:x.ks.length < 100000) (hne:x.ks≠[])
    (hk : ∀ w', bp w.drew.drew w' → k (.bool (decide (x.ks.map Y.π = y.ks.map Y.π))) w') : cQ prog (.iface Y.mt Y.mv) "ShouldDefragment" #[.func (.func 86) #[] #[], .pointer (some ⟨xb, xo, none⟩), .pointer (some ⟨yb, yo, none⟩)] k w.drew.drew.drew :=
 dc.meth (dc.f.keep hR (bp.refl w).drew'.drew'.drew' fun _ _ _ h=>h.elim) (fE.mono Y.ord _ _ _ _ _ (bp.refl w).drew'.drew'.drew'.inc hx) (fE.mono Y.ord _ _ _ _ _ (bp.refl w).drew'.drew'.drew'.inc hy) hne hl fun w' x'=>hk w' ((bp.refl w.drew.drew).drew'.trans x')
end
end Go.Proofs
end
section
namespace Go.E
open Go Go.Sort Go.Proofs
structure Cu (w:World) (Y:DX) (U:Nat) (Q:Nat→Nat→Prop) (vk vb:Value) (xb:List Value) (lk:List KR) (s e:Bytes) (ks:List K):Prop where
 c87:∃ v,w.cell? ⟨U,Y.a+6,none⟩=some v∧(Pc w Q v s∨v=vb∧xb=eF s)
 c88:∃ v,w.cell? ⟨U,Y.a+7,none⟩=some v∧(Pc w Q v e∨v=vb∧xb=eF e)
 c89:w.cell? ⟨U,Y.a+8,none⟩=some vk
 c90:w.cell? ⟨U,Y.a+9,none⟩=some (.int .i8 Y.ord)
 km:lk.map KR.k=ks
 pk:∀ x ∈ lk,PK w Q x
section
variable {d w w2:World} {Y:DX} {U Bf C pb po:Nat} {rt:TypeId} {rv:Value} {G:List Sp} {pF pL:Prop} {pK:Bytes→Prop} {T:Nat→Nat→Prop} {R:World→(Nat→Prop)→Int→Prop} {D S S2:Nat→Prop} {Q Q2:Nat→Nat→Prop} {vc vk vb v:Value} {xs xb:List Value} {cc:Nat} {lk:List KR} {is:Option Addr} {ps q:Int} {l s e:Bytes} {ks:List K} {M:Nat→Nat→Prop}
theorem PK.keep {x:KR} (h:PK w Q x) (hk:Keep M w w2) (hm:∀ b x,Q b x→b < w.heap.size→¬ M b x):PK w2 Q x:=⟨h.1,h.2.1.keep hk hm,h.2.2.keep hk hm⟩
theorem Cu.keep (c:Cu w Y U Q vk vb xb lk s e ks) (hk:Keep M w w2) (hm:∀ b x,Q b x→b < w.heap.size→¬ M b x) (h1:∀ x,Y.a+6≤x→x≤Y.a+9→¬ M U x):Cu w2 Y U Q vk vb xb lk s e ks where
 c87:=by obtain ⟨v,a,b⟩:=c.c87; exact ⟨v,hk.some a (h1 _ (by omega) (by omega)),b.imp (fun h=>h.keep hk hm) id⟩
 c88:=by obtain ⟨v,a,b⟩:=c.c88; exact ⟨v,hk.some a (h1 _ (by omega) (by omega)),b.imp (fun h=>h.keep hk hm) id⟩
 c89:=hk.some c.c89 (h1 _ (by omega) (by omega))
 c90:=hk.some c.c90 (h1 _ (by omega) (by omega))
 km:=c.km
 pk x hx:=PK.keep (c.pk x hx) hk hm
theorem EB (r:DR d w Y U Bf T D S Q vc vk vb xs xb cc lk) (h:Pc w Q v l∨v=vb∧xb=eF l):dR w v l:=by
 rcases h with h | ⟨rfl,rfl⟩
 ·exact h.1
 ·have:=r.bo
  rw [cP] at this
  exact jS this
theorem Cu.span (c:Cu w Y U Q vk vb xb lk s e ks) (r:DR d w Y U Bf T D S Q vc vk vb xs xb cc lk):fE Y.ord w U (Y.a+6) ⟨s,e,ks⟩:=by
 obtain ⟨v,a,b⟩:=c.c87
 obtain ⟨v2,a2,b2⟩:=c.c88
 obtain ⟨ka,kc,e1,_,_⟩:=bP r.ko
 have o:=r.ko
 have c89:=c.c89
 rw [e1] at o c89
 refine ⟨⟨v,a,EB r b⟩,⟨v2,a2,EB r b2⟩,⟨_,c89,?_⟩,c.c90⟩
 have:=nJ (d:=w) (out:=lk) o rfl ag (fun x hx=>⟨(c.pk x hx).1,(c.pk x hx).2.1.1,(c.pk x hx).2.2.1⟩) (cM.refl w)
 rw [c.km] at this
 exact this
theorem DC.below (dc:DC d Y U Bf C pb po rt rv G pF pL pK T R) (hR:R w S q) (p:DP w Y U Bf C rt rv is ps) (r:DR d w Y U Bf T D S Q vc vk vb xs xb cc lk) (hk:Keep (fun b x=>T b x∨S b) w w2) (hs:∀ b,S2 b→S b∨w.heap.size≤b) :
    DP w2 Y U Bf C rt rv is ps∧DR d w2 Y U Bf T D S2 Q vc vk vb xs xb cc lk∧∀ {s e ks},Cu w Y U Q vk vb xb lk s e ks→Cu w2 Y U Q vk vb xb lk s e ks:=by
 have nU:∀ x,Y.a≤x→x≤Y.a+11→¬ (T U x∨S U):=fun x h1 h2 h=>h.elim (dc.t x h1 h2) (dc.s hR).1
 have nB:∀ x,Y.e≤x→x≤Y.e+2→¬ (T Bf x∨S Bf):=fun x h1 h2 h=>h.elim (dc.tB x h1 h2) (dc.s hR).2
 have nD:∀ g,D g→∀ x,¬ (T g x∨S g):=fun g hg x h=>h.elim ((r.dD g hg).2.2.2.2.1 x) (r.dD g hg).2.2.2.1
 have r2:=r.keep hk nB nD
 refine ⟨p.keep (aC r.ch) hk nU,⟨r2.ch,r2.co,r2.cf,r2.kh,r2.ko,r2.bh,r2.bo,r2.cD,r2.kD,r2.bD,r2.ck,r2.cb,r2.kb,fun g hg => ?_,r2.qD,r2.qc,r2.qk,r2.qb⟩,fun c=>c.keep hk (fun b x hq _=>nD b (r.qD b x hq) x) fun x h1 h2=>nU x (by omega) (by omega)⟩
 obtain ⟨a1,a2,a3,a4,a5⟩:=r2.dD g hg
 refine ⟨a1,a2,a3,fun h => ?_,a5⟩
 rcases hs g h with h' | h'
 ·exact a4 h'
 ·have:=(r.dD g hg).1; omega
theorem DC.own (dc:DC d Y U Bf C pb po rt rv G pF pL pK T R) (hR:R w S q) (r:DR d w Y U Bf T D S Q vc vk vb xs xb cc lk) {x:Nat} (hx:Y.a≤x) (hx2:x≤Y.a+11) (v:Value) :
    R (w.setCell ⟨U,x,none⟩ v) S q∧DR d (w.setCell ⟨U,x,none⟩ v) Y U Bf T D S Q vc vk vb xs xb cc lk∧Keep (fun b y=>b=U∧y=x) w (w.setCell ⟨U,x,none⟩ v):=by
 have kk:Keep (fun b y=>b=U∧y=x) w (w.setCell ⟨U,x,none⟩ v):=bY ⟨rfl,rfl⟩
 exact ⟨dc.f.keep hR kk fun b y _ h=>dc.safe hR r.dD' b y (.inl ⟨h.1,by omega,by omega⟩),r.keep kk (fun y _ _ h=>dc.ne h.1) fun g hg y h=>(r.dD g hg).2.1 h.1,kk⟩
theorem DP.set85 (p:DP w Y U Bf C rt rv is ps) (hB:Bf < w.heap.size) (is2:Option Addr):DP (w.setCell ⟨U,Y.a+4,none⟩ (.pointer is2)) Y U Bf C rt rv is2 ps:=by
 have kk:Keep (fun b y=>b=U∧y=Y.a+4) w (w.setCell ⟨U,Y.a+4,none⟩ (.pointer is2)):=bY ⟨rfl,rfl⟩
 have s:∀ {x v},x≠Y.a+4→w.cell? ⟨U,x,none⟩=some v→(w.setCell ⟨U,Y.a+4,none⟩ (.pointer is2)).cell? ⟨U,x,none⟩=some v:=fun hx hv=>kk.some hv fun h=>hx h.2
 have sx:∀ {x},x≠Y.a+4→(∃ v,w.cell? ⟨U,x,none⟩=some v)→∃ v,(w.setCell ⟨U,Y.a+4,none⟩ (.pointer is2)).cell? ⟨U,x,none⟩=some v:=fun a ⟨v,hv⟩=>⟨v,s a hv⟩
 obtain ⟨c,f,e,e2⟩:=p.d92
 exact ⟨s (by omega) p.d81,s (by omega) p.d82,s (by omega) p.d83,s (by omega) p.d84,by rw [cJ,p.d85]; rfl,s (by omega) p.d86,sx (by omega) p.d87,sx (by omega) p.d88,sx (by omega) p.d89,sx (by omega) p.d90,s (by omega) p.d91,⟨c,f,s (by omega) e,e2⟩,fun x=>by rw [kk.frozen U x (aC p.d81)]; exact p.fU x,fun x=>by rw [kk.frozen Bf x hB]; exact p.fB x⟩
theorem DP.set86 (p:DP w Y U Bf C rt rv is ps) (hB:Bf < w.heap.size) (n:Int):DP (w.setCell ⟨U,Y.a+5,none⟩ (.int .i8 n)) Y U Bf C rt rv is n:=by
 have kk:Keep (fun b y=>b=U∧y=Y.a+5) w (w.setCell ⟨U,Y.a+5,none⟩ (.int .i8 n)):=bY ⟨rfl,rfl⟩
 have s:∀ {x v},x≠Y.a+5→w.cell? ⟨U,x,none⟩=some v→(w.setCell ⟨U,Y.a+5,none⟩ (.int .i8 n)).cell? ⟨U,x,none⟩=some v:=fun hx hv=>kk.some hv fun h=>hx h.2
 have sx:∀ {x},x≠Y.a+5→(∃ v,w.cell? ⟨U,x,none⟩=some v)→∃ v,(w.setCell ⟨U,Y.a+5,none⟩ (.int .i8 n)).cell? ⟨U,x,none⟩=some v:=fun a ⟨v,hv⟩=>⟨v,s a hv⟩
 obtain ⟨c,f,e,e2⟩:=p.d92
 exact ⟨s (by omega) p.d81,s (by omega) p.d82,s (by omega) p.d83,s (by omega) p.d84,s (by omega) p.d85,by rw [cJ,p.d86]; rfl,sx (by omega) p.d87,sx (by omega) p.d88,sx (by omega) p.d89,sx (by omega) p.d90,s (by omega) p.d91,⟨c,f,s (by omega) e,e2⟩,fun x=>by rw [kk.frozen U x (aC p.d81)]; exact p.fU x,fun x=>by rw [kk.frozen Bf x hB]; exact p.fB x⟩
theorem DR.bset {w8:World} {v8:Value} {x8:List Value} (r:DR d w Y U Bf T D S Q vc vk vb xs xb cc lk) (o8:w8.ownsRow 0 5 1 v8 x8.length x8) (k8:Keep (fun b _=>vb.ownBlock=some b) w w8) (n8:cZ w vb v8) (hU:U < w.heap.size) (hinc:cM d w) (hS:∀ g,S g→g < w.heap.size) (hT:∀ b x,T b x→b < w.heap.size) :
    DR d (w8.setCell ⟨Bf,Y.e+2,none⟩ v8) Y U Bf T (fun b=>D b∨v8.ownBlock=some b) S Q vc vk v8 xs x8 cc lk∧Keep (fun b x=>(b=Bf∧x=Y.e+2∨vb.ownBlock=some b)∧¬ Q b x) w (w8.setCell ⟨Bf,Y.e+2,none⟩ v8):=by
 have hB:=aC r.ch
 have kk:Keep (fun b x=>(b=Bf∧x=Y.e+2∨vb.ownBlock=some b)∧¬ Q b x) w (w8.setCell ⟨Bf,Y.e+2,none⟩ v8):=(k8.mono fun b x _ h=>⟨.inr h,r.qb b x h⟩).set fun _=>⟨.inl ⟨rfl,rfl⟩,fun hq=>(r.dD _ (r.qD _ _ hq)).2.2.1 rfl⟩
 have kx:Keep (fun b x=>b=Bf∧x=Y.e+2∨vb.ownBlock=some b) w (w8.setCell ⟨Bf,Y.e+2,none⟩ v8):=kk.mono fun b x _ h=>h.1
 have nB:∀ x,x≠Y.e+2→¬ (Bf=Bf∧x=Y.e+2∨vb.ownBlock=some Bf):=by
  rintro x hx (⟨_,h⟩ | h)
  ·exact hx h
  ·exact (r.dD Bf (r.bD Bf h)).2.2.1 rfl
 have v8d:∀ g,v8.ownBlock=some g→g < w8.heap.size∧g≠U∧g≠Bf∧¬ S g∧(∀ x,¬ T g x)∧cj d g:=fun g hg=>by
  rcases n8 g hg with h | h
  ·exact ⟨(o8.lt g hg).2,(r.dD g (r.bD g h)).2⟩
  ·exact ⟨(o8.lt g hg).2,by omega,by omega,fun hs=>by have:=hS g hs; omega,fun x hx=>by have:=hT g x hx; omega,hinc.out h⟩
 have nc:∀ g,vc.ownBlock=some g→∀ x,¬ (g=Bf∧x=Y.e+2∨vb.ownBlock=some g):=by
  rintro g hg x (⟨h,_⟩ | h)
  ·exact (r.dD g (r.cD g hg)).2.2.1 h
  ·exact r.cb g hg h
 have nk:∀ g,vk.ownBlock=some g→∀ x,¬ (g=Bf∧x=Y.e+2∨vb.ownBlock=some g):=by
  rintro g hg x (⟨h,_⟩ | h)
  ·exact (r.dD g (r.kD g hg)).2.2.1 h
  ·exact r.kb g hg h
 obtain ⟨q7,hq7⟩:∃ u,w8.cell? ⟨Bf,Y.e+2,none⟩=some u:=⟨_,k8.some r.bh fun h=>(r.dD Bf (r.bD Bf h)).2.2.1 rfl⟩
 refine ⟨⟨kx.some r.ch (nB _ (by omega)),aX r.co kx nc,r.cf,kx.some r.kh (nB _ (by omega)),aX r.ko kx nk,by rw [cJ,hq7]; rfl,aX o8 (bY (M:=fun b x=>b=Bf∧x=Y.e+2) ⟨rfl,rfl⟩) fun g hg x h=>(v8d g hg).2.2.1 h.1,fun g hg => .inl (r.cD g hg),fun g hg => .inl (r.kD g hg),fun g hg => .inr hg,r.ck,fun g hg hb => ?_,fun g hg hb => ?_,fun g hg => ?_,fun b x hq => .inl (r.qD b x hq),r.qc,r.qk,fun g x hg hq => ?_⟩,kk⟩
 ·rcases n8 g hb with h | h
  ·exact r.cb g hg h
  ·have:=(r.co.lt g hg).2; omega
 ·rcases n8 g hb with h | h
  ·exact r.kb g hg h
  ·have:=(r.ko.lt g hg).2; omega
 ·rw [World.size_setCell]
  rcases hg with hg | hg
  ·obtain ⟨a,b⟩:=r.dD g hg
   exact ⟨aL a k8.size,b⟩
  ·exact v8d g hg
 ·rcases n8 g hg with h | h
  ·exact r.qb g x h hq
  ·have:=(r.dD g (r.qD g x hq)).1; omega
end
end Go.E
end
