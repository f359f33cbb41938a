/- Parts of the proof: Sy, Sk, Fm, Fs. -/
import Derived.Test.YtjcbeinpkafjiaaGreatW10
set_option linter.all false
set_option maxRecDepth 10000
section
namespace Go.E
open Go Go.Sort Go.Proofs
theorem Cr {P:Program} {t t2 ty el el2:TypeId} {a:Option Addr} {n c:Nat} {x:Value} {w:World} (h:P.underlying t=some (.slice el)) (h2:P.underlying t2=some (.slice el2)) :
    (Builtin.append_ [t,t2].toArray ty [.slice a n c,x].toArray).run P w=(Builtin.append_ [t,t].toArray ty [.slice a n c,x].toArray).run P w:=by
 simp [Builtin.append_,run_underlying h,run_underlying h2]
end Go.E
namespace Go.E
open Go Go.Sort Go.Proofs
theorem pW {d:World} {v:Value} {ks:List K} (h:fC ku 3 d v ks) (hne:ks≠[]):∃ xs:List KR,xs.map KR.k=ks∧(∀ x ∈ xs,x.good d)∧∀ w,cN d w→rW w v ks.length (flat xs):=by
 unfold fC at h
 split at h
 ·obtain ⟨rfl,rfl⟩:=h
  exact ⟨[],rfl,fun x hx=>by simp at hx,fun w _=>⟨rfl,rfl,rfl⟩⟩
 ·rename_i a n c
  obtain ⟨b,o,s⟩:=a
  obtain ⟨h1,h2,_,h4⟩:=h
  have hs:s=none:=h1 (by rw [h2]; exact List.length_pos_iff.2 hne)
  subst hs
  have gen:∀ (ks:List K) (o:Nat),(∀ i x,ks[i]? = some x→ku d b (o+i * 3) x)→∃ xs:List KR,xs.map KR.k=ks∧(∀ x ∈ xs,x.good d)∧∀ j u,(flat xs)[j]? = some u→d.cell? ⟨b,o+j,none⟩=some u:=by
   intro ks
   induction ks with
   | nil=>intro o _; exact ⟨[],rfl,fun x hx=>by simp at hx,fun j u hj=>by simp [oR] at hj⟩
   | cons y ks ih =>
    intro o hy
    obtain ⟨xs,e1,e2,e3⟩:=ih (o+3) (fun i x hx=>by
     have:=hy (i+1) x (by simpa using hx)
     rw [show o+3+i * 3=o+(i+1) * 3 by omega]; exact this)
    obtain ⟨k1,k2,⟨sv,k3,k4⟩,vv,k5,k6⟩:=hy 0 y rfl
    simp only [Nat.zero_mul,Nat.add_zero] at k1 k3 k5
    refine ⟨⟨y,sv,vv⟩ :: xs,by simp [e1],fun x hx => ?_,fun j u hj => ?_⟩
    ·rcases al.1 hx with rfl | hx
     ·exact ⟨k2,k4,k6⟩
     ·exact e2 x hx
    ·rw [iT] at hj
     rcases j with _ | _ | _ | j
     ·simp only [List.getElem?_cons_zero,aL] at hj
      subst hj; exact k1
     ·simp only [List.getElem?_cons_succ,List.getElem?_cons_zero,aL] at hj
      subst hj; exact k3
     ·simp only [List.getElem?_cons_succ,List.getElem?_cons_zero,aL] at hj
      subst hj; exact k5
     ·simp only [List.getElem?_cons_succ] at hj
      have:=e3 j u hj
      rw [show o+(j+1+1+1)=o+3+j by omega]; exact this
  obtain ⟨xs,e1,e2,e3⟩:=gen ks o h4
  refine ⟨xs,e1,e2,fun w hw=>⟨h2,fun j u hj => ?_⟩⟩
  rw [df rfl]
  exact hw _ _ _ (e3 j u hj)
 ·exact h.elim
theorem lD {d w:World} {ka:Option Addr} {n cap:Nat} {c out:List KR} (h:w.ownsRow 0 256 3 (.slice ka n cap) n (flat c)) (hc:c.length=n) (ht:c.take out.length=out) (hg:∀ x ∈ c,x.good d) (hd:cN d w) :
    fC ku 3 w (.slice ka out.length cap) (out.map KR.k):=by
 have hle:out.length≤n:=by
  have:out.length=(c.take out.length).length:=by rw [ht]
  rw [bB] at this
  omega
 rcases cR h with ⟨e,h0,_⟩ | ⟨g,cap',e,hcap,_⟩
 ·simp only [aW] at e
  obtain ⟨rfl,_,rfl⟩:=e
  have:out=[]:=aZ.1 (by omega)
  subst this
  exact ⟨rfl,rfl⟩
 ·simp only [aW,true_and] at e
  obtain ⟨rfl,rfl⟩:=e
  refine ⟨fun _=>rfl,by simp,by omega,fun i x hx => ?_⟩
  rw [br] at hx
  obtain ⟨y,hy,rfl⟩:=Option.map_eq_some_iff.1 hx
  have hy2:c[i]? = some y:=by
   rw [← ht,List.getElem?_take] at hy
   split at hy
   ·exact hy
   ·simp at hy
  obtain ⟨f1,f2,f3⟩:=jh hy2
  have g:=hg y (aK hy2)
  refine ⟨by rw [Nat.zero_add]; exact bL h f1,g.1,⟨y.sv,by rw [Nat.zero_add]; exact bL h f2,g.2.1.inc hd⟩,y.vv,by rw [Nat.zero_add]; exact bL h f3,g.2.2.inc hd⟩
theorem jO {d:World} {l:List KR} (h:∀ x ∈ l,x.good d):∀ u ∈ flat l,u.oneCell'=true:=by
 induction l with
 | nil=>intro u hu; simp [oR] at hu
 | cons x l ih =>
  intro u hu
  rw [show flat (x :: l)=x.cells++flat l from rfl] at hu
  rcases aV.1 hu with h1 | h1
  ·exact gI (h x aO) u h1
  ·exact ih (fun y hy=>h y (aj _ hy)) u h1
def Lf (Ls:Array Lvl):Nat→List Sp:=fun i=>Ls[i]!.L
structure MS (d:World) (U Bf C:Nat) (Ls:Array Lvl) (snap:Nat) (B:List Bytes):Prop where
 mc:MC d U Bf Ls
 bds:Bds Ls.size (Lf Ls) B
 snap:snap < 18446744073709551616
 eq:d.cell? ⟨C,1,none⟩=some (.func (.func 103) #[] #[])
 cd:∀ u,Cd (dO Ls.size (Lf Ls) B u)
 len:∀ u,(dO Ls.size (Lf Ls) B u).length < 100000
 blen:∀ x ∈ B,x.length < 4294967296
structure MU (w:World) (U Bf C snap:Nat):Prop where
 u0:w.cell? ⟨U,0,none⟩=some (.int .u64 snap)
 u1:w.cell? ⟨U,1,none⟩=some (.pointer (some ⟨C,0,none⟩))
 u3:∃ a n c,w.cell? ⟨U,3,none⟩=some (.slice a n c)
 u4:∃ a n c,w.cell? ⟨U,4,none⟩=some (.slice a n c)
 u5:w.cell? ⟨U,5,none⟩=some (.iface 221 (.pointer (some ⟨U,0,none⟩)))
 u6:∃ v,w.cell? ⟨U,6,none⟩=some v
 u7:∃ v,w.cell? ⟨U,7,none⟩=some v
 u8:∃ v,w.cell? ⟨U,8,none⟩=some v
 u9:∃ v,w.cell? ⟨U,9,none⟩=some v
 u11:∃ v,w.cell? ⟨U,11,none⟩=some v
 u93:w.cell? ⟨U,93,none⟩=some (.bool false)
 u94:w.cell? ⟨U,94,none⟩=some (.pointer (some ⟨Bf,0,none⟩))
 c9:∃ v,w.cell? ⟨Bf,9,none⟩=some v
section
variable (n:Nat) (L:Nat→List Sp) (B:List Bytes) (u:Nat)
def jZ (i:Nat):List K:=(List.range i).flatMap fun i=>if cp L B u i % 2=1 then (L i)[cp L B u i / 2]!.ks else []
theorem ji (i:Nat):jZ L B u (i+1)=jZ L B u i++if cp L B u i % 2=1 then (L i)[cp L B u i / 2]!.ks else []:=by
 unfold jZ
 rw [List.range_succ,bP]
 simp
theorem te {i:Nat} (h:i≤n):(jZ L B u i).length≤(dO n L B u).length:=by
 obtain ⟨m,rfl⟩:∃ m,n=i+m:=⟨n - i,by omega⟩
 unfold dO jZ
 rw [List.range_add,bP,aJ]
 omega
def oh (i:Nat):Bool:=(List.range i).any fun i=>decide (cp L B u i % 2=1)
theorem tg:oh L B u 0=false:=rfl
theorem mY (i:Nat):oh L B u (i+1)=(oh L B u i || decide (cp L B u i % 2=1)):=by
 unfold oh
 rw [List.range_succ,List.any_append]
 simp
end
def zm (U Bf:Nat) (vk vs:Value):Nat→Nat→Prop:=fun b x=>b=U∧6≤x∧x≤9∨b=Bf∧(x=0∨9≤x∧x≤10)∨vk.ownBlock=some b∨vs.ownBlock=some b
end Go.E
end
section
namespace Go.Proofs
open Go Go.E Go.Sort Go.Proofs.Tryz
section
variable {k:au} {d w:World} {U Bf C snap u:Nat} {Ls:Array Lvl} {B:List Bytes} {pos:Nat→Int}
theorem yd {a:Option Addr} {n c:Nat} {x:Value} {q:au}:lY prog #[159,110] 159 #[.slice a n c,x] q w=du prog (Builtin.append_ #[159,159] 159 #[.slice a n c,x]) q w:=by
 have h2:prog.underlying 110=some (.slice 256):=by kernel_rfl
 have h1:prog.underlying 159=some (.slice 256):=by kernel_rfl
 have:=Cr (P:=prog) (t:=159) (t2:=110) (ty:=159) (a:=a) (n:=n) (c:=c) (x:=x) (w:=w) h1 h2
 have e:lY prog #[159,110] 159 #[.slice a n c,x] q w=du prog (Builtin.append_ #[159,110] 159 #[.slice a n c,x]) q w:=by simp only [lY]
 rw [e]
 simp only [du,this]
theorem mZ {o f:Nat} {a b:Value} {x y:Bytes} (h0:w.cell? ⟨U,o,none⟩=some (.pointer (some ⟨Bf,f,none⟩))) (h1:w.cell? ⟨Bf,f+2,none⟩=some (.func (.func 102) #[] #[])) (ha:eN w a x) (hb:eN w b y) (hk:k (.int .i64 (ct x y)) w) :
    aX prog 208 #[.pointer (some ⟨U,o,none⟩),a,b] k w:=by
 refine ae [.tmp 6] func208 ?_
 refine dU @h0 @h1 ?_
 refine cQ ha hb ?_
 refine an ?_
 exact hk
set_option maxHeartbeats 1000000 in
theorem ng {vk vs:Value} {lk ls:List KR} {sa ea:Option Addr} {sn sc en ec:Nat} (m:MS d U Bf C Ls snap B) (g:MB d w U 2 Bf 0 Ls pos) (mu:MU w U Bf C snap) (hcmp:w.cell? ⟨Bf,2,none⟩=some (.func (.func 102) #[] #[]))
    (hpos:∀ i,i < Ls.size→0 < Ls[i]!.L.length→pos i=cp (Lf Ls) B u i) (rk:KOwn d w Bf 0 vk lk) (rs:KOwn d w Bf 10 vs ls)
    (hvk:∀ g,vk.ownBlock=some g→g≠U∧g≠Bf∧cx d g∧(∀ i,i < Ls.size→g≠Ls[i]!.I)) (hvs:∀ g,vs.ownBlock=some g→g≠U∧g≠Bf∧cx d g∧(∀ i,i < Ls.size→g≠Ls[i]!.I)∧vk.ownBlock≠some g)
    (u3:w.cell? ⟨U,3,none⟩=some (.slice sa sn sc)) (u4:w.cell? ⟨U,4,none⟩=some (.slice ea en ec))
    (hk:∀ w' ka n cap vs' lk' ls' out,w'.cell? ⟨U,6,none⟩=some (.slice sa sn sc)→w'.cell? ⟨U,7,none⟩=some (.slice ea en ec)→w'.cell? ⟨U,8,none⟩=some (.slice ka (out:List KR).length cap)→w'.cell? ⟨U,9,none⟩=some (.int .i8 1) →
     KOwn d w' Bf 0 (.slice ka n cap) lk'→lk'.length=n→lk'.take out.length=out→out.map KR.k=Tf snap (dO Ls.size (Lf Ls) B u)→KOwn d w' Bf 10 vs' ls'→(∃ v,w'.cell? ⟨Bf,9,none⟩=some v)→cP w vk (.slice ka n cap)→cP w vs vs'→(∀ g,vs'.ownBlock=some g→(Value.slice ka n cap).ownBlock≠some g)→Keep (zm U Bf vk vs) w w' →
     k (.tuple #[.bool (mV Ls.size (Lf Ls) B u),.pointer (some ⟨U,6,none⟩)]) w') :
    aX prog 209 #[.pointer (some ⟨U,2,none⟩),.int .i8 (1)] k w:=by
 have c1:=g.bufs
 have lvs:=g.lvls
 have fU:=g.fU
 have fB:=g.fB
 have hUs:=aD u3
 have hBs:=aD lvs
 have ne:=m.mc.ne
 obtain ⟨a0,cap0,e0,hc0,_⟩:=ao rk.own
 subst e0
 have r0:=rk.hd
 have m11:((-1:Int) == 1)=false:=by decide
 have z0:(0:Int).toNat=0:=rfl
 have zc:(0:Int)≤cap0:=by omega
 refine ae [.tmp 4,.tmp 5] func209 ?_
 refine an ?_
 refine ay (sq [0,1,2] (.read 3 (sq [4,5,6] (.read 7 (sq [8,9] (.read 10 (sq [11,12,13] (.eff 14 [] .done)))))))) ?_
 simp (disch:=first | exact dZ | fail) only [go_sem,c1,r0,qq Tryz.es159,z0,zc,fB,lvs]
 obtain ⟨w1,hw1⟩:∃ w1,w1=(w.setCell ⟨Bf,0,none⟩ (.slice a0 0 cap0)).drew:=⟨_,rfl⟩
 rw [← hw1]
 have k1:Keep (iJ Bf 0 (.slice a0 lk.length cap0)) w w1:=by rw [hw1]; exact ((Keep.refl _ w).set (fun _ => .inl ⟨rfl,rfl⟩)).drew
 have k1':Keep (fun b x=>b=Bf∧x=0) w w1:=by rw [hw1]; exact ((Keep.refl _ w).set (fun _=>⟨rfl,rfl⟩)).drew
 have ro:KOwn d w1 Bf 0 (.slice a0 0 cap0) []:=by
  refine ⟨by rw [hw1]; exact bk @r0,aT (dV rk.own) k1' fun g hg x h=>(hvk g (by rw [b7 a0 lk.length 0]; exact hg)).2.1 h.1,fun x hx=>by simp at hx⟩
 have nw:cP w (.slice a0 lk.length cap0) (.slice a0 0 cap0):=fun g hg => .inl (by rw [b7 a0 lk.length 0]; exact hg)
 refine bR (fun i:Nat=>[(0,.pointer (some ⟨U,2,none⟩)),(1,.int .i8 (1)),(6,.bool (oh (Lf Ls) B u i)),(42,.int .i64 Ls.size),(43,.int .i64 i)])
  (fun i w'=>∃ v l,KOwn d w' Bf 0 v l∧l.map KR.k=jZ (Lf Ls) B u i∧cP w (.slice a0 lk.length cap0) v∧Keep (iJ Bf 0 (.slice a0 lk.length cap0)) w w'∧i≤Ls.size) (fun i _=>Ls.size - i) 0 (by kernel_rfl) ?_ ⟨_,[],ro,rfl,nw,k1,aP _⟩ ?_
 ·((try simp (disch:=first | exact dZ | fail) only [go_sem,tg]); (try simp only [and_true,true_and,dH,aW,cX,aL]); (try (refine ⟨?_,?_⟩ <;> omega)); (try omega))
 clear ro k1 k1' hw1 w1
 rintro K e i w1 ⟨v,l,i1,i2,i3,i4,i5⟩ hK
 have nrU:∀ x,¬ iJ Bf 0 (.slice a0 lk.length cap0) U x:=by
  rintro x (⟨h,_⟩ | h)
  ·exact ne h.symm
  ·exact (hvk U h).1 rfl
 have nrB:∀ x,x≠0→¬ iJ Bf 0 (.slice a0 lk.length cap0) Bf x:=by
  rintro x hx (⟨_,h⟩ | h)
  ·exact hx h
  ·exact (hvk Bf h).2.1 rfl
 have g1:MB d w1 U 2 Bf 0 Ls pos:=g.keep m.mc i4 (nrU _) (nrB _ (by omega)) (nrU _) (fun x _ _=>nrU x) (by
  rintro i hi x (⟨h,_⟩ | h)
  ·exact m.mc.iB i hi h
  ·exact (hvk _ h).2.2.2 i hi rfl) (by
  rintro x y (⟨rfl,_⟩ | h)
  ·exact m.mc.oB _
  ·exact (hvk _ h).2.2.1 _)
 have c1:=g1.bufs
 have lvs:=g1.lvls
 have fU:=g1.fU
 have fB:=g1.fB
 have n10:=m.mc.n10
 by_cases hi:i < Ls.size
 ·have hi':(i:Int) < Ls.size:=by omega
  have l1:=g1.lv i hi
  have d1:=l1.kd
  obtain ⟨vsp,d3,_,y3⟩:=l1.sp
  have hcle:=jY (L:=Lf Ls) (B:=B) u i
  unfold Lf at hcle
  by_cases hc:cp (Lf Ls) B u i % 2=1
  ·have hlen:0 < Ls[i]!.L.length:=by unfold Lf at hc; omega
   have hp:=hpos i hi hlen
   obtain ⟨c,hcc⟩:∃ c,c=cp (Lf Ls) B u i:=⟨_,rfl⟩
   have hcle:c≤2 * Ls[i]!.L.length:=by rw [hcc]; exact hcle
   rw [← hcc] at hp hc
   have hvl:dY Ls[i]!.L (pos i):=⟨by omega,by omega⟩
   have hkd:dh Ls[i]!.L (pos i)=2:=kC hvl (by omega)
   rw [hkd] at d1
   have e3:=y3 hvl
   subst e3
   rw [show (pos i).toNat / 2=c / 2 by omega] at d3
   obtain ⟨_,_,⟨kv,s1,s2⟩,_⟩:=m.mc.sp i hi (c / 2) (by omega)
   obtain ⟨xs,x1,x2,x3⟩:=pW s2 (m.mc.kn i hi (c / 2) (by omega))
   obtain ⟨kva,kvc,hkv⟩:=s2.form
   subst hkv
   have s1:=g1.inc _ _ _ s1
   have x3:=x3 w1 g1.inc
   have r1:=i1.hd
   obtain ⟨va,vcap,hve,_,_⟩:=ao i1.own
   subst hve
   refine gq @hi' @c1 @lvs @d1 @m11 ?_
   refine ay (sq [0,1,2] (.read 3 (sq [4,5,6] (.read 7 (sq [8,9] (.read 10 (sq [11,12,13] (.read 14 (sq [15,16] (.read 17 (sq [18,19,20,21] (.read 22 (sq [23,24] (.read 25 (.eff 26 [3] (sq [27,28] (.eff 29 [] .done))))))))))))))))) ?_
   simp (disch:=first | exact dZ | fail) only [go_sem,c1,lvs,d3,l9,s1,r1]
   have hvv:∀ g',(Value.slice va l.length vcap).ownBlock=some g'→g'≠U∧g'≠Bf∧cx d g'∧(∀ i,i < Ls.size→g'≠Ls[i]!.I):=fun g' hg'=>by
    rcases i3 g' hg' with h | h
    ·exact hvk g' h
    ·exact ⟨by omega,by omega,g.inc.out h,fun i hi he=>by have:=aD (g.lv i hi).iter.c0; omega⟩
   have hfk:=ji (Lf Ls) B u i
   rw [← hcc,if_pos hc] at hfk
   have hfl:=te Ls.size (Lf Ls) B u (i:=i+1) (by omega)
   have hlm:=m.len u
   have hll:l.length=(jZ (Lf Ls) B u i).length:=by rw [← i2,aS]
   have hsum:l.length+Ls[i]!.L[c / 2]!.ks.length < 100000:=by
    rw [hfk,aJ] at hfl
    unfold Lf at hfl hlm hll
    omega
   rw [yd]
   refine lW (m:=Ls[i]!.L[c / 2]!.ks.length) (news:=flat xs) rw159 i1.own.drew (by rw [gw,← x1,aS]) (by exact x3) (jO x2) (by omega) fun v5 w5 o5 k5 n5 _ => ?_
   obtain ⟨va5,vc5,e5,_,_⟩:=ao o5
   subst e5
   have k5:Keep (fun b _=>(Value.slice va l.length vcap).ownBlock=some b) w1 w5:=(Keep.refl _ w1).drew.trans (k5 _ fun b o hb _=>hb)
   have hUs1:=aD c1
   have hBs1:=aD lvs
   have c1:=k5.some c1 (fun h=>(hvv _ h).1 rfl)
   have lvs:=k5.some lvs (fun h=>(hvv _ h).2.1 rfl)
   have r1:=k5.some r1 (fun h=>(hvv _ h).2.1 rfl)
   have d3:=k5.some d3 (fun h=>(hvv _ h).1 rfl)
   have inc5:cN d w5:=g1.inc.keep k5 fun b o h=>(hvv b h).2.2.1 o
   obtain ⟨_,_,⟨kv',s1',_⟩,_⟩:=m.mc.sp i hi (c / 2) (by omega)
   have s1:=k5.some s1 (fun h=>cN.ne s1' (hvv _ h).2.2.1 (by rfl))
   have fB5:∀ x,w5.frozen? ⟨Bf,x,none⟩=false:=fun x=>by rw [k5.frozen Bf x hBs1]; exact fB x
   simp (disch:=first | exact dZ | fail) only [go_sem,c1,lvs,d3,l9,s1,r1,fB5]
   have hcv:oh (Lf Ls) B u (i+1)=true:=by rw [mY,← hcc,aU hc,Bool.or_true]
   have hxl:xs.length=Ls[i]!.L[c / 2]!.ks.length:=by rw [← x1,aS]
   have n15:cP w1 (.slice va l.length vcap) (.slice va5 (l.length+Ls[i]!.L[c / 2]!.ks.length) vc5):=fun g' hg'=>by
    rcases n5 with h | ⟨g2,h,h',_⟩
    ·exact .inl (by rw [← h]; exact hg')
    ·rw [h] at hg'
     simp only [aL] at hg'
     subst hg'
     exact .inr h'
   refine hK _ _ (i+1) ?_ ⟨.slice va5 (l.length+Ls[i]!.L[c / 2]!.ks.length) vc5,l++xs,⟨?_,?_,?_⟩,?_,i3.trans n15 i4.size,?_,by omega⟩ (by omega)
   ·((try simp (disch:=first | exact dZ | fail) only [go_sem,hcv]); (try simp only [and_true,true_and,dH,aW,cX,aL]); (try (refine ⟨?_,?_⟩ <;> omega)); (try omega))
   ·exact bk @r1
   ·rw [aJ,hxl,gv]
    refine aT o5 (bW (M:=fun b o=>b=Bf∧o=0) ⟨rfl,rfl⟩) fun g' hg' o h => ?_
    rcases n15 g' hg' with h' | h'
    ·exact (hvv g' h').2.1 h.1
    ·have:=h.1; omega
   ·intro y hy
    rcases aV.1 hy with h | h
    ·exact i1.good y h
    ·exact x2 y h
   ·rw [bH,i2,x1,hfk]; rfl
   ·exact (i4.tr k5 fun b o hb h=>i3.m b o hb (.inr h)).set (fun _ => .inl ⟨rfl,rfl⟩)
  ·have hkd:(dh Ls[i]!.L (pos i) == 2)=false:=by
     rw [beq_eq_false_iff_ne]
     unfold dh
     split
     ·rename_i hv
      have hp:=hpos i hi (by unfold dY at hv; omega)
      split <;> omega
     ·omega
   have hcv:oh (Lf Ls) B u (i+1)=oh (Lf Ls) B u i:=by rw [mY,aF hc,Bool.or_false]
   have hfk:=ji (Lf Ls) B u i
   rw [if_neg hc,av] at hfk
   refine pI @hi' @c1 @lvs @d1 @hkd @m11 ?_
   refine hK _ _ (i+1) ?_ ⟨v,l,i1,by rw [i2,hfk],i3,i4,by omega⟩ (by omega)
   ((try simp (disch:=first | exact dZ | fail) only [go_sem,hcv]); (try simp only [and_true,true_and,dH,aW,cX,aL]); (try (refine ⟨?_,?_⟩ <;> omega)); (try omega))
 ·have hi':¬ (i:Int) < Ls.size:=by omega
  obtain rfl:i=Ls.size:=by omega
  have hcv:oh (Lf Ls) B u Ls.size=mV Ls.size (Lf Ls) B u:=rfl
  have hfk:jZ (Lf Ls) B u Ls.size=dO Ls.size (Lf Ls) B u:=rfl
  rw [hfk] at i2
  rw [hcv]
  have hvv:∀ g',v.ownBlock=some g'→g'≠U∧g'≠Bf∧cx d g'∧(∀ i,i < Ls.size→g'≠Ls[i]!.I):=fun g' hg'=>by
   rcases i3 g' hg' with h | h
   ·exact hvk g' h
   ·exact ⟨by omega,by omega,g.inc.out h,fun i hi he=>by have:=aD (g.lv i hi).iter.c0; omega⟩
  have hll:l.length < 100000:=by
   have:=m.len u
   rw [← i2,aS] at this
   exact this
  refine dU @hi' @c1 ?_
  refine mW i1 g1.inc (fun g' hg'=>⟨(hvv g' hg').2.1,(hvv g' hg').2.2.1⟩) (by omega) fun w2 l2 j1 j2 j3 k2 => ?_
  have k02:Keep (iJ Bf 0 (.slice a0 lk.length cap0)) w w2:=i4.tr k2 fun b o hb h=>i3.m b o hb (.inr h)
  obtain ⟨v6,u6⟩:=mu.u6
  obtain ⟨v7,u7⟩:=mu.u7
  obtain ⟨v8,u8⟩:=mu.u8
  obtain ⟨v9,u9⟩:=mu.u9
  have u3:=k02.some u3 (nrU _)
  have u4:=k02.some u4 (nrU _)
  have u6:=k02.some u6 (nrU _)
  have u7:=k02.some u7 (nrU _)
  have u8:=k02.some u8 (nrU _)
  have u9:=k02.some u9 (nrU _)
  have u5:=k02.some mu.u5 (nrU _)
  have u0:=k02.some mu.u0 (nrU _)
  have u1:=k02.some mu.u1 (nrU _)
  have u93:=k02.some mu.u93 (nrU _)
  have u94:=k02.some mu.u94 (nrU _)
  have hcmp:=k02.some hcmp (nrB _ (by omega))
  obtain ⟨b9,c9⟩:=mu.c9
  have c9:=k02.some c9 (nrB _ (by omega))
  have c1:=k02.some g.bufs (nrU _)
  have fU2:∀ x,w2.frozen? ⟨U,x,none⟩=false:=fun x=>by rw [k02.frozen U x hUs]; exact g.fU x
  have fB2:∀ x,w2.frozen? ⟨Bf,x,none⟩=false:=fun x=>by rw [k02.frozen Bf x hBs]; exact g.fB x
  have inc2:cN d w2:=g1.inc.keep k2 fun b o h=>(hvv b h).2.2.1 o
  obtain ⟨ka,cap,hve,_,_⟩:=ao j1.own
  subst hve
  have hl2:l2.length=l.length:=j2.length_eq
  have j1h:=j1.hd
  refine an ?_
  refine ay (sq [0,1,2,3] (.read 4 (sq [5,6,7] (.read 8 (sq [9,10,11] (.read 12 (sq [13,14] (.read 15 (sq [16,17,18] (.eff 19 [] .done)))))))))) ?_
  refine zV @c1 @u3 @u4 @j1h @u6 @u7 @u8 @u9 @fU2 ?_
  refine ay (sq [0,1,2] (.read 3 (sq [4,5,6] (.read 7 (sq [8,9,10] (.read 11 (sq [12,13,14] (.read 15 (sq [16,17,18,19,20] (.eff 21 [] (sq [22] .done))))))))))) ?_
  refine vO @c1 @u5 @hcmp @u6 @u7 @u8 @u9 ?_
  obtain ⟨w3,hw3⟩:∃ w3,w3=(((w2.setCell ⟨U,6,none⟩ (.slice sa sn sc)).setCell ⟨U,7,none⟩ (.slice ea en ec)).setCell ⟨U,8,none⟩ (.slice ka l2.length cap)).setCell ⟨U,9,none⟩ (.int .i8 0):=⟨_,rfl⟩
  rw [← hw3]
  have k23:Keep (fun b x=>b=U∧6≤x∧x≤9) w2 w3.drew.drew:=by
   rw [hw3]
   exact (((((Keep.refl _ w2).set (fun _=>⟨rfl,by omega,by omega⟩)).set (fun _=>⟨rfl,by omega,by omega⟩)).set (fun _=>⟨rfl,by omega,by omega⟩)).set (fun _=>⟨rfl,by omega,by omega⟩)).drew.drew
  have q6:w3.cell? ⟨U,6,none⟩=some (.slice sa sn sc):=by rw [hw3]; exact bk @u6
  have q7:w3.cell? ⟨U,7,none⟩=some (.slice ea en ec):=by rw [hw3]; exact bk @u7
  have q8:w3.cell? ⟨U,8,none⟩=some (.slice ka l2.length cap):=by rw [hw3]; exact bk @u8
  have q9:w3.cell? ⟨U,9,none⟩=some (.int .i8 0):=by rw [hw3]; exact bk @u9
  have hvs2:∀ g',vs.ownBlock=some g'→g'≠U∧g'≠Bf∧cx d g'∧(Value.slice ka l2.length cap).ownBlock≠some g':=fun g' hg'=>by
   obtain ⟨a1,a2,a3,_,a5⟩:=hvs g' hg'
   refine ⟨a1,a2,a3,fun he => ?_⟩
   rcases i3 g' he with h | h
   ·exact a5 h
   ·have:=(rs.own.lt g' hg').2
    omega
  have rs3:KOwn d w3.drew.drew Bf 10 vs ls:=(rs.keep k02 (nrB _ (by omega)) fun g' hg' x h=>by
   rcases h with ⟨h,_⟩ | h
   ·exact (hvs g' hg').2.1 h
   ·exact (hvs g' hg').2.2.2.2 h).keep k23 (fun h=>ne h.1) fun g' hg' x h=>(hvs g' hg').1 h.1
  have rk3:KOwn d w3.drew.drew Bf 0 (.slice ka l2.length cap) l2:=by
   exact j1.keep k23 (fun h=>ne h.1) fun g' hg' x h=>(hvv g' hg').1 h.1
  have hcd:Cd (l2.map KR.k):=by
   have hc:=m.cd u
   rw [← i2] at hc
   have hp:=j2.map KR.k
   exact ⟨(List.Perm.pairwise_iff (by intro x y hxy e e2; exact hxy e.symm e2.symm) hp).2 hc.dist,fun x hx=>hc.kind x (hp.mem_iff.1 hx)⟩
  have hdk:DK l2:=by
   have h2:=hcd.dist
   rw [List.pairwise_map] at h2
   refine (j3.and h2).imp fun {x y} h=>⟨h.1,fun e => ?_⟩
   have:=h.2 e
   have:=h.1
   omega
  refine mz (ls:=ls) (w:=w3.drew.drew) (by exact k23.some u0 (by omega)) (by exact k23.some u1 (by omega)) (by exact k23.some u93 (by omega)) (by exact k23.some u94 (by omega)) m.eq ⟨b9,by exact k23.some c9 (fun h=>ne h.1)⟩ rk3 rs3 ⟨_,q6⟩ ⟨_,q7⟩ (by exact q8) ⟨_,q9⟩
   (fun x=>by rw [k23.frozen U x (aD u3)]; exact fU2 x) (fun x=>by rw [k23.frozen Bf x (aD hcmp)]; exact fB2 x) (inc2.keep k23 fun b x h=>by rw [h.1]; exact m.mc.oU x) m.mc.oU m.mc.oB ne
   (fun g' hg'=>by have:=hvv g' hg'; exact ⟨this.1,this.2.1,this.2.2.1⟩) hvs2 hdk (by omega) (fun x hx=>hcd.kind x.k (List.mem_map_of_mem hx)) m.snap fun w4 r c vs4 ls4 hcr p6 p7 p8 p9 ok oc ot os b9' nw4 k4 => ?_
  refine an ?_
  refine ay (sq [0,1,2,3,4,5] .done) ?_
  refine an ?_
  have z23:=k23.size
  have z02:=k02.size
  refine hk w4.drew ka l2.length cap vs4 c ls4 (r.filter fun x=>bI x.k.tr == 21) p6 p7 p8 p9 ok.drew oc ot (FD hdk hcr (by rw [← i2]; exact j2.map KR.k) (m.cd u)) os.drew b9' i3 ((cP.refl w vs).trans nw4 (ai z02 z23)) (fun g' hg' he => ?_) ?_
  ·rcases nw4 g' hg' with h | h
   ·exact (hvs2 g' h).2.2.2 he
   ·have:=(j1.own.lt g' he).2
    omega
  ·refine ((k02.mono fun b x _ h => ?_).tr k23 fun b x _ h => .inl ⟨h.1,h.2⟩).tr k4.drew fun b x hb h => ?_
   ·rcases h with ⟨h1,h2⟩ | h
    ·exact .inr (.inl ⟨h1,.inl h2⟩)
    ·exact .inr (.inr (.inl h))
   ·rcases h with h | ⟨h1,h2⟩ | h | h
    ·exact .inl h
    ·exact .inr (.inl ⟨h1,.inr h2⟩)
    ·rcases i3 b h with h' | h'
     ·exact .inr (.inr (.inl h'))
     ·omega
    ·exact .inr (.inr (.inr h))
set_option maxHeartbeats 1000000 in
theorem nh {vk vs:Value} {lk ls:List KR} {sa ea:Option Addr} {sn sc en ec:Nat} (m:MS d U Bf C Ls snap B) (g:MB d w U 2 Bf 0 Ls pos) (mu:MU w U Bf C snap) (hcmp:w.cell? ⟨Bf,2,none⟩=some (.func (.func 102) #[] #[]))
    (hpos:∀ i,i < Ls.size→0 < Ls[i]!.L.length→pos i+1=cp (Lf Ls) B u i) (rk:KOwn d w Bf 0 vk lk) (rs:KOwn d w Bf 10 vs ls)
    (hvk:∀ g,vk.ownBlock=some g→g≠U∧g≠Bf∧cx d g∧(∀ i,i < Ls.size→g≠Ls[i]!.I)) (hvs:∀ g,vs.ownBlock=some g→g≠U∧g≠Bf∧cx d g∧(∀ i,i < Ls.size→g≠Ls[i]!.I)∧vk.ownBlock≠some g)
    (u3:w.cell? ⟨U,3,none⟩=some (.slice sa sn sc)) (u4:w.cell? ⟨U,4,none⟩=some (.slice ea en ec))
    (hk:∀ w' ka n cap vs' lk' ls' out,w'.cell? ⟨U,6,none⟩=some (.slice sa sn sc)→w'.cell? ⟨U,7,none⟩=some (.slice ea en ec)→w'.cell? ⟨U,8,none⟩=some (.slice ka (out:List KR).length cap)→w'.cell? ⟨U,9,none⟩=some (.int .i8 1) →
     KOwn d w' Bf 0 (.slice ka n cap) lk'→lk'.length=n→lk'.take out.length=out→out.map KR.k=Tf snap (dO Ls.size (Lf Ls) B u)→KOwn d w' Bf 10 vs' ls'→(∃ v,w'.cell? ⟨Bf,9,none⟩=some v)→cP w vk (.slice ka n cap)→cP w vs vs'→(∀ g,vs'.ownBlock=some g→(Value.slice ka n cap).ownBlock≠some g)→Keep (zm U Bf vk vs) w w' →
     k (.tuple #[.bool (mV Ls.size (Lf Ls) B u),.pointer (some ⟨U,6,none⟩)]) w') :
    aX prog 209 #[.pointer (some ⟨U,2,none⟩),.int .i8 (-1)] k w:=by
 have c1:=g.bufs
 have lvs:=g.lvls
 have fU:=g.fU
 have fB:=g.fB
 have hUs:=aD u3
 have hBs:=aD lvs
 have ne:=m.mc.ne
 obtain ⟨a0,cap0,e0,hc0,_⟩:=ao rk.own
 subst e0
 have r0:=rk.hd
 have m11:((-1:Int) == 1)=false:=by decide
 have z0:(0:Int).toNat=0:=rfl
 have zc:(0:Int)≤cap0:=by omega
 refine ae [.tmp 4,.tmp 5] func209 ?_
 refine an ?_
 refine ay (sq [0,1,2] (.read 3 (sq [4,5,6] (.read 7 (sq [8,9] (.read 10 (sq [11,12,13] (.eff 14 [] .done)))))))) ?_
 simp (disch:=first | exact dZ | fail) only [go_sem,c1,r0,qq Tryz.es159,z0,zc,fB,lvs]
 obtain ⟨w1,hw1⟩:∃ w1,w1=(w.setCell ⟨Bf,0,none⟩ (.slice a0 0 cap0)).drew:=⟨_,rfl⟩
 rw [← hw1]
 have k1:Keep (iJ Bf 0 (.slice a0 lk.length cap0)) w w1:=by rw [hw1]; exact ((Keep.refl _ w).set (fun _ => .inl ⟨rfl,rfl⟩)).drew
 have k1':Keep (fun b x=>b=Bf∧x=0) w w1:=by rw [hw1]; exact ((Keep.refl _ w).set (fun _=>⟨rfl,rfl⟩)).drew
 have ro:KOwn d w1 Bf 0 (.slice a0 0 cap0) []:=by
  refine ⟨by rw [hw1]; exact bk @r0,aT (dV rk.own) k1' fun g hg x h=>(hvk g (by rw [b7 a0 lk.length 0]; exact hg)).2.1 h.1,fun x hx=>by simp at hx⟩
 have nw:cP w (.slice a0 lk.length cap0) (.slice a0 0 cap0):=fun g hg => .inl (by rw [b7 a0 lk.length 0]; exact hg)
 refine bR (fun i:Nat=>[(0,.pointer (some ⟨U,2,none⟩)),(1,.int .i8 (-1)),(6,.bool (oh (Lf Ls) B u i)),(42,.int .i64 Ls.size),(43,.int .i64 i)])
  (fun i w'=>∃ v l,KOwn d w' Bf 0 v l∧l.map KR.k=jZ (Lf Ls) B u i∧cP w (.slice a0 lk.length cap0) v∧Keep (iJ Bf 0 (.slice a0 lk.length cap0)) w w'∧i≤Ls.size) (fun i _=>Ls.size - i) 0 (by kernel_rfl) ?_ ⟨_,[],ro,rfl,nw,k1,aP _⟩ ?_
 ·((try simp (disch:=first | exact dZ | fail) only [go_sem,tg]); (try simp only [and_true,true_and,dH,aW,cX,aL]); (try (refine ⟨?_,?_⟩ <;> omega)); (try omega))
 clear ro k1 k1' hw1 w1
 rintro K e i w1 ⟨v,l,i1,i2,i3,i4,i5⟩ hK
 have nrU:∀ x,¬ iJ Bf 0 (.slice a0 lk.length cap0) U x:=by
  rintro x (⟨h,_⟩ | h)
  ·exact ne h.symm
  ·exact (hvk U h).1 rfl
 have nrB:∀ x,x≠0→¬ iJ Bf 0 (.slice a0 lk.length cap0) Bf x:=by
  rintro x hx (⟨_,h⟩ | h)
  ·exact hx h
  ·exact (hvk Bf h).2.1 rfl
 have g1:MB d w1 U 2 Bf 0 Ls pos:=g.keep m.mc i4 (nrU _) (nrB _ (by omega)) (nrU _) (fun x _ _=>nrU x) (by
  rintro i hi x (⟨h,_⟩ | h)
  ·exact m.mc.iB i hi h
  ·exact (hvk _ h).2.2.2 i hi rfl) (by
  rintro x y (⟨rfl,_⟩ | h)
  ·exact m.mc.oB _
  ·exact (hvk _ h).2.2.1 _)
 have c1:=g1.bufs
 have lvs:=g1.lvls
 have fU:=g1.fU
 have fB:=g1.fB
 have n10:=m.mc.n10
 by_cases hi:i < Ls.size
 ·have hi':(i:Int) < Ls.size:=by omega
  have l1:=g1.lv i hi
  have d1:=l1.kd
  obtain ⟨vsp,d3,_,y3⟩:=l1.sp
  have hcle:=jY (L:=Lf Ls) (B:=B) u i
  unfold Lf at hcle
  by_cases hc:cp (Lf Ls) B u i % 2=1
  ·have hlen:0 < Ls[i]!.L.length:=by unfold Lf at hc; omega
   have hp:=hpos i hi hlen
   obtain ⟨c,hcc⟩:∃ c,c=cp (Lf Ls) B u i:=⟨_,rfl⟩
   have hcle:c≤2 * Ls[i]!.L.length:=by rw [hcc]; exact hcle
   rw [← hcc] at hp hc
   have hvl:dY Ls[i]!.L (pos i):=⟨by omega,by omega⟩
   have hkd:dh Ls[i]!.L (pos i)=1:=gA hvl (by omega)
   rw [hkd] at d1
   have e3:=y3 hvl
   subst e3
   rw [show (pos i).toNat / 2=c / 2 by omega] at d3
   obtain ⟨_,_,⟨kv,s1,s2⟩,_⟩:=m.mc.sp i hi (c / 2) (by omega)
   obtain ⟨xs,x1,x2,x3⟩:=pW s2 (m.mc.kn i hi (c / 2) (by omega))
   obtain ⟨kva,kvc,hkv⟩:=s2.form
   subst hkv
   have s1:=g1.inc _ _ _ s1
   have x3:=x3 w1 g1.inc
   have r1:=i1.hd
   obtain ⟨va,vcap,hve,_,_⟩:=ao i1.own
   subst hve
   refine gq @hi' @c1 @lvs @d1 @m11 ?_
   refine ay (sq [0,1,2] (.read 3 (sq [4,5,6] (.read 7 (sq [8,9] (.read 10 (sq [11,12,13] (.read 14 (sq [15,16] (.read 17 (sq [18,19,20,21] (.read 22 (sq [23,24] (.read 25 (.eff 26 [3] (sq [27,28] (.eff 29 [] .done))))))))))))))))) ?_
   simp (disch:=first | exact dZ | fail) only [go_sem,c1,lvs,d3,l9,s1,r1]
   have hvv:∀ g',(Value.slice va l.length vcap).ownBlock=some g'→g'≠U∧g'≠Bf∧cx d g'∧(∀ i,i < Ls.size→g'≠Ls[i]!.I):=fun g' hg'=>by
    rcases i3 g' hg' with h | h
    ·exact hvk g' h
    ·exact ⟨by omega,by omega,g.inc.out h,fun i hi he=>by have:=aD (g.lv i hi).iter.c0; omega⟩
   have hfk:=ji (Lf Ls) B u i
   rw [← hcc,if_pos hc] at hfk
   have hfl:=te Ls.size (Lf Ls) B u (i:=i+1) (by omega)
   have hlm:=m.len u
   have hll:l.length=(jZ (Lf Ls) B u i).length:=by rw [← i2,aS]
   have hsum:l.length+Ls[i]!.L[c / 2]!.ks.length < 100000:=by
    rw [hfk,aJ] at hfl
    unfold Lf at hfl hlm hll
    omega
   rw [yd]
   refine lW (m:=Ls[i]!.L[c / 2]!.ks.length) (news:=flat xs) rw159 i1.own.drew (by rw [gw,← x1,aS]) (by exact x3) (jO x2) (by omega) fun v5 w5 o5 k5 n5 _ => ?_
   obtain ⟨va5,vc5,e5,_,_⟩:=ao o5
   subst e5
   have k5:Keep (fun b _=>(Value.slice va l.length vcap).ownBlock=some b) w1 w5:=(Keep.refl _ w1).drew.trans (k5 _ fun b o hb _=>hb)
   have hUs1:=aD c1
   have hBs1:=aD lvs
   have c1:=k5.some c1 (fun h=>(hvv _ h).1 rfl)
   have lvs:=k5.some lvs (fun h=>(hvv _ h).2.1 rfl)
   have r1:=k5.some r1 (fun h=>(hvv _ h).2.1 rfl)
   have d3:=k5.some d3 (fun h=>(hvv _ h).1 rfl)
   have inc5:cN d w5:=g1.inc.keep k5 fun b o h=>(hvv b h).2.2.1 o
   obtain ⟨_,_,⟨kv',s1',_⟩,_⟩:=m.mc.sp i hi (c / 2) (by omega)
   have s1:=k5.some s1 (fun h=>cN.ne s1' (hvv _ h).2.2.1 (by rfl))
   have fB5:∀ x,w5.frozen? ⟨Bf,x,none⟩=false:=fun x=>by rw [k5.frozen Bf x hBs1]; exact fB x
   simp (disch:=first | exact dZ | fail) only [go_sem,c1,lvs,d3,l9,s1,r1,fB5]
   have hcv:oh (Lf Ls) B u (i+1)=true:=by rw [mY,← hcc,aU hc,Bool.or_true]
   have hxl:xs.length=Ls[i]!.L[c / 2]!.ks.length:=by rw [← x1,aS]
   have n15:cP w1 (.slice va l.length vcap) (.slice va5 (l.length+Ls[i]!.L[c / 2]!.ks.length) vc5):=fun g' hg'=>by
    rcases n5 with h | ⟨g2,h,h',_⟩
    ·exact .inl (by rw [← h]; exact hg')
    ·rw [h] at hg'
     simp only [aL] at hg'
     subst hg'
     exact .inr h'
   refine hK _ _ (i+1) ?_ ⟨.slice va5 (l.length+Ls[i]!.L[c / 2]!.ks.length) vc5,l++xs,⟨?_,?_,?_⟩,?_,i3.trans n15 i4.size,?_,by omega⟩ (by omega)
   ·((try simp (disch:=first | exact dZ | fail) only [go_sem,hcv]); (try simp only [and_true,true_and,dH,aW,cX,aL]); (try (refine ⟨?_,?_⟩ <;> omega)); (try omega))
   ·exact bk @r1
   ·rw [aJ,hxl,gv]
    refine aT o5 (bW (M:=fun b o=>b=Bf∧o=0) ⟨rfl,rfl⟩) fun g' hg' o h => ?_
    rcases n15 g' hg' with h' | h'
    ·exact (hvv g' h').2.1 h.1
    ·have:=h.1; omega
   ·intro y hy
    rcases aV.1 hy with h | h
    ·exact i1.good y h
    ·exact x2 y h
   ·rw [bH,i2,x1,hfk]; rfl
   ·exact (i4.tr k5 fun b o hb h=>i3.m b o hb (.inr h)).set (fun _ => .inl ⟨rfl,rfl⟩)
  ·have hkd:(dh Ls[i]!.L (pos i) == 1)=false:=by
     rw [beq_eq_false_iff_ne]
     unfold dh
     split
     ·rename_i hv
      have hp:=hpos i hi (by unfold dY at hv; omega)
      split <;> omega
     ·omega
   have hcv:oh (Lf Ls) B u (i+1)=oh (Lf Ls) B u i:=by rw [mY,aF hc,Bool.or_false]
   have hfk:=ji (Lf Ls) B u i
   rw [if_neg hc,av] at hfk
   refine pI @hi' @c1 @lvs @d1 @hkd @m11 ?_
   refine hK _ _ (i+1) ?_ ⟨v,l,i1,by rw [i2,hfk],i3,i4,by omega⟩ (by omega)
   ((try simp (disch:=first | exact dZ | fail) only [go_sem,hcv]); (try simp only [and_true,true_and,dH,aW,cX,aL]); (try (refine ⟨?_,?_⟩ <;> omega)); (try omega))
 ·have hi':¬ (i:Int) < Ls.size:=by omega
  obtain rfl:i=Ls.size:=by omega
  have hcv:oh (Lf Ls) B u Ls.size=mV Ls.size (Lf Ls) B u:=rfl
  have hfk:jZ (Lf Ls) B u Ls.size=dO Ls.size (Lf Ls) B u:=rfl
  rw [hfk] at i2
  rw [hcv]
  have hvv:∀ g',v.ownBlock=some g'→g'≠U∧g'≠Bf∧cx d g'∧(∀ i,i < Ls.size→g'≠Ls[i]!.I):=fun g' hg'=>by
   rcases i3 g' hg' with h | h
   ·exact hvk g' h
   ·exact ⟨by omega,by omega,g.inc.out h,fun i hi he=>by have:=aD (g.lv i hi).iter.c0; omega⟩
  have hll:l.length < 100000:=by
   have:=m.len u
   rw [← i2,aS] at this
   exact this
  refine dU @hi' @c1 ?_
  refine mW i1 g1.inc (fun g' hg'=>⟨(hvv g' hg').2.1,(hvv g' hg').2.2.1⟩) (by omega) fun w2 l2 j1 j2 j3 k2 => ?_
  have k02:Keep (iJ Bf 0 (.slice a0 lk.length cap0)) w w2:=i4.tr k2 fun b o hb h=>i3.m b o hb (.inr h)
  obtain ⟨v6,u6⟩:=mu.u6
  obtain ⟨v7,u7⟩:=mu.u7
  obtain ⟨v8,u8⟩:=mu.u8
  obtain ⟨v9,u9⟩:=mu.u9
  have u3:=k02.some u3 (nrU _)
  have u4:=k02.some u4 (nrU _)
  have u6:=k02.some u6 (nrU _)
  have u7:=k02.some u7 (nrU _)
  have u8:=k02.some u8 (nrU _)
  have u9:=k02.some u9 (nrU _)
  have u5:=k02.some mu.u5 (nrU _)
  have u0:=k02.some mu.u0 (nrU _)
  have u1:=k02.some mu.u1 (nrU _)
  have u93:=k02.some mu.u93 (nrU _)
  have u94:=k02.some mu.u94 (nrU _)
  have hcmp:=k02.some hcmp (nrB _ (by omega))
  obtain ⟨b9,c9⟩:=mu.c9
  have c9:=k02.some c9 (nrB _ (by omega))
  have c1:=k02.some g.bufs (nrU _)
  have fU2:∀ x,w2.frozen? ⟨U,x,none⟩=false:=fun x=>by rw [k02.frozen U x hUs]; exact g.fU x
  have fB2:∀ x,w2.frozen? ⟨Bf,x,none⟩=false:=fun x=>by rw [k02.frozen Bf x hBs]; exact g.fB x
  have inc2:cN d w2:=g1.inc.keep k2 fun b o h=>(hvv b h).2.2.1 o
  obtain ⟨ka,cap,hve,_,_⟩:=ao j1.own
  subst hve
  have hl2:l2.length=l.length:=j2.length_eq
  have j1h:=j1.hd
  refine an ?_
  refine ay (sq [0,1,2,3] (.read 4 (sq [5,6,7] (.read 8 (sq [9,10,11] (.read 12 (sq [13,14] (.read 15 (sq [16,17,18] (.eff 19 [] .done)))))))))) ?_
  refine zV @c1 @u3 @u4 @j1h @u6 @u7 @u8 @u9 @fU2 ?_
  refine ay (sq [0,1,2] (.read 3 (sq [4,5,6] (.read 7 (sq [8,9,10] (.read 11 (sq [12,13,14] (.read 15 (sq [16,17,18,19,20] (.eff 21 [] (sq [22] .done))))))))))) ?_
  refine vO @c1 @u5 @hcmp @u6 @u7 @u8 @u9 ?_
  obtain ⟨w3,hw3⟩:∃ w3,w3=(((w2.setCell ⟨U,6,none⟩ (.slice sa sn sc)).setCell ⟨U,7,none⟩ (.slice ea en ec)).setCell ⟨U,8,none⟩ (.slice ka l2.length cap)).setCell ⟨U,9,none⟩ (.int .i8 0):=⟨_,rfl⟩
  rw [← hw3]
  have k23:Keep (fun b x=>b=U∧6≤x∧x≤9) w2 w3.drew.drew:=by
   rw [hw3]
   exact (((((Keep.refl _ w2).set (fun _=>⟨rfl,by omega,by omega⟩)).set (fun _=>⟨rfl,by omega,by omega⟩)).set (fun _=>⟨rfl,by omega,by omega⟩)).set (fun _=>⟨rfl,by omega,by omega⟩)).drew.drew
  have q6:w3.cell? ⟨U,6,none⟩=some (.slice sa sn sc):=by rw [hw3]; exact bk @u6
  have q7:w3.cell? ⟨U,7,none⟩=some (.slice ea en ec):=by rw [hw3]; exact bk @u7
  have q8:w3.cell? ⟨U,8,none⟩=some (.slice ka l2.length cap):=by rw [hw3]; exact bk @u8
  have q9:w3.cell? ⟨U,9,none⟩=some (.int .i8 0):=by rw [hw3]; exact bk @u9
  have hvs2:∀ g',vs.ownBlock=some g'→g'≠U∧g'≠Bf∧cx d g'∧(Value.slice ka l2.length cap).ownBlock≠some g':=fun g' hg'=>by
   obtain ⟨a1,a2,a3,_,a5⟩:=hvs g' hg'
   refine ⟨a1,a2,a3,fun he => ?_⟩
   rcases i3 g' he with h | h
   ·exact a5 h
   ·have:=(rs.own.lt g' hg').2
    omega
  have rs3:KOwn d w3.drew.drew Bf 10 vs ls:=(rs.keep k02 (nrB _ (by omega)) fun g' hg' x h=>by
   rcases h with ⟨h,_⟩ | h
   ·exact (hvs g' hg').2.1 h
   ·exact (hvs g' hg').2.2.2.2 h).keep k23 (fun h=>ne h.1) fun g' hg' x h=>(hvs g' hg').1 h.1
  have rk3:KOwn d w3.drew.drew Bf 0 (.slice ka l2.length cap) l2:=by
   exact j1.keep k23 (fun h=>ne h.1) fun g' hg' x h=>(hvv g' hg').1 h.1
  have hcd:Cd (l2.map KR.k):=by
   have hc:=m.cd u
   rw [← i2] at hc
   have hp:=j2.map KR.k
   exact ⟨(List.Perm.pairwise_iff (by intro x y hxy e e2; exact hxy e.symm e2.symm) hp).2 hc.dist,fun x hx=>hc.kind x (hp.mem_iff.1 hx)⟩
  have hdk:DK l2:=by
   have h2:=hcd.dist
   rw [List.pairwise_map] at h2
   refine (j3.and h2).imp fun {x y} h=>⟨h.1,fun e => ?_⟩
   have:=h.2 e
   have:=h.1
   omega
  refine mz (ls:=ls) (w:=w3.drew.drew) (by exact k23.some u0 (by omega)) (by exact k23.some u1 (by omega)) (by exact k23.some u93 (by omega)) (by exact k23.some u94 (by omega)) m.eq ⟨b9,by exact k23.some c9 (fun h=>ne h.1)⟩ rk3 rs3 ⟨_,q6⟩ ⟨_,q7⟩ (by exact q8) ⟨_,q9⟩
   (fun x=>by rw [k23.frozen U x (aD u3)]; exact fU2 x) (fun x=>by rw [k23.frozen Bf x (aD hcmp)]; exact fB2 x) (inc2.keep k23 fun b x h=>by rw [h.1]; exact m.mc.oU x) m.mc.oU m.mc.oB ne
   (fun g' hg'=>by have:=hvv g' hg'; exact ⟨this.1,this.2.1,this.2.2.1⟩) hvs2 hdk (by omega) (fun x hx=>hcd.kind x.k (List.mem_map_of_mem hx)) m.snap fun w4 r c vs4 ls4 hcr p6 p7 p8 p9 ok oc ot os b9' nw4 k4 => ?_
  refine an ?_
  refine ay (sq [0,1,2,3,4,5] .done) ?_
  refine an ?_
  have z23:=k23.size
  have z02:=k02.size
  refine hk w4.drew ka l2.length cap vs4 c ls4 (r.filter fun x=>bI x.k.tr == 21) p6 p7 p8 p9 ok.drew oc ot (FD hdk hcr (by rw [← i2]; exact j2.map KR.k) (m.cd u)) os.drew b9' i3 ((cP.refl w vs).trans nw4 (ai z02 z23)) (fun g' hg' he => ?_) ?_
  ·rcases nw4 g' hg' with h | h
   ·exact (hvs2 g' h).2.2.2 he
   ·have:=(j1.own.lt g' he).2
    omega
  ·refine ((k02.mono fun b x _ h => ?_).tr k23 fun b x _ h => .inl ⟨h.1,h.2⟩).tr k4.drew fun b x hb h => ?_
   ·rcases h with ⟨h1,h2⟩ | h
    ·exact .inr (.inl ⟨h1,.inl h2⟩)
    ·exact .inr (.inr (.inl h))
   ·rcases h with h | ⟨h1,h2⟩ | h | h
    ·exact .inl h
    ·exact .inr (.inl ⟨h1,.inr h2⟩)
    ·rcases i3 b h with h' | h'
     ·exact .inr (.inr (.inl h'))
     ·omega
    ·exact .inr (.inr (.inr h))
end
end Go.Proofs
end
section
namespace Go.E
open Go Go.Sort Go.Proofs
structure MR (d w:World) (U Bf:Nat) (Ls:Array Lvl) (S:Nat→Prop) (vk vb vs:Value) (lk ls:List KR) (xb:List Value):Prop where
 k:KOwn d w Bf 0 vk lk
 s:KOwn d w Bf 10 vs ls
 bh:w.cell? ⟨Bf,5,none⟩=some vb
 bo:w.ownsRow 0 5 1 vb xb.length xb
 kS:∀ g,vk.ownBlock=some g→S g
 bS:∀ g,vb.ownBlock=some g→S g
 sS:∀ g,vs.ownBlock=some g→S g
 kb:∀ g,vb.ownBlock=some g→vk.ownBlock≠some g
 ks:∀ g,vs.ownBlock=some g→vk.ownBlock≠some g
 bs:∀ g,vs.ownBlock=some g→vb.ownBlock≠some g
 sp:∀ g,S g→g≠U∧g≠Bf∧cx d g∧(∀ i,i < Ls.size→g≠Ls[i]!.I)∧g < w.heap.size
def I5 (U Bf:Nat) (Ls:Array Lvl) (S:Nat→Prop):Nat→Nat→Prop:=fun b x =>
 nj U 2 Bf 0 Ls b x∨b=U∧(3≤x∧x≤4∨6≤x∧x≤11)∨b=Bf∧(x=0∨x=5∨9≤x∧x≤10)∨S b
def SB (d:World) (vb:Value) (xb:List Value) (v:Value) (l:Bytes):Prop:=eN d v l∨v=vb∧xb=gD l
section
variable {d w w2:World} {U Bf C snap:Nat} {Ls:Array Lvl} {B:List Bytes} {S:Nat→Prop} {vk vb vs:Value} {lk ls:List KR} {xb:List Value}
theorem ja {w:World} {v:Value} {l:Bytes} (h:w.ownsRow 0 5 1 v l.length (gD l)):eN w v l:=by
 rcases cR h with ⟨rfl,h0,_⟩ | ⟨g,cap,rfl,_,_⟩
 ·exact ⟨rfl,aZ.1 h0⟩
 ·refine ⟨rfl,rfl,fun i x hx => ?_⟩
  have:=bL h hx
  simpa using this
theorem bQ (l:Bytes):(gD l).length=l.length:=by unfold gD; simp
theorem MR.sb (r:MR d w U Bf Ls S vk vb vs lk ls xb) (hd:cN d w) {v:Value} {l:Bytes} (h:SB d vb xb v l):eN w v l:=by
 rcases h with h | ⟨rfl,rfl⟩
 ·exact h.inc hd
 ·have:=r.bo
  rw [bQ] at this
  exact ja this
theorem MR.keep {M:Nat→Nat→Prop} (r:MR d w U Bf Ls S vk vb vs lk ls xb) (hk:Keep M w w2) (h1:¬ M Bf 0) (h2:¬ M Bf 10) (h3:¬ M Bf 5) (h4:∀ g,S g→∀ x,¬ M g x):MR d w2 U Bf Ls S vk vb vs lk ls xb where
 k:=r.k.keep hk h1 fun g hg x=>h4 g (r.kS g hg) x
 s:=r.s.keep hk h2 fun g hg x=>h4 g (r.sS g hg) x
 bh:=hk.some r.bh h3
 bo:=aT r.bo hk fun g hg x=>h4 g (r.bS g hg) x
 kS:=r.kS
 bS:=r.bS
 sS:=r.sS
 kb:=r.kb
 ks:=r.ks
 bs:=r.bs
 sp g hg:=by
  obtain ⟨a,b,c,e,f⟩:=r.sp g hg
  exact ⟨a,b,c,e,aI f hk.size⟩
theorem MU.keep {M:Nat→Nat→Prop} (g:MU w U Bf C snap) (hk:Keep M w w2) (h1:∀ x,x≤9∨x=93∨x=94→¬ M U x) (h2:¬ M Bf 9) (h3:∃ v,w2.cell? ⟨U,11,none⟩=some v):MU w2 U Bf C snap where
 u0:=hk.some g.u0 (h1 _ (by omega))
 u1:=hk.some g.u1 (h1 _ (by omega))
 u3:=by obtain ⟨a,n,c,h⟩:=g.u3; exact ⟨a,n,c,hk.some h (h1 _ (by omega))⟩
 u4:=by obtain ⟨a,n,c,h⟩:=g.u4; exact ⟨a,n,c,hk.some h (h1 _ (by omega))⟩
 u5:=hk.some g.u5 (h1 _ (by omega))
 u6:=by obtain ⟨v,h⟩:=g.u6; exact ⟨v,hk.some h (h1 _ (by omega))⟩
 u7:=by obtain ⟨v,h⟩:=g.u7; exact ⟨v,hk.some h (h1 _ (by omega))⟩
 u8:=by obtain ⟨v,h⟩:=g.u8; exact ⟨v,hk.some h (h1 _ (by omega))⟩
 u9:=by obtain ⟨v,h⟩:=g.u9; exact ⟨v,hk.some h (h1 _ (by omega))⟩
 u11:=h3
 u93:=hk.some g.u93 (h1 _ (by omega))
 u94:=hk.some g.u94 (h1 _ (by omega))
 c9:=by obtain ⟨v,h⟩:=g.c9; exact ⟨v,hk.some h h2⟩
theorem m7 (c:MC d U Bf Ls) {x:Nat} (h:x < 12∨72≤x):¬ nj U 2 Bf 0 Ls U x:=by
 rintro (⟨_,h1,h2⟩ | ⟨h1,_⟩ | ⟨i,hi,h1,_⟩)
 ·omega
 ·exact c.ne h1.symm
 ·exact c.iU i hi h1.symm
theorem wQ (c:MC d U Bf Ls) {x:Nat} (h:x < 3∨4 < x):¬ nj U 2 Bf 0 Ls Bf x:=by
 rintro (⟨h1,_⟩ | ⟨_,h1,h2⟩ | ⟨i,hi,h1,_⟩)
 ·exact c.ne h1
 ·omega
 ·exact c.iB i hi h1.symm
theorem MR.mv (r:MR d w U Bf Ls S vk vb vs lk ls xb) (c:MC d U Bf Ls) (hk:Keep (nj U 2 Bf 0 Ls) w w2):MR d w2 U Bf Ls S vk vb vs lk ls xb:=by
 refine r.keep hk (wQ c (by omega)) (wQ c (by omega)) (wQ c (by omega)) fun g hg x => ?_
 obtain ⟨a,b,_,e,_⟩:=r.sp g hg
 rintro (⟨h1,_⟩ | ⟨h1,_⟩ | ⟨i,hi,h1,_⟩)
 ·exact a h1
 ·exact b h1
 ·exact e i hi h1
theorem MU.mv (g:MU w U Bf C snap) (c:MC d U Bf Ls) (hk:Keep (nj U 2 Bf 0 Ls) w w2):MU w2 U Bf C snap:=by
 refine g.keep hk (fun x h=>m7 c (by omega)) (wQ c (by omega)) ?_
 obtain ⟨v,h⟩:=g.u11
 exact ⟨v,hk.some h (m7 c (by omega))⟩
def uk (f:Nat→Nat):Nat→Nat
 | 0=>0
 | n+1=>uk f n+f n
theorem ye {f f':Nat→Nat} {n:Nat} (h:∀ i,i < n→f' i=f i):uk f' n=uk f n:=by
 induction n with
 | zero=>rfl
 | succ n ih=>unfold uk; rw [ih (fun i hi=>h i (by omega)),h n (by omega)]
theorem zn {f f':Nat→Nat} {n r:Nat} (hr:r < n) (h1:f' r < f r) (h2:∀ i,i < n→i≠r→f' i=f i):uk f' n < uk f n:=by
 induction n with
 | zero=>omega
 | succ n ih =>
  unfold uk
  by_cases hrn:r=n
  ·subst hrn
   rw [ye (fun i hi=>h2 i (by omega) (by omega))]
   omega
  ·have:=ih (by omega) (fun i hi=>h2 i (by omega))
   rw [h2 n (by omega) (fun e=>hrn e.symm)]
   omega
end
end Go.E
namespace Go.Proofs
open Go Go.E Go.Sort
section
variable {k:au} {d w:World} {U Bf:Nat} {Ls:Array Lvl} {pos:Nat→Int} {rev:Bool} {hp:Array Nat}
theorem om (g:MB d w U 2 Bf 0 Ls pos) (h:MH w U 2 Bf 0 Ls pos rev hp) (h0:0 < hp.size) {v:Value} (hv:w.cell? ⟨U,12+hp[0]! * 4+2,none⟩=some v) (hf:∃ a n c,v = .slice a n c) (hk:k v w):aX Tryz.prog 213 #[.pointer (some ⟨U,2,none⟩)] k w:=by
 obtain ⟨a,n,c,rfl⟩:=hf
 have c1:=g.bufs
 have c2:=h.at_.c2
 have p0:=h.at_.ptr 0 h0
 have z0:(0:Int).toNat=0:=rfl
 have z1:(0:Int)≤0:=by decide
 have z2:(0:Int) < hp.size:=by omega
 refine ae [.tmp 2] Tryz.func213 ?_
 refine zV @c1 @c2 @p0 @hv @z0 @z1 @z2 @Nat.zero_mul @Nat.add_zero ?_
 exact hk
end
end Go.Proofs
end
section
namespace Go.E
open Go Go.Sort Go.Proofs
structure St (d w:World) (U Bf C snap:Nat) (Ls:Array Lvl) (S:Nat→Prop) (pos:Nat→Int) (rev:Bool) (hp:Array Nat) (vk vb vs:Value) (lk ls:List KR) (xb:List Value):Prop where
 g:MB d w U 2 Bf 0 Ls pos
 h:MH w U 2 Bf 0 Ls pos rev hp
 u:MU w U Bf C snap
 r:MR d w U Bf Ls S vk vb vs lk ls xb
structure Lt (w w':World) (U Bf:Nat) (Ls:Array Lvl) (S S':Nat→Prop):Prop where
 s:∀ b,S' b→S b∨w.heap.size≤b
 k:Keep (I5 U Bf Ls S) w w'
 e:w'.cell? ⟨U,11,none⟩=w.cell? ⟨U,11,none⟩
theorem Lt.refl (w:World) (U Bf:Nat) (Ls:Array Lvl) (S:Nat→Prop):Lt w w U Bf Ls S S:=⟨fun _ h => .inl h,Keep.refl _ w,rfl⟩
theorem Lt.trans {w w1 w2:World} {U Bf:Nat} {Ls:Array Lvl} {S S1 S2:Nat→Prop} (h:Lt w w1 U Bf Ls S S1) (h2:Lt w1 w2 U Bf Ls S1 S2):Lt w w2 U Bf Ls S S2 where
 s b hb:=by
  rcases h2.s b hb with h3 | h3
  ·exact h.s b h3
  ·exact .inr (ai h.k.size h3)
 k:=h.k.tr h2.k fun b x hb hm=>by
  rcases hm with hm | hm | hm | hm
  ·exact .inl hm
  ·exact .inr (.inl hm)
  ·exact .inr (.inr (.inl hm))
  ·rcases h.s b hm with h3 | h3
   ·exact .inr (.inr (.inr h3))
   ·omega
 e:=by rw [h2.e,h.e]
theorem Lt.mv {d w w1:World} {U Bf:Nat} {Ls:Array Lvl} {S:Nat→Prop} (c:MC d U Bf Ls) (hk:Keep (nj U 2 Bf 0 Ls) w w1) (hU:U < w.heap.size):Lt w w1 U Bf Ls S S:=⟨fun _ h => .inl h,hk.mono fun b x _ h => .inl h,hk.cell U 11 hU (m7 c (by omega))⟩
def LB (d:World) (S:Nat→Prop) (w:World) (v:Value) (l:Bytes):Prop:=eN d v l∨w.ownsRow 0 5 1 v l.length (gD l)∧∀ g,v.ownBlock=some g→S g
theorem LB.bts {d w:World} {S:Nat→Prop} {v:Value} {l:Bytes} (h:LB d S w v l) (hd:cN d w):eN w v l:=by
 rcases h with h | h
 ·exact h.inc hd
 ·exact ja h.1
theorem LB.keep {d w w2:World} {S:Nat→Prop} {M:Nat→Nat→Prop} {v:Value} {l:Bytes} (h:LB d S w v l) (hk:Keep M w w2) (hm:∀ g,S g→∀ x,¬ M g x):LB d S w2 v l:=by
 rcases h with h | h
 ·exact .inl h
 ·exact .inr ⟨aT h.1 hk fun g hg x=>hm g (h.2 g hg) x,h.2⟩
theorem MR.lb {d w:World} {U Bf:Nat} {Ls:Array Lvl} {S:Nat→Prop} {vk vb vs:Value} {lk ls:List KR} {xb:List Value} (r:MR d w U Bf Ls S vk vb vs lk ls xb) {v:Value} {l:Bytes} (h:SB d vb xb v l):LB d S w v l:=by
 rcases h with h | ⟨rfl,rfl⟩
 ·exact .inl h
 ·have:=r.bo
  rw [bQ] at this
  exact .inr ⟨this,r.bS⟩
def oq (d:World) (S:Nat→Prop) (w:World) (b o:Nat) (x:Sp):Prop :=
 (∃ v,w.cell? ⟨b,o,none⟩=some v∧LB d S w v x.s)∧(∃ v,w.cell? ⟨b,o+1,none⟩=some v∧LB d S w v x.e) ∧
 (∃ (ka:Option Addr) (n cap:Nat) (c out:List KR),w.cell? ⟨b,o+2,none⟩=some (.slice ka out.length cap)∧w.ownsRow 0 256 3 (.slice ka n cap) n (flat c)∧c.length=n∧c.take out.length=out∧(∀ y ∈ c,y.good d)∧out.map KR.k=x.ks∧∀ g,(Value.slice ka n cap).ownBlock=some g→S g) ∧
 w.cell? ⟨b,o+3,none⟩=some (.int .i8 1)
theorem oq.o {d w:World} {S:Nat→Prop} {b o:Nat} {x:Sp} (h:oq d S w b o x) (hd:cN d w):iH 1 w b o x:=by
 obtain ⟨⟨s,s1,s2⟩,⟨e,e1,e2⟩,⟨ka,n,cap,c,out,k1,k2,k3,k4,k5,k6,_⟩,o1⟩:=h
 refine ⟨⟨s,s1,s2.bts hd⟩,⟨e,e1,e2.bts hd⟩,⟨_,k1,?_⟩,o1⟩
 rw [← k6]
 exact lD k2 k3 k4 k5 hd
theorem oq.keep {d w w2:World} {S:Nat→Prop} {M:Nat→Nat→Prop} {b o:Nat} {x:Sp} (h:oq d S w b o x) (hk:Keep M w w2) (hm:∀ g,S g→∀ x,¬ M g x) (hb:∀ y,o≤y→y≤o+3→¬ M b y):oq d S w2 b o x:=by
 obtain ⟨⟨s,s1,s2⟩,⟨e,e1,e2⟩,⟨ka,n,cap,c,out,k1,k2,k3,k4,k5,k6,k7⟩,o1⟩:=h
 exact ⟨⟨s,hk.some s1 (hb _ (by omega) (by omega)),s2.keep hk hm⟩,⟨e,hk.some e1 (hb _ (by omega) (by omega)),e2.keep hk hm⟩,⟨ka,n,cap,c,out,hk.some k1 (hb _ (by omega) (by omega)),aT k2 hk fun g hg x=>hm g (k7 g hg) x,k3,k4,k5,k6,k7⟩,hk.some o1 (hb _ (by omega) (by omega))⟩
section
variable {d w w2:World} {U Bf C snap:Nat} {Ls:Array Lvl} {B:List Bytes} {S:Nat→Prop} {pos:Nat→Int} {rev:Bool} {hp:Array Nat} {vk vb vs:Value} {lk ls:List KR} {xb:List Value}
theorem MH.keep {M:Nat→Nat→Prop} (h:MH w U 2 Bf 0 Ls pos rev hp) (hk:Keep M w w2) (h1:∀ x,2≤x→x≤4→¬ M Bf x) (h2:∀ x,52≤x→x < 72→¬ M U x) (hU:U < w.heap.size):MH w2 U 2 Bf 0 Ls pos rev hp :=
 ⟨h.at_.keep hk (fun x a b=>h1 x a b) (fun x a b=>h2 x a b) hU,h.ok,h.mem,h.nd⟩
theorem St.setU (st:St d w U Bf C snap Ls S pos rev hp vk vb vs lk ls xb) (c:MC d U Bf Ls) {x:Nat} (hx:x=3∨x=4) (v:Value) (hv:∃ a n c,v = .slice a n c):St d (w.setCell ⟨U,x,none⟩ v) U Bf C snap Ls S pos rev hp vk vb vs lk ls xb∧Lt w (w.setCell ⟨U,x,none⟩ v) U Bf Ls S S:=by
 have hk:Keep (fun b y=>b=U∧y=x) w (w.setCell ⟨U,x,none⟩ v):=bW ⟨rfl,rfl⟩
 have hU:=aD st.g.bufs
 have g':=st.g.keep c hk (by omega) (fun h=>c.ne h.1) (by omega) (fun y _ _=>by omega) (fun i hi y h=>c.iU i hi h.1) (fun a y h=>by rw [h.1]; exact c.oU y)
 have f:∀ {y u},y≠x→w.cell? ⟨U,y,none⟩=some u→(w.setCell ⟨U,x,none⟩ v).cell? ⟨U,y,none⟩=some u:=fun hy hu=>hk.some hu fun h=>hy h.2
 have fx:∀ {y},y≠x→(∃ u,w.cell? ⟨U,y,none⟩=some u)→∃ u,(w.setCell ⟨U,x,none⟩ v).cell? ⟨U,y,none⟩=some u:=fun hy ⟨u,hu⟩=>⟨u,f hy hu⟩
 have m:=st.u
 refine ⟨⟨g',st.h.keep hk (fun y _ _ h=>c.ne h.1) (fun y _ _ h=>by omega) hU,?_,st.r.keep hk (fun h=>c.ne h.1) (fun h=>c.ne h.1) (fun h=>c.ne h.1) fun g hg y h=>(st.r.sp g hg).1 h.1⟩,⟨fun _ h => .inl h,hk.mono fun b y _ h => .inr (.inl ⟨h.1,by omega⟩),hk.cell U 11 hU (by omega)⟩⟩
 obtain ⟨b9,c9⟩:=m.c9
 have fs:∀ {y},(∃ a n c,w.cell? ⟨U,y,none⟩=some (.slice a n c))→∃ a n c,(w.setCell ⟨U,x,none⟩ v).cell? ⟨U,y,none⟩=some (.slice a n c):=by
  rintro y ⟨a,n,cc,hu⟩
  by_cases hy:y=x
  ·subst hy
   obtain ⟨a',n',c',rfl⟩:=hv
   exact ⟨a',n',c',by rw [bu,hu]; rfl⟩
  ·exact ⟨a,n,cc,f hy hu⟩
 exact ⟨f (by omega) m.u0,f (by omega) m.u1,fs m.u3,fs m.u4,f (by omega) m.u5,fx (by omega) m.u6,fx (by omega) m.u7,fx (by omega) m.u8,fx (by omega) m.u9,fx (by omega) m.u11,f (by omega) m.u93,f (by omega) m.u94,b9,hk.some c9 fun h=>c.ne h.1⟩
theorem MB.drew' (g:MB d w U 2 Bf 0 Ls pos):MB d w.drew U 2 Bf 0 Ls pos:=g.drew
theorem MR.drew (r:MR d w U Bf Ls S vk vb vs lk ls xb):MR d w.drew U Bf Ls S vk vb vs lk ls xb:=⟨r.k.drew,r.s.drew,r.bh,r.bo.drew,r.kS,r.bS,r.sS,r.kb,r.ks,r.bs,r.sp⟩
theorem MU.drew (m:MU w U Bf C snap):MU w.drew U Bf C snap:=⟨m.u0,m.u1,m.u3,m.u4,m.u5,m.u6,m.u7,m.u8,m.u9,m.u11,m.u93,m.u94,m.c9⟩
theorem St.drew (st:St d w U Bf C snap Ls S pos rev hp vk vb vs lk ls xb):St d w.drew U Bf C snap Ls S pos rev hp vk vb vs lk ls xb:=⟨st.g.drew,st.h.drew,st.u.drew,st.r.drew⟩
theorem Lt.drew {S':Nat→Prop} (h:Lt w w2 U Bf Ls S S'):Lt w w2.drew U Bf Ls S S':=⟨h.s,h.k.drew,h.e⟩
theorem St.buf (st:St d w U Bf C snap Ls S pos rev hp vk vb vs lk ls xb) (c:MC d U Bf Ls) {w5:World} {v5:Value} {x5:List Value} (o5:w5.ownsRow 0 5 1 v5 x5.length x5) (k5:Keep (fun b _=>vb.ownBlock=some b) w w5) (n5:cP w vb v5) :
    St d (w5.setCell ⟨Bf,5,none⟩ v5) U Bf C snap Ls (fun b=>S b∨v5.ownBlock=some b) pos rev hp vk v5 vs lk ls x5∧Lt w (w5.setCell ⟨Bf,5,none⟩ v5) U Bf Ls S (fun b=>S b∨v5.ownBlock=some b):=by
 have hU:=aD st.g.bufs
 have hB:=aD st.g.lvls
 have r:=st.r
 have kk:Keep (fun b x=>b=Bf∧x=5∨vb.ownBlock=some b) w (w5.setCell ⟨Bf,5,none⟩ v5):=(k5.mono fun b x _ h => .inr h).set fun _ => .inl ⟨rfl,rfl⟩
 have nB:∀ x,x≠5→¬ (Bf=Bf∧x=5∨vb.ownBlock=some Bf):=by
  rintro x hx (⟨_,h⟩ | h)
  ·exact hx h
  ·exact (r.sp _ (r.bS _ h)).2.1 rfl
 have nU:∀ x,¬ (U=Bf∧x=5∨vb.ownBlock=some U):=by
  rintro x (⟨h,_⟩ | h)
  ·exact c.ne h.symm
  ·exact (r.sp _ (r.bS _ h)).1 rfl
 have nI:∀ i,i < Ls.size→∀ x,¬ (Ls[i]!.I=Bf∧x=5∨vb.ownBlock=some Ls[i]!.I):=by
  rintro i hi x (⟨h,_⟩ | h)
  ·exact c.iB i hi h
  ·exact (r.sp _ (r.bS _ h)).2.2.2.1 i hi rfl
 have nd:∀ b x,(b=Bf∧x=5∨vb.ownBlock=some b)→d.cell? ⟨b,x,none⟩=none:=by
  rintro b x (⟨rfl,_⟩ | h)
  ·exact c.oB x
  ·exact (r.sp _ (r.bS _ h)).2.2.1 x
 have nk:∀ g,vk.ownBlock=some g→∀ x,¬ (g=Bf∧x=5∨vb.ownBlock=some g):=by
  rintro g hg x (⟨h,_⟩ | h)
  ·exact (r.sp _ (r.kS _ hg)).2.1 h
  ·exact r.kb g h hg
 have ns:∀ g,vs.ownBlock=some g→∀ x,¬ (g=Bf∧x=5∨vb.ownBlock=some g):=by
  rintro g hg x (⟨h,_⟩ | h)
  ·exact (r.sp _ (r.sS _ hg)).2.1 h
  ·exact r.bs g hg h
 have hvB:∀ g,v5.ownBlock=some g→g≠Bf:=fun g hg=>by
  rcases n5 g hg with h | h
  ·exact (r.sp _ (r.bS _ h)).2.1
  ·omega
 obtain ⟨q5,hq5⟩:∃ u,w5.cell? ⟨Bf,5,none⟩=some u:=⟨_,k5.some r.bh fun h=>(r.sp _ (r.bS _ h)).2.1 rfl⟩
 refine ⟨⟨st.g.keep c kk (nU _) (nB _ (by omega)) (nU _) (fun x _ _=>nU x) nI nd,st.h.keep kk (fun x _ _=>nB x (by omega)) (fun x _ _=>nU x) hU,st.u.keep kk (fun x _=>nU x) (nB _ (by omega)) ?_,?_⟩,⟨fun b hb => ?_,kk.mono fun b x _ h => ?_,kk.cell U 11 hU (nU _)⟩⟩
 ·obtain ⟨v,h⟩:=st.u.u11
  exact ⟨v,kk.some h (nU _)⟩
 ·refine ⟨r.k.keep kk (nB _ (by omega)) nk,r.s.keep kk (nB _ (by omega)) ns,by rw [bu,hq5]; rfl,aT o5 (bW (M:=fun b x=>b=Bf∧x=5) ⟨rfl,rfl⟩) fun g hg x h=>hvB g hg h.1,fun g hg => .inl (r.kS g hg),fun g hg => .inr hg,fun g hg => .inl (r.sS g hg),fun g hg hk => ?_,r.ks,fun g hg hb => ?_,fun g hg => ?_⟩
  ·rcases n5 g hg with h | h
   ·exact r.kb g h hk
   ·have:=(r.k.own.lt g hk).2; omega
  ·rcases n5 g hb with h | h
   ·exact r.bs g hg h
   ·have:=(r.s.own.lt g hg).2; omega
  ·rw [World.size_setCell]
   rcases hg with hg | hg
   ·obtain ⟨a1,a2,a3,a4,a5⟩:=r.sp g hg
    exact ⟨a1,a2,a3,a4,aI a5 k5.size⟩
   ·rcases n5 g hg with h | h
    ·obtain ⟨a1,a2,a3,a4,a5⟩:=r.sp _ (r.bS _ h)
     exact ⟨a1,a2,a3,a4,aI a5 k5.size⟩
    ·exact ⟨by omega,by omega,st.g.inc.out h,fun i hi he=>by have:=aD (st.g.lv i hi).iter.c0; omega,(o5.lt g hg).2⟩
 ·rcases hb with hb | hb
  ·exact .inl hb
  ·rcases n5 b hb with h | h
   ·exact .inl (r.bS _ h)
   ·exact .inr h
 ·rcases h with ⟨h1,h2⟩ | h
  ·exact .inr (.inr (.inl ⟨h1,by omega⟩))
  ·exact .inr (.inr (.inr (r.bS _ h)))
theorem St.syn {w':World} {vk' vs':Value} {lk' ls':List KR} (st:St d w U Bf C snap Ls S pos rev hp vk vb vs lk ls xb) (c:MC d U Bf Ls) (ok:KOwn d w' Bf 0 vk' lk') (os:KOwn d w' Bf 10 vs' ls') (nk:cP w vk vk') (ns:cP w vs vs') (dj:∀ g,vs'.ownBlock=some g→vk'.ownBlock≠some g) (kk:Keep (zm U Bf vk vs) w w')
    (e6:∃ v,w'.cell? ⟨U,6,none⟩=some v) (e7:∃ v,w'.cell? ⟨U,7,none⟩=some v) (e8:∃ v,w'.cell? ⟨U,8,none⟩=some v) (e9:∃ v,w'.cell? ⟨U,9,none⟩=some v) (b9:∃ v,w'.cell? ⟨Bf,9,none⟩=some v) :
    St d w' U Bf C snap Ls (fun b=>S b∨vk'.ownBlock=some b∨vs'.ownBlock=some b) pos rev hp vk' vb vs' lk' ls' xb∧Lt w w' U Bf Ls S (fun b=>S b∨vk'.ownBlock=some b∨vs'.ownBlock=some b):=by
 have hU:=aD st.g.bufs
 have hB:=aD st.g.lvls
 have r:=st.r
 have nB:∀ x,x≠0∧x≠9∧x≠10→¬ zm U Bf vk vs Bf x:=by
  rintro x hx (⟨h,_⟩ | ⟨_,h⟩ | h | h)
  ·exact c.ne h
  ·omega
  ·exact (r.sp _ (r.kS _ h)).2.1 rfl
  ·exact (r.sp _ (r.sS _ h)).2.1 rfl
 have nU:∀ x,x < 6∨9 < x→¬ zm U Bf vk vs U x:=by
  rintro x hx (⟨_,h1,h2⟩ | ⟨h,_⟩ | h | h)
  ·omega
  ·exact c.ne h.symm
  ·exact (r.sp _ (r.kS _ h)).1 rfl
  ·exact (r.sp _ (r.sS _ h)).1 rfl
 have nI:∀ i,i < Ls.size→∀ x,¬ zm U Bf vk vs Ls[i]!.I x:=by
  rintro i hi x (⟨h,_⟩ | ⟨h,_⟩ | h | h)
  ·exact c.iU i hi h
  ·exact c.iB i hi h
  ·exact (r.sp _ (r.kS _ h)).2.2.2.1 i hi rfl
  ·exact (r.sp _ (r.sS _ h)).2.2.2.1 i hi rfl
 have nd:∀ b x,zm U Bf vk vs b x→d.cell? ⟨b,x,none⟩=none:=by
  rintro b x (⟨rfl,_⟩ | ⟨rfl,_⟩ | h | h)
  ·exact c.oU x
  ·exact c.oB x
  ·exact (r.sp _ (r.kS _ h)).2.2.1 x
  ·exact (r.sp _ (r.sS _ h)).2.2.1 x
 have nb:∀ g,vb.ownBlock=some g→∀ x,¬ zm U Bf vk vs g x:=by
  rintro g hg x (⟨h,_⟩ | ⟨h,_⟩ | h | h)
  ·exact (r.sp _ (r.bS _ hg)).1 h
  ·exact (r.sp _ (r.bS _ hg)).2.1 h
  ·exact r.kb g hg h
  ·exact r.bs g h hg
 have m:=st.u
 have sp:∀ g,(S g∨vk'.ownBlock=some g∨vs'.ownBlock=some g)→S g∨w.heap.size≤g∧g < w'.heap.size:=by
  rintro g (h | h | h)
  ·exact .inl h
  ·rcases nk g h with h' | h'
   ·exact .inl (r.kS g h')
   ·exact .inr ⟨h',(ok.own.lt g h).2⟩
  ·rcases ns g h with h' | h'
   ·exact .inl (r.sS g h')
   ·exact .inr ⟨h',(os.own.lt g h).2⟩
 have bl:∀ g,vb.ownBlock=some g→g < w.heap.size:=fun g hg=>(r.sp _ (r.bS _ hg)).2.2.2.2
 refine ⟨⟨st.g.keep c kk (nU _ (by omega)) (nB _ (by omega)) (nU _ (by omega)) (fun x h1 _=>nU x (by omega)) nI nd,st.h.keep kk (fun x h1 h2=>nB x (by omega)) (fun x h1 _=>nU x (by omega)) hU,?_,?_⟩,⟨fun b hb => ?_,kk.mono fun b x _ h => ?_,kk.cell U 11 hU (nU _ (by omega))⟩⟩
 ·have f:∀ {y u},y < 6∨9 < y→w.cell? ⟨U,y,none⟩=some u→w'.cell? ⟨U,y,none⟩=some u:=fun hy hu=>kk.some hu (nU _ hy)
  have fx:∀ {y},y < 6∨9 < y→(∃ u,w.cell? ⟨U,y,none⟩=some u)→∃ u,w'.cell? ⟨U,y,none⟩=some u:=fun hy ⟨u,hu⟩=>⟨u,f hy hu⟩
  have fs:∀ {y},y < 6∨9 < y→(∃ a n c,w.cell? ⟨U,y,none⟩=some (.slice a n c))→∃ a n c,w'.cell? ⟨U,y,none⟩=some (.slice a n c):=fun hy ⟨a,n,c,hu⟩=>⟨a,n,c,f hy hu⟩
  exact ⟨f (by omega) m.u0,f (by omega) m.u1,fs (by omega) m.u3,fs (by omega) m.u4,f (by omega) m.u5,e6,e7,e8,e9,fx (by omega) m.u11,f (by omega) m.u93,f (by omega) m.u94,b9⟩
 ·refine ⟨ok,os,kk.some r.bh (nB _ (by omega)),aT r.bo kk nb,fun g hg => .inr (.inl hg),fun g hg => .inl (r.bS g hg),fun g hg => .inr (.inr hg),fun g hg hk => ?_,dj,fun g hg hb => ?_,fun g hg => ?_⟩
  ·rcases nk g hk with h | h
   ·exact r.kb g hg h
   ·have:=bl g hg; omega
  ·rcases ns g hg with h | h
   ·exact r.bs g h hb
   ·have:=bl g hb; omega
  ·rcases sp g hg with h | ⟨h1,h2⟩
   ·obtain ⟨a1,a2,a3,a4,a5⟩:=r.sp g h
    exact ⟨a1,a2,a3,a4,aI a5 kk.size⟩
   ·exact ⟨by omega,by omega,st.g.inc.out h1,fun i hi he=>by have:=aD (st.g.lv i hi).iter.c0; omega,h2⟩
 ·rcases sp b hb with h | ⟨h,_⟩
  ·exact .inl h
  ·exact .inr h
 ·rcases h with ⟨h1,h2,h3⟩ | ⟨h1,h2⟩ | h | h
  ·exact .inr (.inl ⟨h1,by omega⟩)
  ·exact .inr (.inr (.inl ⟨h1,by omega⟩))
  ·exact .inr (.inr (.inr (r.kS _ h)))
  ·exact .inr (.inr (.inr (r.sS _ h)))
theorem St.clr {w':World} {vk':Value} (st:St d w U Bf C snap Ls S pos rev hp vk vb vs lk ls xb) (c:MC d U Bf Ls) (ok:KOwn d w' Bf 0 vk' []) (ek:vk'.ownBlock=vk.ownBlock) (k2:Keep (fun b x=>b=Bf∧x=0∨vk.ownBlock=some b) w w') :
    St d w' U Bf C snap Ls (fun b=>S b∨vk'.ownBlock=some b∨vs.ownBlock=some b) pos rev hp vk' vb vs [] ls xb∧Lt w w' U Bf Ls S (fun b=>S b∨vk'.ownBlock=some b∨vs.ownBlock=some b):=by
 have r:=st.r
 have nU:∀ x,¬ (U=Bf∧x=0∨vk.ownBlock=some U):=by
  rintro x (⟨h,_⟩ | h)
  ·exact c.ne h.symm
  ·exact (r.sp _ (r.kS _ h)).1 rfl
 have nB:∀ x,x≠0→¬ (Bf=Bf∧x=0∨vk.ownBlock=some Bf):=by
  rintro x hx (⟨_,h⟩ | h)
  ·exact hx h
  ·exact (r.sp _ (r.kS _ h)).2.1 rfl
 have fx:∀ {y},(∃ u,w.cell? ⟨U,y,none⟩=some u)→∃ u,w'.cell? ⟨U,y,none⟩=some u:=fun ⟨u,hu⟩=>⟨u,k2.some hu (nU _)⟩
 obtain ⟨b9,c9⟩:=st.u.c9
 refine st.syn c ok (r.s.keep k2 (nB _ (by omega)) fun g hg x h => ?_) (fun g hg => .inl (by rw [← ek]; exact hg)) (cP.refl _ _) (fun g hg hk=>r.ks g hg (by rw [← ek]; exact hk)) (k2.mono fun b x _ h => ?_) (fx st.u.u6) (fx st.u.u7) (fx st.u.u8) (fx st.u.u9) ⟨b9,k2.some c9 (nB _ (by omega))⟩
 ·rcases h with ⟨h,_⟩ | h
  ·exact (r.sp _ (r.sS _ hg)).2.1 h
  ·exact r.ks g hg h
 ·rcases h with ⟨h1,h2⟩ | h
  ·exact .inr (.inl ⟨h1,.inl h2⟩)
  ·exact .inr (.inr (.inl h))
theorem St.mv {pos':Nat→Int} {hp':Array Nat} {rev':Bool} (st:St d w U Bf C snap Ls S pos rev hp vk vb vs lk ls xb) (c:MC d U Bf Ls) (g:MB d w2 U 2 Bf 0 Ls pos') (h:MH w2 U 2 Bf 0 Ls pos' rev' hp') (hk:Keep (nj U 2 Bf 0 Ls) w w2) :
    St d w2 U Bf C snap Ls S pos' rev' hp' vk vb vs lk ls xb∧Lt w w2 U Bf Ls S S:=⟨⟨g,h,st.u.mv c hk,st.r.mv c hk⟩,Lt.mv c hk (aD st.g.bufs)⟩
end
end Go.E
end
