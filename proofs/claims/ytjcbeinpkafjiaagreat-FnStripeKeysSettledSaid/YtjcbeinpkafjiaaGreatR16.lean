/- Parts of the proof: Dj, Dk, De, Dl. -/
import Derived.Test.YtjcbeinpkafjiaaGreatR15
set_option linter.all false
set_option maxRecDepth 10000
section
namespace Go.E
open Go Go.Sort Go.Proofs Go.Proofs.Tryz
structure DSt (d w:World) (Y:DX) (U Bf C:Nat) (rt:TypeId) (rv:Value) (T:Nat→Nat→Prop) (R:World→(Nat→Prop)→Int→Prop) (D S:Nat→Prop) (Q:Nat→Nat→Prop) (vc vk vb:Value) (xs xb:List Value) (cc:Nat) (lk:List KR) (is:Option Addr) (ps q:Int):Prop where
 R:R w S q
 p:DP w Y U Bf C rt rv is ps
 r:DR d w Y U Bf T D S Q vc vk vb xs xb cc lk
def eM (Y:DX) (U Bf:Nat) (T:Nat→Nat→Prop) (D S:Nat→Prop):Nat→Nat→Prop:=fun b x=>T b x∨S b∨dM Y U Bf D b x
structure DLt (w w2:World) (Y:DX) (U Bf:Nat) (T:Nat→Nat→Prop) (D S D2 S2:Nat→Prop):Prop where
 d:∀ b,D2 b→D b∨w.heap.size≤b
 s:∀ b,S2 b→S b∨w.heap.size≤b
 k:Keep (eM Y U Bf T D S) w w2
theorem DLt.refl (w:World) (Y:DX) (U Bf:Nat) (T:Nat→Nat→Prop) (D S:Nat→Prop):DLt w w Y U Bf T D S D S:=⟨fun _ h => .inl h,fun _ h => .inl h,Keep.refl _ w⟩
theorem DLt.trans {w w2 w3:World} {Y:DX} {U Bf:Nat} {T:Nat→Nat→Prop} {D S D2 S2 D3 S3:Nat→Prop} (h:DLt w w2 Y U Bf T D S D2 S2) (h2:DLt w2 w3 Y U Bf T D2 S2 D3 S3):DLt w w3 Y U Bf T D S D3 S3 where
 d b hb:=by
  rcases h2.d b hb with h' | h'
  ·exact h.d b h'
  ·exact .inr (aU h.k.size h')
 s b hb:=by
  rcases h2.s b hb with h' | h'
  ·exact h.s b h'
  ·exact .inr (aU h.k.size h')
 k:=h.k.tr h2.k fun b x hb hm=>by
  rcases hm with hm | hm | hm | hm | hm
  ·exact .inl hm
  ·rcases h.s b hm with h' | h'
   ·exact .inr (.inl h')
   ·omega
  ·exact .inr (.inr (.inl hm))
  ·exact .inr (.inr (.inr (.inl hm)))
  ·rcases h.d b hm with h' | h'
   ·exact .inr (.inr (.inr (.inr h')))
   ·omega
end Go.E
namespace Go.Proofs
open Go Go.E Go.Sort Go.Proofs.Tryz
section
variable {k:aq} {d w:World} {Y:DX} {U Bf C pb po:Nat} {rt:TypeId} {rv:Value} {G:List Sp} {pF pL:Prop} {pK:Bytes→Prop} {T:Nat→Nat→Prop} {R:World→(Nat→Prop)→Int→Prop} {D S:Nat→Prop} {Q:Nat→Nat→Prop} {vc vk vb:Value} {xs xb:List Value} {cc:Nat} {lk:List KR} {is:Option Addr} {ps q:Int} {l:Bytes}
theorem Dz {j m:Nat} (hjm:j≤m) (h:∀ i,j≤i→i < m→fL Y.π G i):G[m]!.ks.map Y.π=G[j]!.ks.map Y.π:=by
 induction m with
 | zero =>
  obtain rfl:j=0:=by omega
  rfl
 | succ m ih =>
  rcases cj hjm with h1 | h1
  ·rw [← (h m (by omega) (by omega)).2.2.2]
   exact ih (by omega) fun i h2 h3=>h i h2 (by omega)
  ·subst h1; rfl
theorem I1 {x:Nat} (p:DP w Y U Bf C rt rv is ps) (hB:Bf < w.heap.size) (hx:Y.a+6≤x) (hx2:x≤Y.a+9) (v:Value):DP (w.setCell ⟨U,x,none⟩ v) Y U Bf C rt rv is ps:=by
 have kk:Keep (fun b y=>b=U∧y=x) w (w.setCell ⟨U,x,none⟩ v):=bR ⟨rfl,rfl⟩
 have s:∀ {y u},y≠x→w.cell? ⟨U,y,none⟩=some u→(w.setCell ⟨U,x,none⟩ v).cell? ⟨U,y,none⟩=some u:=fun hy hv=>kk.some hv fun h=>hy h.2
 obtain ⟨c,f,e,e2⟩:=p.d92
 exact ⟨s (by omega) p.d81,s (by omega) p.d82,s (by omega) p.d83,s (by omega) p.d84,s (by omega) p.d85,s (by omega) p.d86,eQ p.d87,eQ p.d88,eQ p.d89,eQ p.d90,s (by omega) p.d91,⟨c,f,s (by omega) e,e2⟩,fun y=>by rw [kk.frozen U y (aE p.d81)]; exact p.fU y,fun y=>by rw [kk.frozen Bf y hB]; exact p.fB y⟩
def iq (pb po:Nat) (G:List Sp) (q:Int):Option Addr:=if 0≤q∧q < G.length then some ⟨pb,po,none⟩ else none
set_option maxHeartbeats 4000000 in
theorem qn {j:Nat} (dc:DC d Y U Bf C pb po rt rv G pF pL pK T R) (st:DSt d w Y U Bf C rt rv T R D S Q vc vk vb xs xb cc lk (some ⟨pb,po,none⟩) ps q) (hq:q=j) (hj:j < G.length)
    (hk:∀ w2 D2 S2 Q2 vc2 vk2 vb2 xs2 xb2 cc2 lk2 is2 ps2 q2,DSt d w2 Y U Bf C rt rv T R D2 S2 Q2 vc2 vk2 vb2 xs2 xb2 cc2 lk2 is2 ps2 q2→DLt w w2 Y U Bf T D S D2 S2 →
     (G[j]!.ks=[]→q2=j→is2=some ⟨pb,po,none⟩→ps2=0→k (.pointer (some ⟨pb,po,none⟩)) w2) ∧
     (∀ b:Nat,G[j]!.ks≠[]→j≤b→b < G.length→(∀ i,j≤i→i < b→fL Y.π G i)→¬ fL Y.π G b→q2=b+1→is2=iq pb po G (b+1)→ps2=1→dK Y.ord w2 U (Y.a+6) ⟨G[j]!.s,G[b]!.e,G[j]!.ks⟩→k (.pointer (some ⟨U,Y.a+6,none⟩)) w2)) :
    aX prog 250 #[.pointer (some ⟨U,Y.a,none⟩)] k w:=by
 have ne:=dc.ne
 obtain ⟨hR,p,r⟩:=st
 subst hq
 have q81:=p.d81
 have q85:=p.d85
 have hB:=aE r.ch
 have fU:=p.fU
 obtain ⟨_,_,⟨kv,k1,k2⟩,_⟩:=(dc.f.cur hR rfl hj).o (dc.f.inc hR)
 obtain ⟨kva,kvc,rfl⟩:=k2.form
 refine ai [.tmp 2] func250 ?_
 refine dV @q81 @q85 ?_
 refine mg k1 ?_
 by_cases h0:G[j]!.ks.length=0
 ·rw [aO h0]
  have q86:=p.d86
  refine fW @q81 @q85 @q86 @fU ?_
  obtain ⟨hR2,r2,kk⟩:=dc.own hR r (x:=Y.a+5) (by omega) (by omega) (.int .i8 0)
  exact (hk _ D S Q _ _ _ _ _ _ _ _ 0 _ ⟨hR2,p.set86 hB 0,r2⟩ ⟨fun _ h => .inl h,fun _ h => .inl h,kk.mono fun b x _ h => .inr (.inr (.inl ⟨h.1,by omega,by omega⟩))⟩).1 (ao.1 h0) rfl rfl rfl
 ·rw [aF h0]
  have hks:G[j]!.ks≠[]:=fun h=>h0 (by rw [h]; rfl)
  refine al ?_
  refine lO dc hR rfl hj p r fun w2 vc2 vk2 vb2 xs2 xb2 cc2 lk2 D2 Q2 sv ev hR2 p2 r2 q87 pcs q88 pce q89 q90 m2 pk2 hD2 k02 => ?_
  have cu2:Cu w2 Y U Q2 vk2 vb2 xb2 lk2 G[j]!.s G[j]!.e G[j]!.ks:=⟨⟨_,q87,.inl pcs⟩,⟨_,q88,.inl pce⟩,q89,q90,m2,pk2⟩
  have l2:DLt w w2 Y U Bf T D S D2 S:=⟨hD2,fun _ h => .inl h,k02.mono fun b x _ h => .inr (.inr h)⟩
  have hB2:=aE r2.ch
  have q86:=p2.d86
  have fU2:=p2.fU
  have q84:=p2.d84
  refine eI @q86 @fU2 @q84 ?_
  obtain ⟨hR3,r3,k23⟩:=dc.own hR2 r2 (x:=Y.a+5) (by omega) (by omega) (.int .i8 1)
  have p3:=p2.set86 hB2 1
  have cu3:=cu2.keep k23 (fun b x hq _ h=>(r2.dD b (r2.qD b x hq)).2.1 h.1) fun x _ _ h=>by omega
  have l3:DLt w (w2.setCell ⟨U,Y.a+5,none⟩ (.int .i8 1)) Y U Bf T D S D2 S:=l2.trans ⟨fun _ h => .inl h,fun _ h => .inl h,k23.mono fun b x _ h => .inr (.inr (.inl ⟨h.1,by omega,by omega⟩))⟩
  refine dc.f.next hR3 (by omega) (by omega) fun w4 S4 hR4 hS4 k34 => ?_
  obtain ⟨p4,r4,cuf⟩:=dc.below hR3 p3 r3 k34 hS4
  have cu4:=cuf cu3
  have l4:=l3.trans ⟨fun _ h => .inl h,hS4,k34.mono fun b x _ h=>h.elim .inl fun h => .inr (.inl h)⟩
  rw [show iP pb po G ((j:Int)+1) = .pointer (iq pb po G (j+1)) from dR ..]
  have q85:=p4.d85
  have fU4:=p4.fU
  refine dV @q85 @fU4 ?_
  obtain ⟨hR5,r5,k45⟩:=dc.own hR4 r4 (x:=Y.a+4) (by omega) (by omega) (.pointer (iq pb po G (j+1)))
  have p5:=p4.set85 (aE r4.ch) (iq pb po G (j+1))
  have cu5:=cu4.keep k45 (fun b x hq _ h=>(r4.dD b (r4.qD b x hq)).2.1 h.1) fun x _ _ h=>by omega
  have l5:=l4.trans ⟨fun _ h => .inl h,fun _ h => .inl h,k45.mono fun b x _ h => .inr (.inr (.inl ⟨h.1,by omega,by omega⟩))⟩
  refine gm (fun _:Nat=>[(0,.pointer (some ⟨U,Y.a,none⟩))]) (fun m w'=>(∃ D' S' Q' vc' vk' vb' xs' xb' cc' lk',DSt d w' Y U Bf C rt rv T R D' S' Q' vc' vk' vb' xs' xb' cc' lk' (iq pb po G (m+1)) 1 (m+1)∧DLt w w' Y U Bf T D S D' S'∧Cu w' Y U Q' vk' vb' xb' lk' G[j]!.s G[m]!.e G[j]!.ks∧∃ v,w'.cell? ⟨U,Y.a+6,none⟩=some v∧Pc w' Q' v G[j]!.s)∧j≤m∧m < G.length∧(∀ i,j≤i→i < m→fL Y.π G i)∧¬ fL Y.π G m) (by kernel_rfl) (fun K hK => ?_) ?_
  ·refine bO (fun _:Nat=>[(0,.pointer (some ⟨U,Y.a,none⟩))]) (fun m w'=>(∃ D' S' Q' vc' vk' vb' xs' xb' cc' lk',DSt d w' Y U Bf C rt rv T R D' S' Q' vc' vk' vb' xs' xb' cc' lk' (iq pb po G (m+1)) 1 (m+1)∧DLt w w' Y U Bf T D S D' S'∧Cu w' Y U Q' vk' vb' xb' lk' G[j]!.s G[m]!.e G[j]!.ks∧∃ v,w'.cell? ⟨U,Y.a+6,none⟩=some v∧Pc w' Q' v G[j]!.s)∧j≤m∧m < G.length∧(∀ i,j≤i→i < m→fL Y.π G i)) (fun m _=>G.length - m) j (by kernel_rfl) ?_
     ⟨⟨D2,S4,Q2,vc2,vk2,vb2,xs2,xb2,cc2,lk2,⟨hR5,p5,r5⟩,l5,cu5,sv,k45.some (k34.some (k23.some q87 (by omega)) fun h=>h.elim (dc.t (Y.a+6) (by omega) (by omega)) (dc.s hR3).1) (by omega),((pcs.keep k23 fun b x hq _ h=>(r2.dD b (r2.qD b x hq)).2.1 h.1).keep k34 fun b x hq _ h=>h.elim ((r3.dD b (r3.qD b x hq)).2.2.2.2.1 x) (r3.dD b (r3.qD b x hq)).2.2.2.1).keep k45 fun b x hq _ h=>(r4.dD b (r4.qD b x hq)).2.1 h.1⟩,aD _,hj,fun i h1 h2=>by omega⟩ ?_
   ·exact bE
   clear hR3 r3 p3 cu3 l3 hR4 p4 r4 cu4 l4 hR5 r5 p5 cu5 l5 q81 q84 q85 q86
   rintro K2 e m w6 ⟨⟨D6,S6,Q6,vc6,vk6,vb6,xs6,xb6,cc6,lk6,⟨hR6,p6,r6⟩,l6,cu6,v87,h87,pc87⟩,hjm,hmN,hjn⟩ hK2
   have q81:=p6.d81
   have q83:=p6.d83
   have q85:=p6.d85
   by_cases hm:m+1 < G.length
   ·have his:iq pb po G ((m:Int)+1)=some ⟨pb,po,none⟩:=if_pos ⟨by omega,by omega⟩
    rw [his] at q85 p6
    have hspn:=dc.f.cur hR6 (show (m:Int)+1=((m+1:Nat):Int) by omega) hm
    have hso:=hspn.o (dc.f.inc hR6)
    have hsc:=cu6.span r6
    obtain ⟨⟨sv6,s1,s2⟩,⟨ev6,e1,e2⟩,⟨kv6,k1,k2⟩,o6⟩:=hso
    obtain ⟨⟨cs,cs1,cs2⟩,⟨ce,ce1,ce2⟩,⟨ck,ck1,ck2⟩,co6⟩:=hsc
    obtain ⟨sa,sc,rfl⟩:=bI s2
    obtain ⟨ea,ec,rfl⟩:=bI e2
    obtain ⟨cea,cec,rfl⟩:=bI ce2
    simp (disch:=first | exact dZ | fail) only [go_sem,q85,Option.isSome_some]
    refine ay (sq [0,1,2] (.read 3 (sq [4,5,6,7] (.read 8 (sq [9,10,11] (.read 12 (sq [13,14] (.read 15 (.eff 16 [] (sq [17] .done)))))))))) ?_
    refine gH @q81 @q83 @q85 @s1 @ce1 ?_
    refine ga (by exact ce2) (by exact s2) ?_
    by_cases hes:G[m]!.e=G[m+1]!.s
    ·rw [aO hes]
     refine al ?_
     refine ay (sq [0,1,2,3] (.read 4 (sq [5,6,7] (.eff 8 [] (sq [9] .done))))) ?_
     refine bf @q85 ?_
     have hmd:G[m]!.ks.map Y.π=G[j]!.ks.map Y.π:=Dz hjm hjn
     have hmne:G[m]!.ks≠[]:=fun h=>by rw [h] at hmd; exact hks (by simpa using hmd.symm)
     refine mE (w:=w6.drew.drew) p6.drew.drew (x:=G[m+1]!) (y:=⟨G[j]!.s,G[m]!.e,G[j]!.ks⟩) (by exact (hspn.o (dc.f.inc hR6))) (by exact (cu6.span r6)) (fun h hq=>DC.meq dc hR6 (hspn.o (dc.f.inc hR6)) (cu6.span r6) (dc.len (m+1) hm).2.2.1 h hq) fun w7 x7 => ?_
     have x7:bY w6 w7:=(bY.refl w6).drew'.drew'.trans x7
     have hR7:R w7 S6 ((m:Int)+1):=dc.f.keep hR6 x7 fun _ _ _ h=>h.elim
     have p7:=p6.keep (aE r6.ch) x7 fun _ _ _ h=>h
     have r7:=r6.keep x7 (fun _ _ _ h=>h) fun _ _ _ h=>h
     have cu7:=cu6.keep x7 (fun _ _ _ _ h=>h) fun _ _ _ h=>h
     have pc87:=pc87.keep x7 fun _ _ _ _ h=>h
     have h87:=x7.cell h87
     have l7:DLt w w7 Y U Bf T D S D6 S6:=l6.trans ⟨fun _ h => .inl h,fun _ h => .inl h,x7.keep⟩
     by_cases hjo:G[m+1]!.ks≠[]∧G[m+1]!.ks.map Y.π=G[j]!.ks.map Y.π
     ·rw [aO hjo]
      have hjm1:fL Y.π G m:=⟨hm,hes,hmne,by rw [hmd,hjo.2]⟩
      have q81:=p7.d81
      have q85:=p7.d85
      have b8:=r7.bh
      have fB7:=p7.fB
      have e1:=x7.cell e1
      have e2:=e2.keep x7 fun _ _ _ _ _ _ h=>h
      obtain ⟨ba,bc,eb,hbc,_⟩:=bZ r7.bo
      subst eb
      have z0:(0:Int).toNat=0:=rfl
      have zb:(0:Int)≤bc:=by omega
      have hU7:=aE q81
      have hB7:=aE b8
      have hel:=(dc.len (m+1) hm).2.1
      refine al ?_
      refine ay (sq [0,1,2] (.read 3 (sq [4,5,6] (.read 7 (sq [8,9] (.read 10 (sq [11,12,13,14] (.read 15 (sq [16,17] (.read 18 (.eff 19 [3] (sq [20,21] (.eff 22 [] .done))))))))))))) ?_
      simp (disch:=first | exact dZ | fail) only [go_sem,q81,q85,b8,e1,sD Tryz.es107,z0,zb]
      simp only [pe]
      refine rB (m:=G[m+1]!.e.length) (news:=iI G[m+1]!.e) rw107 (fX r7.bo).drew (by rw [br,Nat.mul_one]) (gg (by exact e2)) (gh _) (by omega) fun v8 w8 o8 k8 n8 _ => ?_
      obtain ⟨a8,cap8,e8',_,_⟩:=bZ o8
      subst e8'
      have k8:Keep (fun b _=>(Value.slice ba xb6.length bc).ownBlock=some b) w7 w8:=(Keep.refl _ w7).drew.trans (k8 _ fun b o hb _=>by rw [cI ba xb6.length 0]; exact hb)
      have n78:cZ w7 (.slice ba xb6.length bc) (.slice a8 (0+G[m+1]!.e.length) cap8):=fun g' hg'=>by
       rcases n8 with h | ⟨g2,h,h',_⟩
       ·exact .inl (by rw [← hg',h]; exact cI _ _ _ _)
       ·rw [h] at hg'
        simp only [aK] at hg'
        subst hg'
        exact .inr h'
      rw [List.nil_append,Nat.zero_add,← br] at o8
      rw [Nat.zero_add,← br] at n78
      have nb:∀ (b _x:Nat),(Value.slice ba xb6.length bc).ownBlock=some b→b≠U∧b≠Bf:=fun b x h=>⟨(r7.dD b (r7.bD b h)).2.1,(r7.dD b (r7.bD b h)).2.2.1⟩
      obtain ⟨r9,k79⟩:=r7.bset o8 k8 n78 hU7 (dc.f.inc hR7) (fun g hg=>(dc.f.outS hR7 g hg).2) (fun b x h=>dc.tl hR7 h)
      have q81':=k8.some q81 fun h=>(nb _ 0 h).1 rfl
      have b8':=k8.some b8 fun h=>(nb _ 0 h).2 rfl
      have fB8:∀ x,w8.frozen? ⟨Bf,x,none⟩=false:=fun x=>by rw [k8.frozen Bf x hB7]; exact fB7 x
      have fU8:∀ x,w8.frozen? ⟨U,x,none⟩=false:=fun x=>by rw [k8.frozen U x hU7]; exact p7.fU x
      obtain ⟨v88,h88,_⟩:=cu7.c88
      have h88':=k8.some h88 fun h=>(nb _ 0 h).1 rfl
      rw [Nat.zero_add,← br]
      refine gH @q81' @b8' @fB8 @fU8 @h88' ?_
      obtain ⟨w9,hw9⟩:∃ w9,w9=w8.setCell ⟨Bf,Y.e+2,none⟩ (.slice a8 (iI G[m+1]!.e).length cap8):=⟨_,rfl⟩
      rw [← hw9] at r9 k79 ⊢
      have sp7:∀ {b x},((b=Bf∧x=Y.e+2∨(Value.slice ba xb6.length bc).ownBlock=some b)∧¬ Q6 b x)→dM Y U Bf D6 b x:=by
       rintro b x ⟨⟨h1,h2⟩ | h,_⟩
       ·exact .inr (.inl ⟨h1,by omega,by omega⟩)
       ·exact .inr (.inr (r7.bD b h))
      have hR9:R w9 S6 ((m:Int)+1):=dc.f.keep hR7 k79 fun b x _ h=>dc.safe hR7 r7.dD' b x (sp7 h)
      have nU9:∀ x,¬ ((U=Bf∧x=Y.e+2∨(Value.slice ba xb6.length bc).ownBlock=some U)∧¬ Q6 U x):=by
       rintro x ⟨⟨h,_⟩ | h,_⟩
       ·exact dc.ne h.symm
       ·exact (nb U 0 h).1 rfl
      have p9:=p7.keep hB7 k79 fun x _ _=>nU9 x
      have pcs9:=pc87.keep k79 fun b x hq _ hh=>hh.2 hq
      have h879:=k79.some h87 (nU9 _)
      have h889:=k79.some h88 (nU9 _)
      have h899:=k79.some cu7.c89 (nU9 _)
      have h909:=k79.some cu7.c90 (nU9 _)
      have pk9:∀ x ∈ lk6,PK w9 Q6 x:=fun x hx=>PK.keep (cu7.pk x hx) k79 fun b x hq _ hh=>hh.2 hq
      obtain ⟨hR10,r10,k910⟩:=dc.own hR9 r9 (x:=Y.a+7) (by omega) (by omega) (.slice a8 (iI G[m+1]!.e).length cap8)
      obtain ⟨w10,hw10⟩:∃ w10,w10=w9.setCell ⟨U,Y.a+7,none⟩ (.slice a8 (iI G[m+1]!.e).length cap8):=⟨_,rfl⟩
      have p10:DP w10 Y U Bf C rt rv (some ⟨pb,po,none⟩) 1:=by rw [hw10]; exact I1 p9 (aE r9.ch) (by omega) (by omega) _
      rw [← hw10] at hR10 r10 k910 ⊢
      have cu10:Cu w10 Y U Q6 vk6 (.slice a8 (iI G[m+1]!.e).length cap8) (iI G[m+1]!.e) lk6 G[j]!.s G[m+1]!.e G[j]!.ks:=by
       refine ⟨⟨v87,k910.some h879 (by omega),.inl (pcs9.keep k910 fun b x hq _ h=>(r9.dD b (r9.qD b x hq)).2.1 h.1)⟩,⟨_,?_,.inr ⟨rfl,rfl⟩⟩,k910.some h899 (by omega),k910.some h909 (by omega),cu7.km,fun x hx=>PK.keep (pk9 x hx) k910 fun b x hq _ h=>(r9.dD b (r9.qD b x hq)).2.1 h.1⟩
       rw [hw10,cC,h889]; rfl
      have pcs10:=pcs9.keep k910 fun b x hq _ h=>(r9.dD b (r9.qD b x hq)).2.1 h.1
      have h8710:=k910.some h879 (by omega)
      have l10:=(l7.trans (⟨fun b h => ?_,fun _ h => .inl h,k79.mono fun b x _ h => .inr (.inr (sp7 h))⟩:DLt w7 w9 Y U Bf T D6 S6 (fun b=>D6 b∨(Value.slice a8 (iI G[m+1]!.e).length cap8).ownBlock=some b) S6)).trans (⟨fun _ h => .inl h,fun _ h => .inl h,k910.mono fun b x _ h => .inr (.inr (.inl ⟨h.1,by omega,by omega⟩))⟩:DLt w9 w10 Y U Bf T _ S6 (fun b=>D6 b∨(Value.slice a8 (iI G[m+1]!.e).length cap8).ownBlock=some b) S6)
      rotate_left 1
      ·rcases h with h | h
       ·exact .inl h
       ·rcases n78 b h with h | h
        ·exact .inl (r7.bD b h)
        ·exact .inr h
      have q81:=p10.d81
      have q85:=p10.d85
      obtain ⟨rc,rf,q92,rfl,rfl⟩:=p10.d92
      have c7:=r10.kh
      obtain ⟨vka,vkc,e5,_,_⟩:=bZ r10.ko
      rw [e5] at c7
      have fB10:=p10.fB
      obtain ⟨_,_,⟨kv10,kk1,kk2⟩,_⟩:=(dc.f.cur hR10 (show (m:Int)+1=((m+1:Nat):Int) by omega) hm).o (dc.f.inc hR10)
      obtain ⟨kk3,kk4,rfl⟩:=kk2.form
      refine ay (sq [0,1,2] (.read 3 (sq [4,5,6] (.read 7 (sq [8,9,10] (.read 11 (sq [12,13] (.read 14 (sq [15,16,17] (.read 18 (sq [19,20] (.read 21 (.eff 22 [3] (sq [23,24] (.eff 25 [] .done))))))))))))))) ?_
      refine gH @q81 @q85 @q92 @c7 @kk1 ?_
      refine qm ?_
      have q84:=p10.d84
      have hU10:=aE q81
      have hB10:=aE c7
      have d10:∀ {x v},w10.cell? ⟨U,x,none⟩=some v→(w10.setCell ⟨Bf,Y.e+1,none⟩ (.slice vka lk6.length vkc)).drew.cell? ⟨U,x,none⟩=some v:=fun h=>by rw [eR c7]; exact h
      refine vR @q81 @q85 @q92 @c7 @kk1 @fB10 @q84 ?_
      rw [eR c7]
      have hR11:R w10.drew S6 ((m:Int)+1):=dc.f.keep hR10 (M:=fun _ _=>False) (bY.refl w10).drew' fun _ _ _ h=>h.elim
      refine dc.f.next hR11 (by omega) (by omega) fun w12 S12 hR12 hS12 k12 => ?_
      obtain ⟨p12,r12,cuf12⟩:=dc.below hR11 p10.drew r10.drew k12 hS12
      have cu12:=cuf12 (cu10.keep (M:=fun _ _=>False) (bY.refl w10).drew' (fun _ _ _ _ h=>h) fun _ _ _ h=>h)
      have k12':Keep (fun b x=>T b x∨S6 b) w10 w12:=(Keep.refl _ w10).drew.trans k12
      have hS12':∀ b,S12 b→S6 b∨w10.heap.size≤b:=hS12
      have l12:=l10.trans ⟨fun _ h => .inl h,hS12',k12'.mono fun b x _ h=>h.elim .inl fun h => .inr (.inl h)⟩
      have pcs12:=pcs10.keep k12' fun b x hq _ h=>h.elim ((r10.dD b (r10.qD b x hq)).2.2.2.2.1 x) (r10.dD b (r10.qD b x hq)).2.2.2.1
      have h8712:=k12'.some h8710 fun h=>h.elim (dc.t (Y.a+6) (by omega) (by omega)) (dc.s hR10).1
      rw [show iP pb po G ((m:Int)+1+1) = .pointer (iq pb po G (m+1+1)) from dR ..]
      have q85:=p12.d85
      have fU12:=p12.fU
      refine dV @q85 @fU12 ?_
      obtain ⟨hR13,r13,k1213⟩:=dc.own hR12 r12 (x:=Y.a+4) (by omega) (by omega) (.pointer (iq pb po G ((m:Int)+1+1)))
      have p13:=p12.set85 (aE r12.ch) (iq pb po G ((m:Int)+1+1))
      have cu13:=cu12.keep k1213 (fun b x hq _ h=>(r12.dD b (r12.qD b x hq)).2.1 h.1) fun x _ _ h=>by omega
      have l13:=l12.trans ⟨fun _ h => .inl h,fun _ h => .inl h,k1213.mono fun b x _ h => .inr (.inr (.inl ⟨h.1,by omega,by omega⟩))⟩
      refine hK2 _ _ (m+1) ?_ ⟨⟨_,S12,Q6,vc6,vk6,_,xs6,_,cc6,lk6,⟨by exact_mod_cast hR13,by exact_mod_cast p13,r13⟩,l13,cu13,v87,k1213.some h8712 (by omega),pcs12.keep k1213 fun b x hq _ h=>(r12.dD b (r12.qD b x hq)).2.1 h.1⟩,by omega,hm,fun i h1 h2 => ?_⟩ (by omega)
      ·exact bE
      ·rcases cj (show i≤m by omega) with h | h
       ·exact hjn i h1 h
       ·subst h; exact hjm1
     ·rw [aF hjo]
      refine al ?_
      refine hK _ _ m ?_ ⟨⟨D6,S6,Q6,vc6,vk6,vb6,xs6,xb6,cc6,lk6,⟨hR7,by rw [his]; exact p7,r7⟩,l7,cu7,v87,h87,pc87⟩,hjm,hmN,hjn,fun h=>hjo ⟨fun hn => ?_,?_⟩⟩
      ·exact bE
      ·have:=h.2.2.2
       rw [hn] at this
       exact h.2.2.1 (by simpa using this)
      ·rw [← h.2.2.2,hmd]
    ·rw [aF hes]
     refine al ?_
     refine hK _ _ m ?_ ⟨⟨D6,S6,Q6,vc6,vk6,vb6,xs6,xb6,cc6,lk6,⟨dc.f.keep hR6 (M:=fun _ _=>False) (Keep.refl _ w6).drew fun _ _ _ h=>h.elim,by rw [his]; exact p6.drew,r6.drew⟩,⟨l6.d,l6.s,l6.k.drew⟩,cu6.keep (M:=fun _ _=>False) (Keep.refl _ w6).drew (fun _ _ _ _ h=>h) fun _ _ _ h=>h,v87,h87,pc87.keep (M:=fun _ _=>False) (Keep.refl _ w6).drew fun _ _ _ _ h=>h⟩,hjm,hmN,hjn,fun h=>hes h.2.1⟩
     exact bE
   ·have his:iq pb po G ((m:Int)+1)=none:=if_neg (by omega)
    rw [his] at q85
    simp (disch:=first | exact dZ | fail) only [go_sem,q85,Option.isSome_none]
    refine hK _ _ m ?_ ⟨⟨D6,S6,Q6,vc6,vk6,vb6,xs6,xb6,cc6,lk6,⟨hR6,p6,r6⟩,l6,cu6,v87,h87,pc87⟩,hjm,hmN,hjn,fun h=>hm h.1⟩
    exact bE
  ·rintro e m w6 ⟨⟨D6,S6,Q6,vc6,vk6,vb6,xs6,xb6,cc6,lk6,⟨hR6,p6,r6⟩,l6,cu6,_⟩,hjm,hmN,hjn,hnj⟩
   have q84:=p6.d84
   refine bf @q84 ?_
   refine dc.f.error hR6 fun w7 hR7 x7 => ?_
   have p7:=p6.keep (aE r6.ch) x7 fun _ _ _ h=>h
   have r7:=r6.keep x7 (fun _ _ _ h=>h) fun _ _ _ h=>h
   have cu7:=cu6.keep x7 (fun _ _ _ _ h=>h) fun _ _ _ h=>h
   have q81:=p7.d81
   have c7:=r7.kh
   have h89:=cu7.c89
   have fU7:=p7.fU
   obtain ⟨vka,vkc,e5,_,_⟩:=bZ r7.ko
   rw [e5] at c7 h89
   refine fW @q81 @c7 @h89 @fU7 ?_
   rw [eR h89]
   have l7:DLt w w7 Y U Bf T D S D6 S6:=l6.trans ⟨fun _ h => .inl h,fun _ h => .inl h,x7.keep⟩
   exact (hk w7 D6 S6 Q6 vc6 vk6 vb6 xs6 xb6 cc6 lk6 _ _ _ ⟨hR7,p7,r7⟩ l7).2 m hks hjm hmN hjn hnj rfl rfl rfl (cu7.span r7)
end
end Go.Proofs
end
section
namespace Go.Proofs
open Go Go.E Go.Sort Go.Proofs.Tryz
section
variable {k:aq} {d w:World} {Y:DX} {U Bf C pb po:Nat} {rt:TypeId} {rv:Value} {G:List Sp} {pF pL:Prop} {pK:Bytes→Prop} {T:Nat→Nat→Prop} {R:World→(Nat→Prop)→Int→Prop} {D S:Nat→Prop} {Q:Nat→Nat→Prop} {vc vk vb:Value} {xs xb:List Value} {cc:Nat} {lk:List KR} {is:Option Addr} {ps q:Int} {l:Bytes}
set_option maxHeartbeats 4000000 in
theorem qp {j:Nat} (dc:DC d Y U Bf C pb po rt rv G pF pL pK T R) (st:DSt d w Y U Bf C rt rv T R D S Q vc vk vb xs xb cc lk (some ⟨pb,po,none⟩) ps q) (hq:q=j) (hj:j < G.length)
    (hk:∀ w2 D2 S2 Q2 vc2 vk2 vb2 xs2 xb2 cc2 lk2 is2 ps2 q2,DSt d w2 Y U Bf C rt rv T R D2 S2 Q2 vc2 vk2 vb2 xs2 xb2 cc2 lk2 is2 ps2 q2→DLt w w2 Y U Bf T D S D2 S2 →
     (G[j]!.ks=[]→q2=j→is2=some ⟨pb,po,none⟩→ps2=0→k (.pointer (some ⟨pb,po,none⟩)) w2) ∧
     (∀ b:Nat,G[j]!.ks≠[]→b≤j→(∀ i,b≤i→i < j→fL Y.π G i)→¬ (0 < b∧fL Y.π G (b - 1))→q2=(b:Int) - 1→is2=iq pb po G ((b:Int) - 1)→ps2 = -1→dK Y.ord w2 U (Y.a+6) ⟨G[b]!.s,G[j]!.e,G[j]!.ks⟩→k (.pointer (some ⟨U,Y.a+6,none⟩)) w2)) :
    aX prog 251 #[.pointer (some ⟨U,Y.a,none⟩)] k w:=by
 have ne:=dc.ne
 obtain ⟨hR,p,r⟩:=st
 subst hq
 have q81:=p.d81
 have q85:=p.d85
 have hB:=aE r.ch
 have fU:=p.fU
 obtain ⟨_,_,⟨kv,k1,k2⟩,_⟩:=(dc.f.cur hR rfl hj).o (dc.f.inc hR)
 obtain ⟨kva,kvc,rfl⟩:=k2.form
 refine ai [.tmp 2] func251 ?_
 refine dV @q81 @q85 ?_
 refine mg k1 ?_
 by_cases h0:G[j]!.ks.length=0
 ·rw [aO h0]
  have q86:=p.d86
  refine fW @q81 @q85 @q86 @fU ?_
  obtain ⟨hR2,r2,kk⟩:=dc.own hR r (x:=Y.a+5) (by omega) (by omega) (.int .i8 0)
  exact (hk _ D S Q _ _ _ _ _ _ _ _ 0 _ ⟨hR2,p.set86 hB 0,r2⟩ ⟨fun _ h => .inl h,fun _ h => .inl h,kk.mono fun b x _ h => .inr (.inr (.inl ⟨h.1,by omega,by omega⟩))⟩).1 (ao.1 h0) rfl rfl rfl
 ·rw [aF h0]
  have hks:G[j]!.ks≠[]:=fun h=>h0 (by rw [h]; rfl)
  refine al ?_
  refine lO dc hR rfl hj p r fun w2 vc2 vk2 vb2 xs2 xb2 cc2 lk2 D2 Q2 sv ev hR2 p2 r2 q87 pcs q88 pce q89 q90 m2 pk2 hD2 k02 => ?_
  have cu2:Cu w2 Y U Q2 vk2 vb2 xb2 lk2 G[j]!.s G[j]!.e G[j]!.ks:=⟨⟨_,q87,.inl pcs⟩,⟨_,q88,.inl pce⟩,q89,q90,m2,pk2⟩
  have l2:DLt w w2 Y U Bf T D S D2 S:=⟨hD2,fun _ h => .inl h,k02.mono fun b x _ h => .inr (.inr h)⟩
  have hB2:=aE r2.ch
  have q86:=p2.d86
  have fU2:=p2.fU
  have q84:=p2.d84
  refine eI @q86 @fU2 @q84 ?_
  obtain ⟨hR3,r3,k23⟩:=dc.own hR2 r2 (x:=Y.a+5) (by omega) (by omega) (.int .i8 (-1))
  have p3:=p2.set86 hB2 (-1)
  have cu3:=cu2.keep k23 (fun b x hq _ h=>(r2.dD b (r2.qD b x hq)).2.1 h.1) fun x _ _ h=>by omega
  have l3:DLt w (w2.setCell ⟨U,Y.a+5,none⟩ (.int .i8 (-1))) Y U Bf T D S D2 S:=l2.trans ⟨fun _ h => .inl h,fun _ h => .inl h,k23.mono fun b x _ h => .inr (.inr (.inl ⟨h.1,by omega,by omega⟩))⟩
  refine dc.f.prev hR3 (by omega) fun w4 S4 hR4 hS4 k34 => ?_
  obtain ⟨p4,r4,cuf⟩:=dc.below hR3 p3 r3 k34 hS4
  have cu4:=cuf cu3
  have l4:=l3.trans ⟨fun _ h => .inl h,hS4,k34.mono fun b x _ h=>h.elim .inl fun h => .inr (.inl h)⟩
  rw [show iP pb po G ((j:Int) - 1) = .pointer (iq pb po G ((j:Int) - 1)) from dR ..]
  have q85:=p4.d85
  have fU4:=p4.fU
  refine dV @q85 @fU4 ?_
  obtain ⟨hR5,r5,k45⟩:=dc.own hR4 r4 (x:=Y.a+4) (by omega) (by omega) (.pointer (iq pb po G ((j:Int) - 1)))
  have p5:=p4.set85 (aE r4.ch) (iq pb po G ((j:Int) - 1))
  have cu5:=cu4.keep k45 (fun b x hq _ h=>(r4.dD b (r4.qD b x hq)).2.1 h.1) fun x _ _ h=>by omega
  have l5:=l4.trans ⟨fun _ h => .inl h,fun _ h => .inl h,k45.mono fun b x _ h => .inr (.inr (.inl ⟨h.1,by omega,by omega⟩))⟩
  refine gm (fun _:Nat=>[(0,.pointer (some ⟨U,Y.a,none⟩))]) (fun m w'=>(∃ D' S' Q' vc' vk' vb' xs' xb' cc' lk',DSt d w' Y U Bf C rt rv T R D' S' Q' vc' vk' vb' xs' xb' cc' lk' (iq pb po G ((m:Int) - 1)) (-1) ((m:Int) - 1)∧DLt w w' Y U Bf T D S D' S'∧Cu w' Y U Q' vk' vb' xb' lk' G[m]!.s G[j]!.e G[j]!.ks∧∃ v,w'.cell? ⟨U,Y.a+7,none⟩=some v∧Pc w' Q' v G[j]!.e)∧m≤j∧(∀ i,m≤i→i < j→fL Y.π G i)∧¬ (0 < m∧fL Y.π G (m - 1))) (by kernel_rfl) (fun K hK => ?_) ?_
  ·refine bO (fun _:Nat=>[(0,.pointer (some ⟨U,Y.a,none⟩))]) (fun m w'=>(∃ D' S' Q' vc' vk' vb' xs' xb' cc' lk',DSt d w' Y U Bf C rt rv T R D' S' Q' vc' vk' vb' xs' xb' cc' lk' (iq pb po G ((m:Int) - 1)) (-1) ((m:Int) - 1)∧DLt w w' Y U Bf T D S D' S'∧Cu w' Y U Q' vk' vb' xb' lk' G[m]!.s G[j]!.e G[j]!.ks∧∃ v,w'.cell? ⟨U,Y.a+7,none⟩=some v∧Pc w' Q' v G[j]!.e)∧m≤j∧(∀ i,m≤i→i < j→fL Y.π G i)) (fun m _=>m) j (by kernel_rfl) ?_
     ⟨⟨D2,S4,Q2,vc2,vk2,vb2,xs2,xb2,cc2,lk2,⟨hR5,p5,r5⟩,l5,cu5,ev,k45.some (k34.some (k23.some q88 (by omega)) fun h=>h.elim (dc.t (Y.a+7) (by omega) (by omega)) (dc.s hR3).1) (by omega),((pce.keep k23 fun b x hq _ h=>(r2.dD b (r2.qD b x hq)).2.1 h.1).keep k34 fun b x hq _ h=>h.elim ((r3.dD b (r3.qD b x hq)).2.2.2.2.1 x) (r3.dD b (r3.qD b x hq)).2.2.2.1).keep k45 fun b x hq _ h=>(r4.dD b (r4.qD b x hq)).2.1 h.1⟩,aD _,fun i h1 h2=>by omega⟩ ?_
   ·exact bE
   clear hR3 r3 p3 cu3 l3 hR4 p4 r4 cu4 l4 hR5 r5 p5 cu5 l5 q81 q84 q85 q86
   rintro K2 e m w6 ⟨⟨D6,S6,Q6,vc6,vk6,vb6,xs6,xb6,cc6,lk6,⟨hR6,p6,r6⟩,l6,cu6,v88,h88,pc88⟩,hjm,hjn⟩ hK2
   have q81:=p6.d81
   have q83:=p6.d83
   have q85:=p6.d85
   by_cases hm:0 < m
   ·have his:iq pb po G ((m:Int) - 1)=some ⟨pb,po,none⟩:=if_pos ⟨by omega,by omega⟩
    rw [his] at q85 p6
    have hspn:=dc.f.cur hR6 (show (m:Int) - 1=((m - 1:Nat):Int) by omega) (show m - 1 < G.length by omega)
    have hso:=hspn.o (dc.f.inc hR6)
    have hsc:=cu6.span r6
    obtain ⟨⟨sv6,s1,s2⟩,⟨ev6,e1,e2⟩,⟨kv6,k1,k2⟩,o6⟩:=hso
    obtain ⟨⟨cs,cs1,cs2⟩,⟨ce,ce1,ce2⟩,⟨ck,ck1,ck2⟩,co6⟩:=hsc
    obtain ⟨sa,sc,rfl⟩:=bI s2
    obtain ⟨ea,ec,rfl⟩:=bI e2
    obtain ⟨csa,csc,rfl⟩:=bI cs2
    simp (disch:=first | exact dZ | fail) only [go_sem,q85,Option.isSome_some]
    refine ay (sq [0,1,2] (.read 3 (sq [4,5,6,7] (.read 8 (sq [9,10,11] (.read 12 (sq [13,14] (.read 15 (.eff 16 [] (sq [17] .done)))))))))) ?_
    refine gH @q81 @q83 @q85 @e1 @cs1 ?_
    refine ga (by exact cs2) (by exact e2) ?_
    by_cases hes:G[m]!.s=G[m - 1]!.e
    ·rw [aO hes]
     refine al ?_
     refine ay (sq [0,1,2,3] (.read 4 (sq [5,6,7] (.eff 8 [] (sq [9] .done))))) ?_
     refine bf @q85 ?_
     have hmd:G[m]!.ks.map Y.π=G[j]!.ks.map Y.π:=(Dz hjm hjn).symm
     have hmne:G[m]!.ks≠[]:=fun h=>by rw [h] at hmd; exact hks (by simpa using hmd.symm)
     refine mE (w:=w6.drew.drew) p6.drew.drew (x:=G[m - 1]!) (y:=⟨G[m]!.s,G[j]!.e,G[j]!.ks⟩) (by exact (hspn.o (dc.f.inc hR6))) (by exact (cu6.span r6)) (fun h hq=>DC.meq dc hR6 (hspn.o (dc.f.inc hR6)) (cu6.span r6) (dc.len (m - 1) (by omega)).2.2.1 h hq) fun w7 x7 => ?_
     have x7:bY w6 w7:=(bY.refl w6).drew'.drew'.trans x7
     have hR7:R w7 S6 ((m:Int) - 1):=dc.f.keep hR6 x7 fun _ _ _ h=>h.elim
     have p7:=p6.keep (aE r6.ch) x7 fun _ _ _ h=>h
     have r7:=r6.keep x7 (fun _ _ _ h=>h) fun _ _ _ h=>h
     have cu7:=cu6.keep x7 (fun _ _ _ _ h=>h) fun _ _ _ h=>h
     have pc88:=pc88.keep x7 fun _ _ _ _ h=>h
     have h88:=x7.cell h88
     have l7:DLt w w7 Y U Bf T D S D6 S6:=l6.trans ⟨fun _ h => .inl h,fun _ h => .inl h,x7.keep⟩
     by_cases hjo:G[m - 1]!.ks≠[]∧G[m - 1]!.ks.map Y.π=G[j]!.ks.map Y.π
     ·rw [aO hjo]
      have hjm1:fL Y.π G (m - 1):=⟨by omega,by rw [show m - 1+1=m by omega]; exact hes.symm,hjo.1,by rw [show m - 1+1=m by omega,hmd,hjo.2]⟩
      have q81:=p7.d81
      have q85:=p7.d85
      have b8:=r7.bh
      have fB7:=p7.fB
      have s1:=x7.cell s1
      have s2:=s2.keep x7 fun _ _ _ _ _ _ h=>h
      obtain ⟨ba,bc,eb,hbc,_⟩:=bZ r7.bo
      subst eb
      have z0:(0:Int).toNat=0:=rfl
      have zb:(0:Int)≤bc:=by omega
      have hU7:=aE q81
      have hB7:=aE b8
      have hel:=(dc.len (m - 1) (by omega)).1
      refine al ?_
      refine ay (sq [0,1,2] (.read 3 (sq [4,5,6] (.read 7 (sq [8,9] (.read 10 (sq [11,12,13,14] (.read 15 (sq [16,17] (.read 18 (.eff 19 [3] (sq [20,21] (.eff 22 [] .done))))))))))))) ?_
      simp (disch:=first | exact dZ | fail) only [go_sem,q81,q85,b8,s1,sD Tryz.es107,z0,zb]
      simp only [pe]
      refine rB (m:=G[m - 1]!.s.length) (news:=iI G[m - 1]!.s) rw107 (fX r7.bo).drew (by rw [br,Nat.mul_one]) (gg (by exact s2)) (gh _) (by omega) fun v8 w8 o8 k8 n8 _ => ?_
      obtain ⟨a8,cap8,e8',_,_⟩:=bZ o8
      subst e8'
      have k8:Keep (fun b _=>(Value.slice ba xb6.length bc).ownBlock=some b) w7 w8:=(Keep.refl _ w7).drew.trans (k8 _ fun b o hb _=>by rw [cI ba xb6.length 0]; exact hb)
      have n78:cZ w7 (.slice ba xb6.length bc) (.slice a8 (0+G[m - 1]!.s.length) cap8):=fun g' hg'=>by
       rcases n8 with h | ⟨g2,h,h',_⟩
       ·exact .inl (by rw [← hg',h]; exact cI _ _ _ _)
       ·rw [h] at hg'
        simp only [aK] at hg'
        subst hg'
        exact .inr h'
      rw [List.nil_append,Nat.zero_add,← br] at o8
      rw [Nat.zero_add,← br] at n78
      have nb:∀ (b _x:Nat),(Value.slice ba xb6.length bc).ownBlock=some b→b≠U∧b≠Bf:=fun b x h=>⟨(r7.dD b (r7.bD b h)).2.1,(r7.dD b (r7.bD b h)).2.2.1⟩
      obtain ⟨r9,k79⟩:=r7.bset o8 k8 n78 hU7 (dc.f.inc hR7) (fun g hg=>(dc.f.outS hR7 g hg).2) (fun b x h=>dc.tl hR7 h)
      have q81':=k8.some q81 fun h=>(nb _ 0 h).1 rfl
      have b8':=k8.some b8 fun h=>(nb _ 0 h).2 rfl
      have fB8:∀ x,w8.frozen? ⟨Bf,x,none⟩=false:=fun x=>by rw [k8.frozen Bf x hB7]; exact fB7 x
      have fU8:∀ x,w8.frozen? ⟨U,x,none⟩=false:=fun x=>by rw [k8.frozen U x hU7]; exact p7.fU x
      obtain ⟨v87',h87',_⟩:=cu7.c87
      have h88':=k8.some h87' fun h=>(nb _ 0 h).1 rfl
      rw [Nat.zero_add,← br]
      refine gH @q81' @b8' @fB8 @fU8 @h88' ?_
      obtain ⟨w9,hw9⟩:∃ w9,w9=w8.setCell ⟨Bf,Y.e+2,none⟩ (.slice a8 (iI G[m - 1]!.s).length cap8):=⟨_,rfl⟩
      rw [← hw9] at r9 k79 ⊢
      have sp7:∀ {b x},((b=Bf∧x=Y.e+2∨(Value.slice ba xb6.length bc).ownBlock=some b)∧¬ Q6 b x)→dM Y U Bf D6 b x:=by
       rintro b x ⟨⟨h1,h2⟩ | h,_⟩
       ·exact .inr (.inl ⟨h1,by omega,by omega⟩)
       ·exact .inr (.inr (r7.bD b h))
      have hR9:R w9 S6 ((m:Int) - 1):=dc.f.keep hR7 k79 fun b x _ h=>dc.safe hR7 r7.dD' b x (sp7 h)
      have nU9:∀ x,¬ ((U=Bf∧x=Y.e+2∨(Value.slice ba xb6.length bc).ownBlock=some U)∧¬ Q6 U x):=by
       rintro x ⟨⟨h,_⟩ | h,_⟩
       ·exact dc.ne h.symm
       ·exact (nb U 0 h).1 rfl
      have p9:=p7.keep hB7 k79 fun x _ _=>nU9 x
      have pcs9:=pc88.keep k79 fun b x hq _ hh=>hh.2 hq
      have h889:=k79.some h88 (nU9 _)
      have h879:=k79.some h87' (nU9 _)
      have h899:=k79.some cu7.c89 (nU9 _)
      have h909:=k79.some cu7.c90 (nU9 _)
      have pk9:∀ x ∈ lk6,PK w9 Q6 x:=fun x hx=>PK.keep (cu7.pk x hx) k79 fun b x hq _ hh=>hh.2 hq
      obtain ⟨hR10,r10,k910⟩:=dc.own hR9 r9 (x:=Y.a+6) (by omega) (by omega) (.slice a8 (iI G[m - 1]!.s).length cap8)
      obtain ⟨w10,hw10⟩:∃ w10,w10=w9.setCell ⟨U,Y.a+6,none⟩ (.slice a8 (iI G[m - 1]!.s).length cap8):=⟨_,rfl⟩
      have p10:DP w10 Y U Bf C rt rv (some ⟨pb,po,none⟩) (-1):=by rw [hw10]; exact I1 p9 (aE r9.ch) (by omega) (by omega) _
      rw [← hw10] at hR10 r10 k910 ⊢
      have cu10:Cu w10 Y U Q6 vk6 (.slice a8 (iI G[m - 1]!.s).length cap8) (iI G[m - 1]!.s) lk6 G[m - 1]!.s G[j]!.e G[j]!.ks:=by
       refine ⟨⟨_,?_,.inr ⟨rfl,rfl⟩⟩,⟨v88,k910.some h889 (by omega),.inl (pcs9.keep k910 fun b x hq _ h=>(r9.dD b (r9.qD b x hq)).2.1 h.1)⟩,k910.some h899 (by omega),k910.some h909 (by omega),cu7.km,fun x hx=>PK.keep (pk9 x hx) k910 fun b x hq _ h=>(r9.dD b (r9.qD b x hq)).2.1 h.1⟩
       rw [hw10,cC,h879]; rfl
      have pcs10:=pcs9.keep k910 fun b x hq _ h=>(r9.dD b (r9.qD b x hq)).2.1 h.1
      have h8710:=k910.some h889 (by omega)
      have l10:=(l7.trans (⟨fun b h => ?_,fun _ h => .inl h,k79.mono fun b x _ h => .inr (.inr (sp7 h))⟩:DLt w7 w9 Y U Bf T D6 S6 (fun b=>D6 b∨(Value.slice a8 (iI G[m - 1]!.s).length cap8).ownBlock=some b) S6)).trans (⟨fun _ h => .inl h,fun _ h => .inl h,k910.mono fun b x _ h => .inr (.inr (.inl ⟨h.1,by omega,by omega⟩))⟩:DLt w9 w10 Y U Bf T _ S6 (fun b=>D6 b∨(Value.slice a8 (iI G[m - 1]!.s).length cap8).ownBlock=some b) S6)
      rotate_left 1
      ·rcases h with h | h
       ·exact .inl h
       ·rcases n78 b h with h | h
        ·exact .inl (r7.bD b h)
        ·exact .inr h
      have q81:=p10.d81
      have q85:=p10.d85
      obtain ⟨rc,rf,q92,rfl,rfl⟩:=p10.d92
      have c7:=r10.kh
      obtain ⟨vka,vkc,e5,_,_⟩:=bZ r10.ko
      rw [e5] at c7
      have fB10:=p10.fB
      obtain ⟨_,_,⟨kv10,kk1,kk2⟩,_⟩:=(dc.f.cur hR10 (show (m:Int) - 1=((m - 1:Nat):Int) by omega) (show m - 1 < G.length by omega)).o (dc.f.inc hR10)
      obtain ⟨kk3,kk4,rfl⟩:=kk2.form
      refine ay (sq [0,1,2] (.read 3 (sq [4,5,6] (.read 7 (sq [8,9,10] (.read 11 (sq [12,13] (.read 14 (sq [15,16,17] (.read 18 (sq [19,20] (.read 21 (.eff 22 [3] (sq [23,24] (.eff 25 [] .done))))))))))))))) ?_
      refine gH @q81 @q85 @q92 @c7 @kk1 ?_
      refine qm ?_
      have q84:=p10.d84
      have hU10:=aE q81
      have hB10:=aE c7
      have d10:∀ {x v},w10.cell? ⟨U,x,none⟩=some v→(w10.setCell ⟨Bf,Y.e+1,none⟩ (.slice vka lk6.length vkc)).drew.cell? ⟨U,x,none⟩=some v:=fun h=>by rw [eR c7]; exact h
      refine vR @q81 @q85 @q92 @c7 @kk1 @fB10 @q84 ?_
      rw [eR c7]
      have hR11:R w10.drew S6 ((m:Int) - 1):=dc.f.keep hR10 (M:=fun _ _=>False) (bY.refl w10).drew' fun _ _ _ h=>h.elim
      refine dc.f.prev hR11 (by omega) fun w12 S12 hR12 hS12 k12 => ?_
      obtain ⟨p12,r12,cuf12⟩:=dc.below hR11 p10.drew r10.drew k12 hS12
      have cu12:=cuf12 (cu10.keep (M:=fun _ _=>False) (bY.refl w10).drew' (fun _ _ _ _ h=>h) fun _ _ _ h=>h)
      have k12':Keep (fun b x=>T b x∨S6 b) w10 w12:=(Keep.refl _ w10).drew.trans k12
      have hS12':∀ b,S12 b→S6 b∨w10.heap.size≤b:=hS12
      have l12:=l10.trans ⟨fun _ h => .inl h,hS12',k12'.mono fun b x _ h=>h.elim .inl fun h => .inr (.inl h)⟩
      have pcs12:=pcs10.keep k12' fun b x hq _ h=>h.elim ((r10.dD b (r10.qD b x hq)).2.2.2.2.1 x) (r10.dD b (r10.qD b x hq)).2.2.2.1
      have h8712:=k12'.some h8710 fun h=>h.elim (dc.t (Y.a+7) (by omega) (by omega)) (dc.s hR10).1
      rw [show iP pb po G ((m:Int) - 1 - 1) = .pointer (iq pb po G ((m:Int) - 1 - 1)) from dR ..]
      have q85:=p12.d85
      have fU12:=p12.fU
      refine dV @q85 @fU12 ?_
      obtain ⟨hR13,r13,k1213⟩:=dc.own hR12 r12 (x:=Y.a+4) (by omega) (by omega) (.pointer (iq pb po G ((m:Int) - 1 - 1)))
      have p13:=p12.set85 (aE r12.ch) (iq pb po G ((m:Int) - 1 - 1))
      have cu13:=cu12.keep k1213 (fun b x hq _ h=>(r12.dD b (r12.qD b x hq)).2.1 h.1) fun x _ _ h=>by omega
      have l13:=l12.trans ⟨fun _ h => .inl h,fun _ h => .inl h,k1213.mono fun b x _ h => .inr (.inr (.inl ⟨h.1,by omega,by omega⟩))⟩
      have hmc:((m - 1:Nat):Int) - 1=(m:Int) - 1 - 1:=by omega
      refine hK2 _ _ (m - 1) ?_ ⟨⟨_,S12,Q6,vc6,vk6,_,xs6,_,cc6,lk6,⟨by rw [hmc]; exact hR13,by rw [hmc]; exact p13,r13⟩,l13,cu13,v88,k1213.some h8712 (by omega),pcs12.keep k1213 fun b x hq _ h=>(r12.dD b (r12.qD b x hq)).2.1 h.1⟩,by omega,fun i h1 h2 => ?_⟩ (by omega)
      ·exact bE
      ·rcases cj (show m - 1≤i by omega) with h | h
       ·exact hjn i (by omega) h2
       ·subst h; exact hjm1
     ·rw [aF hjo]
      refine al ?_
      refine hK _ _ m ?_ ⟨⟨D6,S6,Q6,vc6,vk6,vb6,xs6,xb6,cc6,lk6,⟨hR7,by rw [his]; exact p7,r7⟩,l7,cu7,v88,h88,pc88⟩,hjm,hjn,fun h=>hjo ⟨h.2.2.2.1,by have:=h.2.2.2.2; rw [show m - 1+1=m by omega,hmd] at this; exact this⟩⟩
      exact bE
    ·rw [aF hes]
     refine al ?_
     refine hK _ _ m ?_ ⟨⟨D6,S6,Q6,vc6,vk6,vb6,xs6,xb6,cc6,lk6,⟨dc.f.keep hR6 (M:=fun _ _=>False) (Keep.refl _ w6).drew fun _ _ _ h=>h.elim,by rw [his]; exact p6.drew,r6.drew⟩,⟨l6.d,l6.s,l6.k.drew⟩,cu6.keep (M:=fun _ _=>False) (Keep.refl _ w6).drew (fun _ _ _ _ h=>h) fun _ _ _ h=>h,v88,h88,pc88.keep (M:=fun _ _=>False) (Keep.refl _ w6).drew fun _ _ _ _ h=>h⟩,hjm,hjn,fun h=>hes (by have:=h.2.2.1; rw [show m - 1+1=m by omega] at this; exact this.symm)⟩
     exact bE
   ·have his:iq pb po G ((m:Int) - 1)=none:=if_neg (by omega)
    rw [his] at q85
    simp (disch:=first | exact dZ | fail) only [go_sem,q85,Option.isSome_none]
    refine hK _ _ m ?_ ⟨⟨D6,S6,Q6,vc6,vk6,vb6,xs6,xb6,cc6,lk6,⟨hR6,p6,r6⟩,l6,cu6,v88,h88,pc88⟩,hjm,hjn,fun h=>hm h.1⟩
    exact bE
  ·rintro e m w6 ⟨⟨D6,S6,Q6,vc6,vk6,vb6,xs6,xb6,cc6,lk6,⟨hR6,p6,r6⟩,l6,cu6,_⟩,hjm,hjn,hnj⟩
   have q84:=p6.d84
   refine bf @q84 ?_
   refine dc.f.error hR6 fun w7 hR7 x7 => ?_
   have p7:=p6.keep (aE r6.ch) x7 fun _ _ _ h=>h
   have r7:=r6.keep x7 (fun _ _ _ h=>h) fun _ _ _ h=>h
   have cu7:=cu6.keep x7 (fun _ _ _ _ h=>h) fun _ _ _ h=>h
   have q81:=p7.d81
   have c7:=r7.kh
   have h89:=cu7.c89
   have fU7:=p7.fU
   obtain ⟨vka,vkc,e5,_,_⟩:=bZ r7.ko
   rw [e5] at c7 h89
   refine fW @q81 @c7 @h89 @fU7 ?_
   rw [eR h89]
   have l7:DLt w w7 Y U Bf T D S D6 S6:=l6.trans ⟨fun _ h => .inl h,fun _ h => .inl h,x7.keep⟩
   exact (hk w7 D6 S6 Q6 vc6 vk6 vb6 xs6 xb6 cc6 lk6 _ _ _ ⟨hR7,p7,r7⟩ l7).2 m hks hjm hjn hnj rfl rfl rfl (cu7.span r7)
end
end Go.Proofs
end
section
namespace Go.E
open Go Go.Sort Go.Proofs Go.Proofs.Tryz
section
variable {Y:DX} {G:List Sp} {p j b:Nat}
theorem I2 (hp:p < (cr Y.π G).length) (h1:(cr Y.π G)[p]! ≤ j) (h2:j < iG Y.π G p) (hjb:j≤b) (hb:b < G.length) (hj:∀ i,j≤i→i < b→fL Y.π G i) (hn:¬ fL Y.π G b):b+1=iG Y.π G p:=by
 rcases cz (b+1) (iG Y.π G p) with h | h | h
 ·exact absurd (uP hp (by omega) h) hn
 ·exact h
 ·exact absurd (hj (iG Y.π G p - 1) (by omega) (by omega)) (Aa hp)
theorem I3 (hp:p < (cr Y.π G).length) (h1:(cr Y.π G)[p]! ≤ j) (h2:j < iG Y.π G p) (hjb:b≤j) (hj:∀ i,b≤i→i < j→fL Y.π G i) (hn:¬ (0 < b∧fL Y.π G (b - 1))):b=(cr Y.π G)[p]! := by
 rcases cz b (cr Y.π G)[p]! with h | h | h
 ·exact absurd (hj ((cr Y.π G)[p]! - 1) (by omega) (by omega)) (Bg hp (by omega))
 ·exact h
 ·exact absurd ⟨by omega,uP hp (by omega) (by omega)⟩ hn
end
def De (d:World) (Y:DX) (U Bf C pb po:Nat) (rt:TypeId) (rv:Value) (G:List Sp) (T:Nat→Nat→Prop) (R:World→(Nat→Prop)→Int→Prop) (w:World) (D S:Nat→Prop) (p:Int):Prop :=
 ∃ Q vc vk vb xs xb cc lk is ps q,DSt d w Y U Bf C rt rv T R D S Q vc vk vb xs xb cc lk is ps q ∧
  (p = -2∨is=iq pb po G q ∧
   ((∃ i:Nat,p=i∧i < (cr Y.π G).length∧(G[(cr Y.π G)[i]!]!.ks=[]∧ps=0∧q=(cr Y.π G)[i]! ∨ G[(cr Y.π G)[i]!]!.ks≠[]∧ps=1∧q=iG Y.π G i∨G[(cr Y.π G)[i]!]!.ks≠[]∧ps = -1∧q=((cr Y.π G)[i]! : Int) - 1)) ∨
    p=(cr Y.π G).length∧ps=0∧q=G.length∨p = -1∧ps=0∧q = -1))
def Rs (Y:DX) (G:List Sp) (w:World) (v:Value) (p:Int):Prop :=
 (∀ i:Nat,p=i→i < (cr Y.π G).length→∃ b o x,v = .pointer (some ⟨b,o,none⟩)∧dK Y.ord w b o x∧x.s=(Vw Y.π G)[i]!.s∧x.e=(Vw Y.π G)[i]!.e∧x.ks.map Y.π=(Vw Y.π G)[i]!.ks.map Y.π∧∃ j,j < G.length∧x.ks=G[j]!.ks)∧(¬ (0≤p∧p < (cr Y.π G).length)→v = .pointer none)
def G7 (d:World) (Y:DX) (U Bf C pb po:Nat) (rt:TypeId) (rv:Value) (G:List Sp) (T:Nat→Nat→Prop) (R:World→(Nat→Prop)→Int→Prop) (w:World) (D S:Nat→Prop) (p:Int) (k:aq):Prop :=
 ∀ w2 D2 S2 v,De d Y U Bf C pb po rt rv G T R w2 D2 S2 p→DLt w w2 Y U Bf T D S D2 S2→Rs Y G w2 v p→k v w2
end Go.E
namespace Go.Proofs
open Go Go.E Go.Sort Go.Proofs.Tryz
section
variable {k:aq} {d w w0:World} {Y:DX} {U Bf C pb po:Nat} {rt:TypeId} {rv:Value} {G:List Sp} {pF pL:Prop} {pK:Bytes→Prop} {T:Nat→Nat→Prop} {R:World→(Nat→Prop)→Int→Prop} {D S D0 S0:Nat→Prop} {Q:Nat→Nat→Prop} {vc vk vb:Value} {xs xb:List Value} {cc:Nat} {lk:List KR} {is:Option Addr} {ps q:Int} {l:Bytes}
theorem pH {p:Nat} (dc:DC d Y U Bf C pb po rt rv G pF pL pK T R) (hl:DLt w0 w Y U Bf T D0 S0 D S) (st:DSt d w Y U Bf C rt rv T R D S Q vc vk vb xs xb cc lk (some ⟨pb,po,none⟩) ps q) (hp:p < (cr Y.π G).length) (hq:q=(cr Y.π G)[p]!)
    (hk:G7 d Y U Bf C pb po rt rv G T R w0 D0 S0 p k):aX prog 250 #[.pointer (some ⟨U,Y.a,none⟩)] k w:=by
 have ne:=dc.ne
 have hm:=gF hp
 have he:=eA hp
 refine qn dc st hq hm.1 fun w2 D2 S2 Q2 vc2 vk2 vb2 xs2 xb2 cc2 lk2 is2 ps2 q2 st2 l2=>⟨fun h0 hq2 his hps => ?_,fun b h0 hjb hbN hj hn hq2 his hps hsp => ?_⟩
 ·refine hk w2 D2 S2 _ ⟨Q2,vc2,vk2,vb2,xs2,xb2,cc2,lk2,is2,ps2,q2,st2,.inr ⟨?_,.inl ⟨p,rfl,hp,.inl ⟨h0,hps,hq2⟩⟩⟩⟩ (hl.trans l2) ⟨fun i hi hi2 => ?_,fun h=>absurd ⟨by omega,by omega⟩ h⟩
  ·rw [his,hq2]
   exact (if_pos ⟨by omega,by omega⟩).symm
  ·obtain rfl:i=p:=by omega
   refine ⟨pb,po,G[(cr Y.π G)[i]!]!,rfl,(dc.f.cur st2.R hq2 hm.1).o (dc.f.inc st2.R),?_⟩
   rw [kF hp,qA hp h0]
   exact ⟨rfl,rfl,rfl,_,hm.1,rfl⟩
 ·have hb:=I2 hp (aD _) he.1 hjb hbN hj hn
  refine hk w2 D2 S2 _ ⟨Q2,vc2,vk2,vb2,xs2,xb2,cc2,lk2,is2,ps2,q2,st2,.inr ⟨?_,.inl ⟨p,rfl,hp,.inr (.inl ⟨h0,hps,by omega⟩)⟩⟩⟩ (hl.trans l2) ⟨fun i hi hi2 => ?_,fun h=>absurd ⟨by omega,by omega⟩ h⟩
  ·rw [his,hq2]
  ·obtain rfl:i=p:=by omega
   refine ⟨U,Y.a+6,_,rfl,hsp,?_⟩
   rw [kF hp,← hb]
   exact ⟨rfl,rfl,rfl,_,hm.1,rfl⟩
theorem rQ {p:Nat} (dc:DC d Y U Bf C pb po rt rv G pF pL pK T R) (hl:DLt w0 w Y U Bf T D0 S0 D S) (st:DSt d w Y U Bf C rt rv T R D S Q vc vk vb xs xb cc lk (some ⟨pb,po,none⟩) ps q) (hp:p < (cr Y.π G).length) (hq:q=(iG Y.π G p - 1:Nat))
    (hk:G7 d Y U Bf C pb po rt rv G T R w0 D0 S0 p k):aX prog 251 #[.pointer (some ⟨U,Y.a,none⟩)] k w:=by
 have ne:=dc.ne
 have hm:=gF hp
 have he:=eA hp
 have hsame:=l8 hp (j:=iG Y.π G p - 1) (by omega) (by omega)
 refine qp dc st hq (by omega) fun w2 D2 S2 Q2 vc2 vk2 vb2 xs2 xb2 cc2 lk2 is2 ps2 q2 st2 l2=>⟨fun h0 hq2 his hps => ?_,fun b h0 hjb hj hn hq2 his hps hsp => ?_⟩
 ·obtain ⟨e1,e2⟩:=zQ hp (j:=iG Y.π G p - 1) (by omega) (by omega) h0
  refine hk w2 D2 S2 _ ⟨Q2,vc2,vk2,vb2,xs2,xb2,cc2,lk2,is2,ps2,q2,st2,.inr ⟨?_,.inl ⟨p,rfl,hp,.inl ⟨by rw [e1]; exact h0,hps,by rw [hq2,e1]⟩⟩⟩⟩ (hl.trans l2) ⟨fun i hi hi2 => ?_,fun h=>absurd ⟨by omega,by omega⟩ h⟩
  ·rw [his,hq2]
   exact (if_pos ⟨by omega,by omega⟩).symm
  ·obtain rfl:i=p:=by omega
   refine ⟨pb,po,G[iG Y.π G i - 1]!,rfl,(dc.f.cur st2.R hq2 (by omega)).o (dc.f.inc st2.R),?_⟩
   rw [kF hp,e1]
   exact ⟨rfl,rfl,rfl,iG Y.π G i - 1,by omega,rfl⟩
 ·have hb:=I3 hp (by omega) (by omega) hjb hj hn
  have h0':G[(cr Y.π G)[p]!]!.ks≠[]:=fun h=>by
   rw [h] at hsame
   exact h0 (by simpa using hsame)
  refine hk w2 D2 S2 _ ⟨Q2,vc2,vk2,vb2,xs2,xb2,cc2,lk2,is2,ps2,q2,st2,.inr ⟨?_,.inl ⟨p,rfl,hp,.inr (.inr ⟨h0',hps,by rw [hq2,hb]⟩)⟩⟩⟩ (hl.trans l2) ⟨fun i hi hi2 => ?_,fun h=>absurd ⟨by omega,by omega⟩ h⟩
  ·rw [his,hq2]
  ·obtain rfl:i=p:=by omega
   refine ⟨U,Y.a+6,_,rfl,hsp,?_⟩
   rw [kF hp,hb]
   exact ⟨rfl,rfl,hsame,iG Y.π G i - 1,by omega,rfl⟩
theorem FZ (dc:DC d Y U Bf C pb po rt rv G pF pL pK T R) (st:DSt d w Y U Bf C rt rv T R D S Q vc vk vb xs xb cc lk is ps q) {w2:World} {S2:Nat→Prop} {q2:Int} (hR:R w2 S2 q2) (hs:∀ b,S2 b→S b∨w.heap.size≤b) (hk:Keep (fun b x=>T b x∨S b) w w2) :
    DSt d (w2.setCell ⟨U,Y.a+4,none⟩ (.pointer (iq pb po G q2))) Y U Bf C rt rv T R D S2 Q vc vk vb xs xb cc lk (iq pb po G q2) ps q2∧DLt w (w2.setCell ⟨U,Y.a+4,none⟩ (.pointer (iq pb po G q2))) Y U Bf T D S D S2 ∧
     w2.cell? ⟨U,Y.a+4,none⟩=some (.pointer is)∧(∀ x,w2.frozen? ⟨U,x,none⟩=false):=by
 obtain ⟨p4,r4,_⟩:=dc.below st.R st.p st.r hk hs
 obtain ⟨hR5,r5,k45⟩:=dc.own hR r4 (x:=Y.a+4) (by omega) (by omega) (.pointer (iq pb po G q2))
 exact ⟨⟨hR5,p4.set85 (aE r4.ch) _,r5⟩,⟨fun _ h => .inl h,hs,(hk.mono fun b x _ h=>h.elim .inl fun h => .inr (.inl h)).trans (k45.mono fun b x _ h => .inr (.inr (.inl ⟨h.1,by omega,by omega⟩)))⟩,p4.d85,p4.fU⟩
theorem D1 (dc:DC d Y U Bf C pb po rt rv G pF pL pK T R) (st:DSt d w Y U Bf C rt rv T R D S Q vc vk vb xs xb cc lk is ps q) (n:Int) :
    DSt d (w.setCell ⟨U,Y.a+5,none⟩ (.int .i8 n)) Y U Bf C rt rv T R D S Q vc vk vb xs xb cc lk is n q∧DLt w (w.setCell ⟨U,Y.a+5,none⟩ (.int .i8 n)) Y U Bf T D S D S:=by
 obtain ⟨hR2,r2,kk⟩:=dc.own st.R st.r (x:=Y.a+5) (by omega) (by omega) (.int .i8 n)
 exact ⟨⟨hR2,st.p.set86 (aE st.r.ch) n,r2⟩,⟨fun _ h => .inl h,fun _ h => .inl h,kk.mono fun b x _ h => .inr (.inr (.inl ⟨h.1,by omega,by omega⟩))⟩⟩
theorem zY {p:Int} (dc:DC d Y U Bf C pb po rt rv G pF pL pK T R) (h:De d Y U Bf C pb po rt rv G T R w D S p) (hF:pF) (hk:G7 d Y U Bf C pb po rt rv G T R w D S 0 k):aX prog 243 #[.pointer (some ⟨U,Y.a,none⟩)] k w:=by
 have ne:=dc.ne
 obtain ⟨Q,vc,vk,vb,xs,xb,cc,lk,is,ps,q,st,_⟩:=h
 have q84:=st.p.d84
 refine ai [.tmp 2] func243 ?_
 refine bf @q84 ?_
 refine dc.f.first st.R hF fun w2 S2 hR2 hS2 k2 => ?_
 obtain ⟨st2,l2,q85,fU2⟩:=FZ dc st hR2 hS2 k2
 rw [show iP pb po G 0 = .pointer (iq pb po G 0) from dR ..]
 by_cases h0:0 < G.length
 ·have his:iq pb po G 0=some ⟨pb,po,none⟩:=if_pos ⟨by omega,by omega⟩
  rw [his] at st2 l2 ⊢
  obtain ⟨e1,e2⟩:=jU (π:=Y.π) h0
  simp (disch:=first | exact dZ | fail) only [go_sem,q85,fU2,Option.isNone_some]
  refine pH (p:=0) dc l2 st2 e1 (by rw [e2]; rfl) fun w3 D3 S3 v r1 r2 r3 => ?_
  refine al ?_
  exact hk w3 D3 S3 v r1 r2 r3
 ·have his:iq pb po G 0=none:=if_neg (by omega)
  have hz:(cr Y.π G).length=0:=sH (π:=Y.π) (by omega)
  rw [his] at st2 l2 ⊢
  have q86:=st2.p.d86
  have fU3:=st2.p.fU
  have q86':w2.cell? ⟨U,Y.a+5,none⟩=some (.int .i8 ps):=by
   have:=q86
   rwa [gq (by omega)] at this
  simp (disch:=first | exact dZ | fail) only [go_sem,q85,fU2,Option.isNone_none,q86']
  obtain ⟨st3,l3⟩:=D1 dc st2 0
  refine hk _ D S2 _ ⟨Q,vc,vk,vb,xs,xb,cc,lk,none,0,0,st3,.inr ⟨his.symm,.inr (.inl ⟨by omega,rfl,by omega⟩)⟩⟩ (l2.trans l3) ⟨fun i hi hi2=>by omega,fun _=>rfl⟩
end
end Go.Proofs
end
section
namespace Go.Proofs
open Go Go.E Go.Sort Go.Proofs.Tryz
section
variable {k:aq} {d w w0:World} {Y:DX} {U Bf C pb po:Nat} {rt:TypeId} {rv:Value} {G:List Sp} {pF pL:Prop} {pK:Bytes→Prop} {T:Nat→Nat→Prop} {R:World→(Nat→Prop)→Int→Prop} {D S D0 S0:Nat→Prop} {Q:Nat→Nat→Prop} {vc vk vb:Value} {xs xb:List Value} {cc:Nat} {lk:List KR} {is:Option Addr} {ps q:Int} {l:Bytes}
theorem D4 {p j:Nat} (dc:DC d Y U Bf C pb po rt rv G pF pL pK T R) (st:DSt d w Y U Bf C rt rv T R D S Q vc vk vb xs xb cc lk (some ⟨pb,po,none⟩) ps q) (hp:p < (cr Y.π G).length) (h1:(cr Y.π G)[p]! ≤ j) (h2:j < iG Y.π G p) (hq:q=j) (h0:G[j]!.ks≠[])
    (hk:∀ w2 D2 S2 Q2 vc2 vk2 vb2 xs2 xb2 cc2 lk2 v,DSt d w2 Y U Bf C rt rv T R D2 S2 Q2 vc2 vk2 vb2 xs2 xb2 cc2 lk2 (iq pb po G (iG Y.π G p)) 1 (iG Y.π G p)→DLt w w2 Y U Bf T D S D2 S2→k v w2):aX prog 250 #[.pointer (some ⟨U,Y.a,none⟩)] k w:=by
 have ne:=dc.ne
 have he:=eA hp
 refine qn dc st hq (by omega) fun w2 D2 S2 Q2 vc2 vk2 vb2 xs2 xb2 cc2 lk2 is2 ps2 q2 st2 l2=>⟨fun h=>absurd h h0,fun b _ hjb hbN hj hn hq2 his hps _ => ?_⟩
 have hb:=I2 hp h1 h2 hjb hbN hj hn
 have e:(b:Int)+1=(iG Y.π G p:Nat):=by omega
 rw [e] at his hq2
 subst his hq2 hps
 exact hk _ _ _ _ _ _ _ _ _ _ _ _ st2 l2
theorem D8 {p j:Nat} (dc:DC d Y U Bf C pb po rt rv G pF pL pK T R) (st:DSt d w Y U Bf C rt rv T R D S Q vc vk vb xs xb cc lk (some ⟨pb,po,none⟩) ps q) (hp:p < (cr Y.π G).length) (h1:(cr Y.π G)[p]! ≤ j) (h2:j < iG Y.π G p) (hq:q=j) (h0:G[j]!.ks≠[])
    (hk:∀ w2 D2 S2 Q2 vc2 vk2 vb2 xs2 xb2 cc2 lk2 v,DSt d w2 Y U Bf C rt rv T R D2 S2 Q2 vc2 vk2 vb2 xs2 xb2 cc2 lk2 (iq pb po G (((cr Y.π G)[p]! : Int) - 1)) (-1) (((cr Y.π G)[p]! : Int) - 1)→DLt w w2 Y U Bf T D S D2 S2→k v w2):aX prog 251 #[.pointer (some ⟨U,Y.a,none⟩)] k w:=by
 have ne:=dc.ne
 have he:=eA hp
 refine qp dc st hq (by omega) fun w2 D2 S2 Q2 vc2 vk2 vb2 xs2 xb2 cc2 lk2 is2 ps2 q2 st2 l2=>⟨fun h=>absurd h h0,fun b _ hjb hj hn hq2 his hps _ => ?_⟩
 have hb:=I3 hp h1 h2 hjb hj hn
 rw [hb] at his hq2
 subst his hq2 hps
 exact hk _ _ _ _ _ _ _ _ _ _ _ _ st2 l2
theorem yA {p:Int} (hl:DLt w0 w Y U Bf T D0 S0 D S) (st:DSt d w Y U Bf C rt rv T R D S Q vc vk vb xs xb cc lk is 0 q) (his:is=iq pb po G q) (hz:p=(cr Y.π G).length∧q=G.length∨p = -1∧q = -1)
    (hk:G7 d Y U Bf C pb po rt rv G T R w0 D0 S0 p k):k (.pointer none) w :=
 hk _ D S _ ⟨Q,vc,vk,vb,xs,xb,cc,lk,is,0,q,st,.inr ⟨his,.inr (hz.elim (fun h => .inl ⟨h.1,rfl,h.2⟩) fun h => .inr ⟨h.1,rfl,h.2⟩)⟩⟩ hl ⟨fun i hi hi2=>by omega,fun _=>rfl⟩
theorem jX (h:0≤q∧q < G.length):iq pb po G q=some ⟨pb,po,none⟩:=if_pos h
theorem gG (h:¬ (0≤q∧q < G.length)):iq pb po G q=none:=if_neg h
theorem Bn:((0:Int) == -1)=false:=rfl
theorem yk:((1:Int) == -1)=false:=rfl
theorem n10:((1:Int) == 0)=false:=rfl
theorem uf (dc:DC d Y U Bf C pb po rt rv G pF pL pK T R) (st:DSt d w Y U Bf C rt rv T R D S Q vc vk vb xs xb cc lk is ps q) {w2:World} {S2:Nat→Prop} {q2:Int} (hR:R w2 S2 q2) (hs:∀ b,S2 b→S b∨w.heap.size≤b) (hk:Keep (fun b x=>T b x∨S b) w w2) :
    w2.cell? ⟨U,Y.a+4,none⟩=some (.pointer is)∧w2.cell? ⟨U,Y.a+5,none⟩=some (.int .i8 ps)∧w2.cell? ⟨U,Y.a+3,none⟩=some (.iface rt rv)∧(∀ x,w2.frozen? ⟨U,x,none⟩=false) ∧
    ∀ is2,iq pb po G q2=is2→DSt d (w2.setCell ⟨U,Y.a+4,none⟩ (.pointer is2)) Y U Bf C rt rv T R D S2 Q vc vk vb xs xb cc lk is2 ps q2∧DLt w (w2.setCell ⟨U,Y.a+4,none⟩ (.pointer is2)) Y U Bf T D S D S2:=by
 obtain ⟨p4,r4,_⟩:=dc.below st.R st.p st.r hk hs
 obtain ⟨st2,l2,_,_⟩:=FZ dc st hR hs hk
 exact ⟨p4.d85,p4.d86,p4.d84,p4.fU,fun is2 e=>by subst e; exact ⟨st2,l2⟩⟩
theorem Bp {p:Int} (dc:DC d Y U Bf C pb po rt rv G pF pL pK T R) (h:De d Y U Bf C pb po rt rv G T R w D S p) (hp : -1≤p) (hp2:p < (cr Y.π G).length) (hk:G7 d Y U Bf C pb po rt rv G T R w D S (p+1) k):aX prog 245 #[.pointer (some ⟨U,Y.a,none⟩)] k w:=by
 have ne:=dc.ne
 obtain ⟨Q,vc,vk,vb,xs,xb,cc,lk,is,ps,q,st,hd⟩:=h
 have q84:=st.p.d84
 have q85:=st.p.d85
 have q86:=st.p.d86
 have fU:=st.p.fU
 refine ai [.tmp 2] func245 ?_
 rcases hd with h2 | ⟨his,⟨i,rfl,hi,hd⟩ | ⟨h3,_,_⟩ | ⟨h3,hps,hq⟩⟩
 ·omega
 ·have hE:=eA hi
  rcases hd with ⟨h0,hps,hq⟩ | ⟨h0,hps,hq⟩ | ⟨h0,hps,hq⟩
  ·subst hps hq
   have he:=qA hi h0
   rw [jX ⟨by omega,by omega⟩] at his
   subst his
   simp (disch:=first | exact dZ | fail) only [go_sem,Bn,yk,n10,q86,q85,Option.isNone_some,q84]
   refine dc.f.next st.R (by omega) (by omega) fun w2 S2 hR2 hS2 k2 => ?_
   obtain ⟨q85',q86',_,fU2,f2⟩:=uf dc st hR2 hS2 k2
   rw [show iP pb po G (((cr Y.π G)[i]! : Nat)+1) = .pointer (iq pb po G (((cr Y.π G)[i]! : Nat)+1)) from dR ..]
   by_cases hl:i+1 < (cr Y.π G).length
   ·have e:=gz hl
    have hl2:=eA hl
    have his:iq pb po G (((cr Y.π G)[i]! : Nat)+1)=some ⟨pb,po,none⟩:=jX ⟨by omega,by omega⟩
    obtain ⟨st2,l2⟩:=f2 _ his
    rw [his]
    simp (disch:=first | exact dZ | fail) only [go_sem,q85',fU2,Option.isNone_some]
    refine pH (p:=i+1) dc l2 st2 hl (by omega) fun w3 D3 S3 v r1 r2 r3 => ?_
    refine al ?_
    exact hk w3 D3 S3 v r1 r2 r3
   ·have e:=lz hl
    have his:iq pb po G (((cr Y.π G)[i]! : Nat)+1)=none:=gG (by omega)
    obtain ⟨st2,l2⟩:=f2 _ his
    rw [his]
    simp (disch:=first | exact dZ | fail) only [go_sem,q85',fU2,Option.isNone_none]
    exact yA l2 st2 his.symm (.inl ⟨by omega,by omega⟩) hk
  ·subst hps hq
   by_cases hl:i+1 < (cr Y.π G).length
   ·have e:=gz hl
    have hl2:=eA hl
    rw [jX ⟨by omega,by omega⟩] at his
    subst his
    simp (disch:=first | exact dZ | fail) only [go_sem,Bn,yk,n10,q86,q85,Option.isNone_some]
    refine pH (p:=i+1) dc (DLt.refl ..) st hl (by omega) fun w3 D3 S3 v r1 r2 r3 => ?_
    refine al ?_
    exact hk w3 D3 S3 v r1 r2 r3
   ·have e:=lz hl
    rw [gG (by omega)] at his
    subst his
    simp (disch:=first | exact dZ | fail) only [go_sem,Bn,yk,n10,q86,q85,Option.isNone_none,fU]
    obtain ⟨st3,l3⟩:=D1 dc st 0
    exact yA l3 st3 (gG (by omega)).symm (.inl ⟨by omega,by omega⟩) hk
  ·subst hps hq
   refine gH @Bn @yk @n10 @q86 @q84 ?_
   refine dc.f.next st.R (by omega) (by omega) fun w2 S2 hR2 hS2 k2 => ?_
   obtain ⟨q85',q86',_,fU2,f2⟩:=uf dc st hR2 hS2 k2
   rw [show iP pb po G (((cr Y.π G)[i]! : Int) - 1+1) = .pointer (iq pb po G (((cr Y.π G)[i]! : Int) - 1+1)) from dR ..]
   have his2:iq pb po G (((cr Y.π G)[i]! : Int) - 1+1)=some ⟨pb,po,none⟩:=jX ⟨by omega,by omega⟩
   obtain ⟨st2,l2⟩:=f2 _ his2
   rw [his2]
   simp (disch:=first | exact dZ | fail) only [go_sem,q85',fU2,Option.isNone_some]
   refine D4 (p:=i) (j:=(cr Y.π G)[i]!) dc st2 hi (by omega) (by omega) (by omega) h0 fun w3 D3 S3 Q3 vc3 vk3 vb3 xs3 xb3 cc3 lk3 v st3 l3 => ?_
   have r85:=st3.p.d85
   have r86:=st3.p.d86
   have rU:=st3.p.fU
   by_cases hl:i+1 < (cr Y.π G).length
   ·have e:=gz hl
    have hl2:=eA hl
    rw [jX ⟨by omega,by omega⟩] at st3 r85
    simp (disch:=first | exact dZ | fail) only [go_sem,r85,Option.isNone_some]
    refine pH (p:=i+1) dc (l2.trans l3) st3 hl (by omega) fun w3 D3 S3 v r1 r2 r3 => ?_
    refine al ?_
    exact hk w3 D3 S3 v r1 r2 r3
   ·have e:=lz hl
    rw [gG (by omega)] at st3 r85
    simp (disch:=first | exact dZ | fail) only [go_sem,r86,r85,Option.isNone_none,rU]
    obtain ⟨st4,l4⟩:=D1 dc st3 0
    exact yA (l2.trans (l3.trans l4)) st4 (gG (by omega)).symm (.inl ⟨by omega,by omega⟩) hk
 ·omega
 ·subst hps hq h3
  rw [gG (by omega)] at his
  subst his
  simp (disch:=first | exact dZ | fail) only [go_sem,Bn,yk,n10,q86,q85,Option.isNone_none,q84]
  refine dc.f.next st.R (by omega) (by omega) fun w2 S2 hR2 hS2 k2 => ?_
  obtain ⟨q85',q86',_,fU2,f2⟩:=uf dc st hR2 hS2 k2
  rw [show iP pb po G (-1+1) = .pointer (iq pb po G (-1+1)) from dR ..]
  by_cases h0:0 < G.length
  ·obtain ⟨e1,e2⟩:=jU (π:=Y.π) h0
   have his:iq pb po G (-1+1)=some ⟨pb,po,none⟩:=jX ⟨by omega,by omega⟩
   obtain ⟨st2,l2⟩:=f2 _ his
   rw [his]
   simp (disch:=first | exact dZ | fail) only [go_sem,q85',fU2,Option.isNone_some]
   refine pH (p:=0) dc l2 st2 e1 (by omega) fun w3 D3 S3 v r1 r2 r3 => ?_
   refine al ?_
   exact hk w3 D3 S3 v r1 r2 r3
  ·have his:iq pb po G (-1+1)=none:=gG (by omega)
   have hz:(cr Y.π G).length=0:=sH (π:=Y.π) (by omega)
   obtain ⟨st2,l2⟩:=f2 _ his
   rw [his]
   simp (disch:=first | exact dZ | fail) only [go_sem,q85',fU2,Option.isNone_none]
   exact yA l2 st2 his.symm (.inl ⟨by omega,by omega⟩) hk
end
end Go.Proofs
end
