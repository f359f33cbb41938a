/- Parts of the proof: Dj, Dk, De, Dl, Dm, Pa, Od. -/
import Derived.Test.YtlmoafgebiffaaaGreatDoorV12
import Derived.Test.YtlmoafgebiffaaaGreatDoorV13
set_option linter.all false
set_option maxRecDepth 10000
section
namespace Go.E
open Go Go.Sort Go.Proofs Go.Proofs.Tryz
structure DSt (d w:World) (Y:DX) (U Bf C:Nat) (rt:TypeId) (rv:Value) (T:Nat→Nat→Prop) (R:World→(Nat→Prop)→Int→Prop) (D S:Nat→Prop) (Q:Nat→Nat→Prop) (vc vk vb:Value) (xs xb:List Value) (cc:Nat) (lk:List KR) (is:Option Addr) (ps q:Int):Prop where
 R:R w S q
 p:DP w Y U Bf C rt rv is ps
 r:DR d w Y U Bf T D S Q vc vk vb xs xb cc lk
def eM (Y:DX) (U Bf:Nat) (T:Nat→Nat→Prop) (D S:Nat→Prop):Nat→Nat→Prop:=fun b x=>T b x∨S b∨dM Y U Bf D b x
structure DLt (w w2:World) (Y:DX) (U Bf:Nat) (T:Nat→Nat→Prop) (D S D2 S2:Nat→Prop):Prop where
 d:∀ b,D2 b→D b∨w.heap.size≤b
 s:∀ b,S2 b→S b∨w.heap.size≤b
 k:Keep (eM Y U Bf T D S) w w2
theorem DLt.refl (w:World) (Y:DX) (U Bf:Nat) (T:Nat→Nat→Prop) (D S:Nat→Prop):DLt w w Y U Bf T D S D S:=⟨fun _ h => .inl h,fun _ h => .inl h,Keep.refl _ w⟩
theorem DLt.trans {w w2 w3:World} {Y:DX} {U Bf:Nat} {T:Nat→Nat→Prop} {D S D2 S2 D3 S3:Nat→Prop} (h:DLt w w2 Y U Bf T D S D2 S2) (h2:DLt w2 w3 Y U Bf T D2 S2 D3 S3):DLt w w3 Y U Bf T D S D3 S3 where
 d b hb:=by
  rcases h2.d b hb with h' | h'
  ·exact h.d b h'
  ·exact .inr (ah h.k.size h')
 s b hb:=by
  rcases h2.s b hb with h' | h'
  ·exact h.s b h'
  ·exact .inr (ah h.k.size h')
 k:=h.k.tr h2.k fun b x hb hm=>by
  rcases hm with hm | hm | hm | hm | hm
  ·exact .inl hm
  ·rcases h.s b hm with h' | h'
   ·exact .inr (.inl h')
   ·omega
  ·exact .inr (.inr (.inl hm))
  ·exact .inr (.inr (.inr (.inl hm)))
  ·rcases h.d b hm with h' | h'
   ·exact .inr (.inr (.inr (.inr h')))
   ·omega
end Go.E
namespace Go.Proofs
open Go Go.E Go.Sort Go.Proofs.Tryz
section
variable {k:aq} {d w:World} {Y:DX} {U Bf C pb po:Nat} {rt:TypeId} {rv:Value} {G:List Sp} {pF pL:Prop} {pK:Bytes→Prop} {T:Nat→Nat→Prop} {R:World→(Nat→Prop)→Int→Prop} {D S:Nat→Prop} {Q:Nat→Nat→Prop} {vc vk vb:Value} {xs xb:List Value} {cc:Nat} {lk:List KR} {is:Option Addr} {ps q:Int} {l:Bytes}
theorem Hm {j m:Nat} (hjm:j≤m) (h:∀ i,j≤i→i < m→iy Y.π G i):G[m]!.ks.map Y.π=G[j]!.ks.map Y.π:=by
 induction m with
 | zero =>
  obtain rfl:j=0:=by omega
  rfl
 | succ m ih =>
  rcases eE hjm with h1 | h1
  ·rw [← (h m (by omega) (by omega)).2.2.2]
   exact ih (by omega) fun i h2 h3=>h i h2 (by omega)
  ·subst h1; rfl
theorem setC {x:Nat} (p:DP w Y U Bf C rt rv is ps) (hB:Bf < w.heap.size) (hx:Y.a+6≤x) (hx2:x≤Y.a+9) (v:Value):DP (w.setCell ⟨U,x,none⟩ v) Y U Bf C rt rv is ps:=by
 have kk:Keep (fun b y=>b=U∧y=x) w (w.setCell ⟨U,x,none⟩ v):=bY ⟨rfl,rfl⟩
 have s:∀ {y u},y≠x→w.cell? ⟨U,y,none⟩=some u→(w.setCell ⟨U,x,none⟩ v).cell? ⟨U,y,none⟩=some u:=fun hy hv=>kk.some hv fun h=>hy h.2
 obtain ⟨c,f,e,e2⟩:=p.d92
 exact ⟨s (by omega) p.d81,s (by omega) p.d82,s (by omega) p.d83,s (by omega) p.d84,s (by omega) p.d85,s (by omega) p.d86,eX p.d87,eX p.d88,eX p.d89,eX p.d90,s (by omega) p.d91,⟨c,f,s (by omega) e,e2⟩,fun y=>by rw [kk.frozen U y (aC p.d81)]; exact p.fU y,fun y=>by rw [kk.frozen Bf y hB]; exact p.fB y⟩
def ml (pb po:Nat) (G:List Sp) (q:Int):Option Addr:=if 0≤q∧q < G.length then some ⟨pb,po,none⟩ else none
set_option maxHeartbeats 4000000 in
theorem qP {j:Nat} (dc:DC d Y U Bf C pb po rt rv G pF pL pK T R) (st:DSt d w Y U Bf C rt rv T R D S Q vc vk vb xs xb cc lk (some ⟨pb,po,none⟩) ps q) (hq:q=j) (hj:j < G.length)
    (hk:∀ w2 D2 S2 Q2 vc2 vk2 vb2 xs2 xb2 cc2 lk2 is2 ps2 q2,DSt d w2 Y U Bf C rt rv T R D2 S2 Q2 vc2 vk2 vb2 xs2 xb2 cc2 lk2 is2 ps2 q2→DLt w w2 Y U Bf T D S D2 S2 →
     (G[j]!.ks=[]→q2=j→is2=some ⟨pb,po,none⟩→ps2=0→k (.pointer (some ⟨pb,po,none⟩)) w2) ∧
     (∀ b:Nat,G[j]!.ks≠[]→j≤b→b < G.length→(∀ i,j≤i→i < b→iy Y.π G i)→¬ iy Y.π G b→q2=b+1→is2=ml pb po G (b+1)→ps2=1→fE Y.ord w2 U (Y.a+6) ⟨G[j]!.s,G[b]!.e,G[j]!.ks⟩→k (.pointer (some ⟨U,Y.a+6,none⟩)) w2)) :
    ai prog 231 #[.pointer (some ⟨U,Y.a,none⟩)] k w:=by
 have ne:=dc.ne
 obtain ⟨hR,p,r⟩:=st
 subst hq
 have q81:=p.d81
 have q85:=p.d85
 have hB:=aC r.ch
 have fU:=p.fU
 obtain ⟨_,_,⟨kv,k1,k2⟩,_⟩:=(dc.f.cur hR rfl hj).o (dc.f.inc hR)
 obtain ⟨kva,kvc,rfl⟩:=k2.form
 refine al [.tmp 2] func231 ?_
 refine dO @q81 @q85 ?_
 refine mS k1 ?_
 by_cases h0:G[j]!.ks.length=0
 ·rw [aV h0]
  have q86:=p.d86
  refine eO @q81 @q85 @q86 @fU ?_
  obtain ⟨hR2,r2,kk⟩:=dc.own hR r (x:=Y.a+5) (by omega) (by omega) (.int .i8 0)
  exact (hk _ D S Q _ _ _ _ _ _ _ _ 0 _ ⟨hR2,p.set86 hB 0,r2⟩ ⟨fun _ h => .inl h,fun _ h => .inl h,kk.mono fun b x _ h => .inr (.inr (.inl ⟨h.1,by omega,by omega⟩))⟩).1 (ak.1 h0) rfl rfl rfl
 ·rw [aG h0]
  have hks:G[j]!.ks≠[]:=fun h=>h0 (by rw [h]; rfl)
  refine bA ?_
  refine qm dc hR rfl hj p r fun w2 vc2 vk2 vb2 xs2 xb2 cc2 lk2 D2 Q2 sv ev hR2 p2 r2 q87 pcs q88 pce q89 q90 m2 pk2 hD2 k02 => ?_
  have cu2:Cu w2 Y U Q2 vk2 vb2 xb2 lk2 G[j]!.s G[j]!.e G[j]!.ks:=⟨⟨_,q87,.inl pcs⟩,⟨_,q88,.inl pce⟩,q89,q90,m2,pk2⟩
  have l2:DLt w w2 Y U Bf T D S D2 S:=⟨hD2,fun _ h => .inl h,k02.mono fun b x _ h => .inr (.inr h)⟩
  have hB2:=aC r2.ch
  have q86:=p2.d86
  have fU2:=p2.fU
  have q84:=p2.d84
  refine dQ @q86 @fU2 @q84 ?_
  obtain ⟨hR3,r3,k23⟩:=dc.own hR2 r2 (x:=Y.a+5) (by omega) (by omega) (.int .i8 1)
  have p3:=p2.set86 hB2 1
  have cu3:=cu2.keep k23 (fun b x hq _ h=>(r2.dD b (r2.qD b x hq)).2.1 h.1) fun x _ _ h=>by omega
  have l3:DLt w (w2.setCell ⟨U,Y.a+5,none⟩ (.int .i8 1)) Y U Bf T D S D2 S:=l2.trans ⟨fun _ h => .inl h,fun _ h => .inl h,k23.mono fun b x _ h => .inr (.inr (.inl ⟨h.1,by omega,by omega⟩))⟩
  refine dc.f.next hR3 (by omega) (by omega) fun w4 S4 hR4 hS4 k34 => ?_
  obtain ⟨p4,r4,cuf⟩:=dc.below hR3 p3 r3 k34 hS4
  have cu4:=cuf cu3
  have l4:=l3.trans ⟨fun _ h => .inl h,hS4,k34.mono fun b x _ h=>h.elim .inl fun h => .inr (.inl h)⟩
  rw [show l8 pb po G ((j:Int)+1) = .pointer (ml pb po G (j+1)) from gP ..]
  have q85:=p4.d85
  have fU4:=p4.fU
  refine dO @q85 @fU4 ?_
  obtain ⟨hR5,r5,k45⟩:=dc.own hR4 r4 (x:=Y.a+4) (by omega) (by omega) (.pointer (ml pb po G (j+1)))
  have p5:=p4.set85 (aC r4.ch) (ml pb po G (j+1))
  have cu5:=cu4.keep k45 (fun b x hq _ h=>(r4.dD b (r4.qD b x hq)).2.1 h.1) fun x _ _ h=>by omega
  have l5:=l4.trans ⟨fun _ h => .inl h,fun _ h => .inl h,k45.mono fun b x _ h => .inr (.inr (.inl ⟨h.1,by omega,by omega⟩))⟩
  refine jf (fun _:Nat=>[(0,.pointer (some ⟨U,Y.a,none⟩))]) (fun m w'=>(∃ D' S' Q' vc' vk' vb' xs' xb' cc' lk',DSt d w' Y U Bf C rt rv T R D' S' Q' vc' vk' vb' xs' xb' cc' lk' (ml pb po G (m+1)) 1 (m+1)∧DLt w w' Y U Bf T D S D' S'∧Cu w' Y U Q' vk' vb' xb' lk' G[j]!.s G[m]!.e G[j]!.ks∧∃ v,w'.cell? ⟨U,Y.a+6,none⟩=some v∧Pc w' Q' v G[j]!.s)∧j≤m∧m < G.length∧(∀ i,j≤i→i < m→iy Y.π G i)∧¬ iy Y.π G m) (by kernel_rfl) (fun K hK => ?_) ?_
  ·refine bZ (fun _:Nat=>[(0,.pointer (some ⟨U,Y.a,none⟩))]) (fun m w'=>(∃ D' S' Q' vc' vk' vb' xs' xb' cc' lk',DSt d w' Y U Bf C rt rv T R D' S' Q' vc' vk' vb' xs' xb' cc' lk' (ml pb po G (m+1)) 1 (m+1)∧DLt w w' Y U Bf T D S D' S'∧Cu w' Y U Q' vk' vb' xb' lk' G[j]!.s G[m]!.e G[j]!.ks∧∃ v,w'.cell? ⟨U,Y.a+6,none⟩=some v∧Pc w' Q' v G[j]!.s)∧j≤m∧m < G.length∧(∀ i,j≤i→i < m→iy Y.π G i)) (fun m _=>G.length - m) j (by kernel_rfl) ?_
     ⟨⟨D2,S4,Q2,vc2,vk2,vb2,xs2,xb2,cc2,lk2,⟨hR5,p5,r5⟩,l5,cu5,sv,k45.some (k34.some (k23.some q87 (by omega)) fun h=>h.elim (dc.t (Y.a+6) (by omega) (by omega)) (dc.s hR3).1) (by omega),((pcs.keep k23 fun b x hq _ h=>(r2.dD b (r2.qD b x hq)).2.1 h.1).keep k34 fun b x hq _ h=>h.elim ((r3.dD b (r3.qD b x hq)).2.2.2.2.1 x) (r3.dD b (r3.qD b x hq)).2.2.2.1).keep k45 fun b x hq _ h=>(r4.dD b (r4.qD b x hq)).2.1 h.1⟩,aF _,hj,fun i h1 h2=>by omega⟩ ?_
   ·exact bU
   clear hR3 r3 p3 cu3 l3 hR4 p4 r4 cu4 l4 hR5 r5 p5 cu5 l5 q81 q84 q85 q86
   rintro K2 e m w6 ⟨⟨D6,S6,Q6,vc6,vk6,vb6,xs6,xb6,cc6,lk6,⟨hR6,p6,r6⟩,l6,cu6,v87,h87,pc87⟩,hjm,hmN,hjn⟩ hK2
   have q81:=p6.d81
   have q83:=p6.d83
   have q85:=p6.d85
   by_cases hm:m+1 < G.length
   ·have his:ml pb po G ((m:Int)+1)=some ⟨pb,po,none⟩:=if_pos ⟨by omega,by omega⟩
    rw [his] at q85 p6
    have hspn:=dc.f.cur hR6 (show (m:Int)+1=((m+1:Nat):Int) by omega) hm
    have hso:=hspn.o (dc.f.inc hR6)
    have hsc:=cu6.span r6
    obtain ⟨⟨sv6,s1,s2⟩,⟨ev6,e1,e2⟩,⟨kv6,k1,k2⟩,o6⟩:=hso
    obtain ⟨⟨cs,cs1,cs2⟩,⟨ce,ce1,ce2⟩,⟨ck,ck1,ck2⟩,co6⟩:=hsc
    obtain ⟨sa,sc,rfl⟩:=aY s2
    obtain ⟨ea,ec,rfl⟩:=aY e2
    obtain ⟨cea,cec,rfl⟩:=aY ce2
    simp (disch:=first | exact dZ | fail) only [go_sem,q85,Option.isSome_some]
    refine bF (sq [0,1,2] (.read 3 (sq [4,5,6,7] (.read 8 (sq [9,10,11] (.read 12 (sq [13,14] (.read 15 (.eff 16 [] (sq [17] .done)))))))))) ?_
    refine hJ @q81 @q83 @q85 @s1 @ce1 ?_
    refine mN (by exact ce2) (by exact s2) ?_
    by_cases hes:G[m]!.e=G[m+1]!.s
    ·rw [aV hes]
     refine bA ?_
     refine bF (sq [0,1,2,3] (.read 4 (sq [5,6,7] (.eff 8 [] (sq [9] .done))))) ?_
     refine bu @q85 ?_
     have hmd:G[m]!.ks.map Y.π=G[j]!.ks.map Y.π:=Hm hjm hjn
     have hmne:G[m]!.ks≠[]:=fun h=>by rw [h] at hmd; exact hks (by simpa using hmd.symm)
     refine r8 (w:=w6.drew.drew) p6.drew.drew (x:=G[m+1]!) (y:=⟨G[j]!.s,G[m]!.e,G[j]!.ks⟩) (by exact (hspn.o (dc.f.inc hR6))) (by exact (cu6.span r6)) (fun h hq=>DC.meq dc hR6 (hspn.o (dc.f.inc hR6)) (cu6.span r6) (dc.len (m+1) hm).2.2.1 h hq) fun w7 x7 => ?_
     have x7:bp w6 w7:=(bp.refl w6).drew'.drew'.trans x7
     have hR7:R w7 S6 ((m:Int)+1):=dc.f.keep hR6 x7 fun _ _ _ h=>h.elim
     have p7:=p6.keep (aC r6.ch) x7 fun _ _ _ h=>h
     have r7:=r6.keep x7 (fun _ _ _ h=>h) fun _ _ _ h=>h
     have cu7:=cu6.keep x7 (fun _ _ _ _ h=>h) fun _ _ _ h=>h
     have pc87:=pc87.keep x7 fun _ _ _ _ h=>h
     have h87:=x7.cell h87
     have l7:DLt w w7 Y U Bf T D S D6 S6:=l6.trans ⟨fun _ h => .inl h,fun _ h => .inl h,x7.keep⟩
     by_cases hjo:G[m+1]!.ks≠[]∧G[m+1]!.ks.map Y.π=G[j]!.ks.map Y.π
     ·rw [aV hjo]
      have hjm1:iy Y.π G m:=⟨hm,hes,hmne,by rw [hmd,hjo.2]⟩
      have q81:=p7.d81
      have q85:=p7.d85
      have b8:=r7.bh
      have fB7:=p7.fB
      have e1:=x7.cell e1
      have e2:=e2.keep x7 fun _ _ _ _ _ _ h=>h
      obtain ⟨ba,bc,eb,hbc,_⟩:=bP r7.bo
      subst eb
      have z0:(0:Int).toNat=0:=rfl
      have zb:(0:Int)≤bc:=by omega
      have hU7:=aC q81
      have hB7:=aC b8
      have hel:=(dc.len (m+1) hm).2.1
      refine bA ?_
      refine bF (sq [0,1,2] (.read 3 (sq [4,5,6] (.read 7 (sq [8,9] (.read 10 (sq [11,12,13,14] (.read 15 (sq [16,17] (.read 18 (.eff 19 [3] (sq [20,21] (.eff 22 [] .done))))))))))))) ?_
      simp (disch:=first | exact dZ | fail) only [go_sem,q81,q85,b8,e1,pG Tryz.es56,z0,zb]
      simp only [me]
      refine pO (m:=G[m+1]!.e.length) (news:=eF G[m+1]!.e) rw56 (eQ r7.bo).drew (by rw [cP,Nat.mul_one]) (ie (by exact e2)) (ig _) (by omega) fun v8 w8 o8 k8 n8 _ => ?_
      obtain ⟨a8,cap8,e8',_,_⟩:=bP o8
      subst e8'
      have k8:Keep (fun b _=>(Value.slice ba xb6.length bc).ownBlock=some b) w7 w8:=(Keep.refl _ w7).drew.trans (k8 _ fun b o hb _=>by rw [cS ba xb6.length 0]; exact hb)
      have n78:cZ w7 (.slice ba xb6.length bc) (.slice a8 (0+G[m+1]!.e.length) cap8):=fun g' hg'=>by
       rcases n8 with h | ⟨g2,h,h',_⟩
       ·exact .inl (by rw [← hg',h]; exact cS _ _ _ _)
       ·rw [h] at hg'
        simp only [aP] at hg'
        subst hg'
        exact .inr h'
      rw [List.nil_append,Nat.zero_add,← cP] at o8
      rw [Nat.zero_add,← cP] at n78
      have nb:∀ (b _x:Nat),(Value.slice ba xb6.length bc).ownBlock=some b→b≠U∧b≠Bf:=fun b x h=>⟨(r7.dD b (r7.bD b h)).2.1,(r7.dD b (r7.bD b h)).2.2.1⟩
      obtain ⟨r9,k79⟩:=r7.bset o8 k8 n78 hU7 (dc.f.inc hR7) (fun g hg=>(dc.f.outS hR7 g hg).2) (fun b x h=>dc.tl hR7 h)
      have q81':=k8.some q81 fun h=>(nb _ 0 h).1 rfl
      have b8':=k8.some b8 fun h=>(nb _ 0 h).2 rfl
      have fB8:∀ x,w8.frozen? ⟨Bf,x,none⟩=false:=fun x=>by rw [k8.frozen Bf x hB7]; exact fB7 x
      have fU8:∀ x,w8.frozen? ⟨U,x,none⟩=false:=fun x=>by rw [k8.frozen U x hU7]; exact p7.fU x
      obtain ⟨v88,h88,_⟩:=cu7.c88
      have h88':=k8.some h88 fun h=>(nb _ 0 h).1 rfl
      rw [Nat.zero_add,← cP]
      refine hJ @q81' @b8' @fB8 @fU8 @h88' ?_
      obtain ⟨w9,hw9⟩:∃ w9,w9=w8.setCell ⟨Bf,Y.e+2,none⟩ (.slice a8 (eF G[m+1]!.e).length cap8):=⟨_,rfl⟩
      rw [← hw9] at r9 k79 ⊢
      have sp7:∀ {b x},((b=Bf∧x=Y.e+2∨(Value.slice ba xb6.length bc).ownBlock=some b)∧¬ Q6 b x)→dM Y U Bf D6 b x:=by
       rintro b x ⟨⟨h1,h2⟩ | h,_⟩
       ·exact .inr (.inl ⟨h1,by omega,by omega⟩)
       ·exact .inr (.inr (r7.bD b h))
      have hR9:R w9 S6 ((m:Int)+1):=dc.f.keep hR7 k79 fun b x _ h=>dc.safe hR7 r7.dD' b x (sp7 h)
      have nU9:∀ x,¬ ((U=Bf∧x=Y.e+2∨(Value.slice ba xb6.length bc).ownBlock=some U)∧¬ Q6 U x):=by
       rintro x ⟨⟨h,_⟩ | h,_⟩
       ·exact dc.ne h.symm
       ·exact (nb U 0 h).1 rfl
      have p9:=p7.keep hB7 k79 fun x _ _=>nU9 x
      have pcs9:=pc87.keep k79 fun b x hq _ hh=>hh.2 hq
      have h879:=k79.some h87 (nU9 _)
      have h889:=k79.some h88 (nU9 _)
      have h899:=k79.some cu7.c89 (nU9 _)
      have h909:=k79.some cu7.c90 (nU9 _)
      have pk9:∀ x ∈ lk6,PK w9 Q6 x:=fun x hx=>PK.keep (cu7.pk x hx) k79 fun b x hq _ hh=>hh.2 hq
      obtain ⟨hR10,r10,k910⟩:=dc.own hR9 r9 (x:=Y.a+7) (by omega) (by omega) (.slice a8 (eF G[m+1]!.e).length cap8)
      obtain ⟨w10,hw10⟩:∃ w10,w10=w9.setCell ⟨U,Y.a+7,none⟩ (.slice a8 (eF G[m+1]!.e).length cap8):=⟨_,rfl⟩
      have p10:DP w10 Y U Bf C rt rv (some ⟨pb,po,none⟩) 1:=by rw [hw10]; exact setC p9 (aC r9.ch) (by omega) (by omega) _
      rw [← hw10] at hR10 r10 k910 ⊢
      have cu10:Cu w10 Y U Q6 vk6 (.slice a8 (eF G[m+1]!.e).length cap8) (eF G[m+1]!.e) lk6 G[j]!.s G[m+1]!.e G[j]!.ks:=by
       refine ⟨⟨v87,k910.some h879 (by omega),.inl (pcs9.keep k910 fun b x hq _ h=>(r9.dD b (r9.qD b x hq)).2.1 h.1)⟩,⟨_,?_,.inr ⟨rfl,rfl⟩⟩,k910.some h899 (by omega),k910.some h909 (by omega),cu7.km,fun x hx=>PK.keep (pk9 x hx) k910 fun b x hq _ h=>(r9.dD b (r9.qD b x hq)).2.1 h.1⟩
       rw [hw10,cJ,h889]; rfl
      have pcs10:=pcs9.keep k910 fun b x hq _ h=>(r9.dD b (r9.qD b x hq)).2.1 h.1
      have h8710:=k910.some h879 (by omega)
      have l10:=(l7.trans (⟨fun b h => ?_,fun _ h => .inl h,k79.mono fun b x _ h => .inr (.inr (sp7 h))⟩:DLt w7 w9 Y U Bf T D6 S6 (fun b=>D6 b∨(Value.slice a8 (eF G[m+1]!.e).length cap8).ownBlock=some b) S6)).trans (⟨fun _ h => .inl h,fun _ h => .inl h,k910.mono fun b x _ h => .inr (.inr (.inl ⟨h.1,by omega,by omega⟩))⟩:DLt w9 w10 Y U Bf T _ S6 (fun b=>D6 b∨(Value.slice a8 (eF G[m+1]!.e).length cap8).ownBlock=some b) S6)
      rotate_left 1
      ·rcases h with h | h
       ·exact .inl h
       ·rcases n78 b h with h | h
        ·exact .inl (r7.bD b h)
        ·exact .inr h
      have q81:=p10.d81
      have q85:=p10.d85
      obtain ⟨rc,rf,q92,rfl,rfl⟩:=p10.d92
      have c7:=r10.kh
      obtain ⟨vka,vkc,e5,_,_⟩:=bP r10.ko
      rw [e5] at c7
      have fB10:=p10.fB
      obtain ⟨_,_,⟨kv10,kk1,kk2⟩,_⟩:=(dc.f.cur hR10 (show (m:Int)+1=((m+1:Nat):Int) by omega) hm).o (dc.f.inc hR10)
      obtain ⟨kk3,kk4,rfl⟩:=kk2.form
      refine bF (sq [0,1,2] (.read 3 (sq [4,5,6] (.read 7 (sq [8,9,10] (.read 11 (sq [12,13] (.read 14 (sq [15,16,17] (.read 18 (sq [19,20] (.read 21 (.eff 22 [3] (sq [23,24] (.eff 25 [] .done))))))))))))))) ?_
      refine hJ @q81 @q85 @q92 @c7 @kk1 ?_
      refine xX ?_
      have q84:=p10.d84
      have hU10:=aC q81
      have hB10:=aC c7
      have d10:∀ {x v},w10.cell? ⟨U,x,none⟩=some v→(w10.setCell ⟨Bf,Y.e+1,none⟩ (.slice vka lk6.length vkc)).drew.cell? ⟨U,x,none⟩=some v:=fun h=>by rw [gw c7]; exact h
      refine vJ @q81 @q85 @q92 @c7 @kk1 @fB10 @q84 ?_
      rw [gw c7]
      have hR11:R w10.drew S6 ((m:Int)+1):=dc.f.keep hR10 (M:=fun _ _=>False) (bp.refl w10).drew' fun _ _ _ h=>h.elim
      refine dc.f.next hR11 (by omega) (by omega) fun w12 S12 hR12 hS12 k12 => ?_
      obtain ⟨p12,r12,cuf12⟩:=dc.below hR11 p10.drew r10.drew k12 hS12
      have cu12:=cuf12 (cu10.keep (M:=fun _ _=>False) (bp.refl w10).drew' (fun _ _ _ _ h=>h) fun _ _ _ h=>h)
      have k12':Keep (fun b x=>T b x∨S6 b) w10 w12:=(Keep.refl _ w10).drew.trans k12
      have hS12':∀ b,S12 b→S6 b∨w10.heap.size≤b:=hS12
      have l12:=l10.trans ⟨fun _ h => .inl h,hS12',k12'.mono fun b x _ h=>h.elim .inl fun h => .inr (.inl h)⟩
      have pcs12:=pcs10.keep k12' fun b x hq _ h=>h.elim ((r10.dD b (r10.qD b x hq)).2.2.2.2.1 x) (r10.dD b (r10.qD b x hq)).2.2.2.1
      have h8712:=k12'.some h8710 fun h=>h.elim (dc.t (Y.a+6) (by omega) (by omega)) (dc.s hR10).1
      rw [show l8 pb po G ((m:Int)+1+1) = .pointer (ml pb po G (m+1+1)) from gP ..]
      have q85:=p12.d85
      have fU12:=p12.fU
      refine dO @q85 @fU12 ?_
      obtain ⟨hR13,r13,k1213⟩:=dc.own hR12 r12 (x:=Y.a+4) (by omega) (by omega) (.pointer (ml pb po G ((m:Int)+1+1)))
      have p13:=p12.set85 (aC r12.ch) (ml pb po G ((m:Int)+1+1))
      have cu13:=cu12.keep k1213 (fun b x hq _ h=>(r12.dD b (r12.qD b x hq)).2.1 h.1) fun x _ _ h=>by omega
      have l13:=l12.trans ⟨fun _ h => .inl h,fun _ h => .inl h,k1213.mono fun b x _ h => .inr (.inr (.inl ⟨h.1,by omega,by omega⟩))⟩
      refine hK2 _ _ (m+1) ?_ ⟨⟨_,S12,Q6,vc6,vk6,_,xs6,_,cc6,lk6,⟨by exact_mod_cast hR13,by exact_mod_cast p13,r13⟩,l13,cu13,v87,k1213.some h8712 (by omega),pcs12.keep k1213 fun b x hq _ h=>(r12.dD b (r12.qD b x hq)).2.1 h.1⟩,by omega,hm,fun i h1 h2 => ?_⟩ (by omega)
      ·exact bU
      ·rcases eE (show i≤m by omega) with h | h
       ·exact hjn i h1 h
       ·subst h; exact hjm1
     ·rw [aG hjo]
      refine bA ?_
      refine hK _ _ m ?_ ⟨⟨D6,S6,Q6,vc6,vk6,vb6,xs6,xb6,cc6,lk6,⟨hR7,by rw [his]; exact p7,r7⟩,l7,cu7,v87,h87,pc87⟩,hjm,hmN,hjn,fun h=>hjo ⟨fun hn => ?_,?_⟩⟩
      ·exact bU
      ·have:=h.2.2.2
       rw [hn] at this
       exact h.2.2.1 (by simpa using this)
      ·rw [← h.2.2.2,hmd]
    ·rw [aG hes]
     refine bA ?_
     refine hK _ _ m ?_ ⟨⟨D6,S6,Q6,vc6,vk6,vb6,xs6,xb6,cc6,lk6,⟨dc.f.keep hR6 (M:=fun _ _=>False) (Keep.refl _ w6).drew fun _ _ _ h=>h.elim,by rw [his]; exact p6.drew,r6.drew⟩,⟨l6.d,l6.s,l6.k.drew⟩,cu6.keep (M:=fun _ _=>False) (Keep.refl _ w6).drew (fun _ _ _ _ h=>h) fun _ _ _ h=>h,v87,h87,pc87.keep (M:=fun _ _=>False) (Keep.refl _ w6).drew fun _ _ _ _ h=>h⟩,hjm,hmN,hjn,fun h=>hes h.2.1⟩
     exact bU
   ·have his:ml pb po G ((m:Int)+1)=none:=if_neg (by omega)
    rw [his] at q85
    simp (disch:=first | exact dZ | fail) only [go_sem,q85,Option.isSome_none]
    refine hK _ _ m ?_ ⟨⟨D6,S6,Q6,vc6,vk6,vb6,xs6,xb6,cc6,lk6,⟨hR6,p6,r6⟩,l6,cu6,v87,h87,pc87⟩,hjm,hmN,hjn,fun h=>hm h.1⟩
    exact bU
  ·rintro e m w6 ⟨⟨D6,S6,Q6,vc6,vk6,vb6,xs6,xb6,cc6,lk6,⟨hR6,p6,r6⟩,l6,cu6,_⟩,hjm,hmN,hjn,hnj⟩
   have q84:=p6.d84
   refine bu @q84 ?_
   refine dc.f.error hR6 fun w7 hR7 x7 => ?_
   have p7:=p6.keep (aC r6.ch) x7 fun _ _ _ h=>h
   have r7:=r6.keep x7 (fun _ _ _ h=>h) fun _ _ _ h=>h
   have cu7:=cu6.keep x7 (fun _ _ _ _ h=>h) fun _ _ _ h=>h
   have q81:=p7.d81
   have c7:=r7.kh
   have h89:=cu7.c89
   have fU7:=p7.fU
   obtain ⟨vka,vkc,e5,_,_⟩:=bP r7.ko
   rw [e5] at c7 h89
   refine eO @q81 @c7 @h89 @fU7 ?_
   rw [gw h89]
   have l7:DLt w w7 Y U Bf T D S D6 S6:=l6.trans ⟨fun _ h => .inl h,fun _ h => .inl h,x7.keep⟩
   exact (hk w7 D6 S6 Q6 vc6 vk6 vb6 xs6 xb6 cc6 lk6 _ _ _ ⟨hR7,p7,r7⟩ l7).2 m hks hjm hmN hjn hnj rfl rfl rfl (cu7.span r7)
end
end Go.Proofs
end
section
namespace Go.Proofs
open Go Go.E Go.Sort
section
variable {k:aq} {d w:World} {Y:DX} {U Bf C pb po:Nat} {rt:TypeId} {rv:Value} {G:List Sp} {pF pL:Prop} {pK:Bytes→Prop} {T:Nat→Nat→Prop} {R:World→(Nat→Prop)→Int→Prop} {D S:Nat→Prop} {Q:Nat→Nat→Prop} {vc vk vb:Value} {xs xb:List Value} {cc:Nat} {lk:List KR} {is:Option Addr} {ps q:Int} {l:Bytes}
end
end Go.Proofs
end
section
namespace Go.E
open Go Go.Sort Go.Proofs Go.Proofs.Tryz
section
variable {Y:DX} {G:List Sp} {p j b:Nat}
theorem Je (hp:p < (dJ Y.π G).length) (h1:(dJ Y.π G)[p]! ≤ j) (h2:j < kO Y.π G p) (hjb:j≤b) (hb:b < G.length) (hj:∀ i,j≤i→i < b→iy Y.π G i) (hn:¬ iy Y.π G b):b+1=kO Y.π G p:=by
 rcases dE (b+1) (kO Y.π G p) with h | h | h
 ·exact absurd (AP hp (by omega) h) hn
 ·exact h
 ·exact absurd (hj (kO Y.π G p - 1) (by omega) (by omega)) (AQ hp)
end
def De (d:World) (Y:DX) (U Bf C pb po:Nat) (rt:TypeId) (rv:Value) (G:List Sp) (T:Nat→Nat→Prop) (R:World→(Nat→Prop)→Int→Prop) (w:World) (D S:Nat→Prop) (p:Int):Prop :=
 ∃ Q vc vk vb xs xb cc lk is ps q,DSt d w Y U Bf C rt rv T R D S Q vc vk vb xs xb cc lk is ps q ∧
  (p = -2∨is=ml pb po G q ∧
   ((∃ i:Nat,p=i∧i < (dJ Y.π G).length∧(G[(dJ Y.π G)[i]!]!.ks=[]∧ps=0∧q=(dJ Y.π G)[i]! ∨ G[(dJ Y.π G)[i]!]!.ks≠[]∧ps=1∧q=kO Y.π G i∨G[(dJ Y.π G)[i]!]!.ks≠[]∧ps = -1∧q=((dJ Y.π G)[i]! : Int) - 1)) ∨
    p=(dJ Y.π G).length∧ps=0∧q=G.length∨p = -1∧ps=0∧q = -1))
def Rs (Y:DX) (G:List Sp) (w:World) (v:Value) (p:Int):Prop :=
 (∀ i:Nat,p=i→i < (dJ Y.π G).length→∃ b o x,v = .pointer (some ⟨b,o,none⟩)∧fE Y.ord w b o x∧x.s=(Vw Y.π G)[i]!.s∧x.e=(Vw Y.π G)[i]!.e∧x.ks.map Y.π=(Vw Y.π G)[i]!.ks.map Y.π∧∃ j,j < G.length∧x.ks=G[j]!.ks)∧(¬ (0≤p∧p < (dJ Y.π G).length)→v = .pointer none)
def Jf (d:World) (Y:DX) (U Bf C pb po:Nat) (rt:TypeId) (rv:Value) (G:List Sp) (T:Nat→Nat→Prop) (R:World→(Nat→Prop)→Int→Prop) (w:World) (D S:Nat→Prop) (p:Int) (k:aq):Prop :=
 ∀ w2 D2 S2 v,De d Y U Bf C pb po rt rv G T R w2 D2 S2 p→DLt w w2 Y U Bf T D S D2 S2→Rs Y G w2 v p→k v w2
end Go.E
namespace Go.Proofs
open Go Go.E Go.Sort Go.Proofs.Tryz
section
variable {k:aq} {d w w0:World} {Y:DX} {U Bf C pb po:Nat} {rt:TypeId} {rv:Value} {G:List Sp} {pF pL:Prop} {pK:Bytes→Prop} {T:Nat→Nat→Prop} {R:World→(Nat→Prop)→Int→Prop} {D S D0 S0:Nat→Prop} {Q:Nat→Nat→Prop} {vc vk vb:Value} {xs xb:List Value} {cc:Nat} {lk:List KR} {is:Option Addr} {ps q:Int} {l:Bytes}
theorem oh {p:Nat} (dc:DC d Y U Bf C pb po rt rv G pF pL pK T R) (hl:DLt w0 w Y U Bf T D0 S0 D S) (st:DSt d w Y U Bf C rt rv T R D S Q vc vk vb xs xb cc lk (some ⟨pb,po,none⟩) ps q) (hp:p < (dJ Y.π G).length) (hq:q=(dJ Y.π G)[p]!)
    (hk:Jf d Y U Bf C pb po rt rv G T R w0 D0 S0 p k):ai prog 231 #[.pointer (some ⟨U,Y.a,none⟩)] k w:=by
 have ne:=dc.ne
 have hm:=iS hp
 have he:=fw hp
 refine qP dc st hq hm.1 fun w2 D2 S2 Q2 vc2 vk2 vb2 xs2 xb2 cc2 lk2 is2 ps2 q2 st2 l2=>⟨fun h0 hq2 his hps => ?_,fun b h0 hjb hbN hj hn hq2 his hps hsp => ?_⟩
 ·refine hk w2 D2 S2 _ ⟨Q2,vc2,vk2,vb2,xs2,xb2,cc2,lk2,is2,ps2,q2,st2,.inr ⟨?_,.inl ⟨p,rfl,hp,.inl ⟨h0,hps,hq2⟩⟩⟩⟩ (hl.trans l2) ⟨fun i hi hi2 => ?_,fun h=>absurd ⟨by omega,by omega⟩ h⟩
  ·rw [his,hq2]
   exact (if_pos ⟨by omega,by omega⟩).symm
  ·obtain rfl:i=p:=by omega
   refine ⟨pb,po,G[(dJ Y.π G)[i]!]!,rfl,(dc.f.cur st2.R hq2 hm.1).o (dc.f.inc st2.R),?_⟩
   rw [mj hp,uK hp h0]
   exact ⟨rfl,rfl,rfl,_,hm.1,rfl⟩
 ·have hb:=Je hp (aF _) he.1 hjb hbN hj hn
  refine hk w2 D2 S2 _ ⟨Q2,vc2,vk2,vb2,xs2,xb2,cc2,lk2,is2,ps2,q2,st2,.inr ⟨?_,.inl ⟨p,rfl,hp,.inr (.inl ⟨h0,hps,by omega⟩)⟩⟩⟩ (hl.trans l2) ⟨fun i hi hi2 => ?_,fun h=>absurd ⟨by omega,by omega⟩ h⟩
  ·rw [his,hq2]
  ·obtain rfl:i=p:=by omega
   refine ⟨U,Y.a+6,_,rfl,hsp,?_⟩
   rw [mj hp,← hb]
   exact ⟨rfl,rfl,rfl,_,hm.1,rfl⟩
theorem Jg (dc:DC d Y U Bf C pb po rt rv G pF pL pK T R) (st:DSt d w Y U Bf C rt rv T R D S Q vc vk vb xs xb cc lk is ps q) {w2:World} {S2:Nat→Prop} {q2:Int} (hR:R w2 S2 q2) (hs:∀ b,S2 b→S b∨w.heap.size≤b) (hk:Keep (fun b x=>T b x∨S b) w w2) :
    DSt d (w2.setCell ⟨U,Y.a+4,none⟩ (.pointer (ml pb po G q2))) Y U Bf C rt rv T R D S2 Q vc vk vb xs xb cc lk (ml pb po G q2) ps q2∧DLt w (w2.setCell ⟨U,Y.a+4,none⟩ (.pointer (ml pb po G q2))) Y U Bf T D S D S2 ∧
     w2.cell? ⟨U,Y.a+4,none⟩=some (.pointer is)∧(∀ x,w2.frozen? ⟨U,x,none⟩=false):=by
 obtain ⟨p4,r4,_⟩:=dc.below st.R st.p st.r hk hs
 obtain ⟨hR5,r5,k45⟩:=dc.own hR r4 (x:=Y.a+4) (by omega) (by omega) (.pointer (ml pb po G q2))
 exact ⟨⟨hR5,p4.set85 (aC r4.ch) _,r5⟩,⟨fun _ h => .inl h,hs,(hk.mono fun b x _ h=>h.elim .inl fun h => .inr (.inl h)).trans (k45.mono fun b x _ h => .inr (.inr (.inl ⟨h.1,by omega,by omega⟩)))⟩,p4.d85,p4.fU⟩
theorem Hn (dc:DC d Y U Bf C pb po rt rv G pF pL pK T R) (st:DSt d w Y U Bf C rt rv T R D S Q vc vk vb xs xb cc lk is ps q) (n:Int) :
    DSt d (w.setCell ⟨U,Y.a+5,none⟩ (.int .i8 n)) Y U Bf C rt rv T R D S Q vc vk vb xs xb cc lk is n q∧DLt w (w.setCell ⟨U,Y.a+5,none⟩ (.int .i8 n)) Y U Bf T D S D S:=by
 obtain ⟨hR2,r2,kk⟩:=dc.own st.R st.r (x:=Y.a+5) (by omega) (by omega) (.int .i8 n)
 exact ⟨⟨hR2,st.p.set86 (aC st.r.ch) n,r2⟩,⟨fun _ h => .inl h,fun _ h => .inl h,kk.mono fun b x _ h => .inr (.inr (.inl ⟨h.1,by omega,by omega⟩))⟩⟩
theorem zU {p:Int} (dc:DC d Y U Bf C pb po rt rv G pF pL pK T R) (h:De d Y U Bf C pb po rt rv G T R w D S p) (hF:pF) (hk:Jf d Y U Bf C pb po rt rv G T R w D S 0 k):ai prog 224 #[.pointer (some ⟨U,Y.a,none⟩)] k w:=by
 have ne:=dc.ne
 obtain ⟨Q,vc,vk,vb,xs,xb,cc,lk,is,ps,q,st,_⟩:=h
 have q84:=st.p.d84
 refine al [.tmp 2] func224 ?_
 refine bu @q84 ?_
 refine dc.f.first st.R hF fun w2 S2 hR2 hS2 k2 => ?_
 obtain ⟨st2,l2,q85,fU2⟩:=Jg dc st hR2 hS2 k2
 rw [show l8 pb po G 0 = .pointer (ml pb po G 0) from gP ..]
 by_cases h0:0 < G.length
 ·have his:ml pb po G 0=some ⟨pb,po,none⟩:=if_pos ⟨by omega,by omega⟩
  rw [his] at st2 l2 ⊢
  obtain ⟨e1,e2⟩:=rl (π:=Y.π) h0
  simp (disch:=first | exact dZ | fail) only [go_sem,q85,fU2,Option.isNone_some]
  refine oh (p:=0) dc l2 st2 e1 (by rw [e2]; rfl) fun w3 D3 S3 v r1 r2 r3 => ?_
  refine bA ?_
  exact hk w3 D3 S3 v r1 r2 r3
 ·have his:ml pb po G 0=none:=if_neg (by omega)
  have hz:(dJ Y.π G).length=0:=xM (π:=Y.π) (by omega)
  rw [his] at st2 l2 ⊢
  have q86:=st2.p.d86
  have fU3:=st2.p.fU
  have q86':w2.cell? ⟨U,Y.a+5,none⟩=some (.int .i8 ps):=by
   have:=q86
   rwa [fk (by omega)] at this
  simp (disch:=first | exact dZ | fail) only [go_sem,q85,fU2,Option.isNone_none,q86']
  obtain ⟨st3,l3⟩:=Hn dc st2 0
  refine hk _ D S2 _ ⟨Q,vc,vk,vb,xs,xb,cc,lk,none,0,0,st3,.inr ⟨his.symm,.inr (.inl ⟨by omega,rfl,by omega⟩)⟩⟩ (l2.trans l3) ⟨fun i hi hi2=>by omega,fun _=>rfl⟩
end
end Go.Proofs
end
section
namespace Go.Proofs
open Go Go.E Go.Sort Go.Proofs.Tryz
section
variable {k:aq} {d w w0:World} {Y:DX} {U Bf C pb po:Nat} {rt:TypeId} {rv:Value} {G:List Sp} {pF pL:Prop} {pK:Bytes→Prop} {T:Nat→Nat→Prop} {R:World→(Nat→Prop)→Int→Prop} {D S D0 S0:Nat→Prop} {Q:Nat→Nat→Prop} {vc vk vb:Value} {xs xb:List Value} {cc:Nat} {lk:List KR} {is:Option Addr} {ps q:Int} {l:Bytes}
theorem EC {p j:Nat} (dc:DC d Y U Bf C pb po rt rv G pF pL pK T R) (st:DSt d w Y U Bf C rt rv T R D S Q vc vk vb xs xb cc lk (some ⟨pb,po,none⟩) ps q) (hp:p < (dJ Y.π G).length) (h1:(dJ Y.π G)[p]! ≤ j) (h2:j < kO Y.π G p) (hq:q=j) (h0:G[j]!.ks≠[])
    (hk:∀ w2 D2 S2 Q2 vc2 vk2 vb2 xs2 xb2 cc2 lk2 v,DSt d w2 Y U Bf C rt rv T R D2 S2 Q2 vc2 vk2 vb2 xs2 xb2 cc2 lk2 (ml pb po G (kO Y.π G p)) 1 (kO Y.π G p)→DLt w w2 Y U Bf T D S D2 S2→k v w2):ai prog 231 #[.pointer (some ⟨U,Y.a,none⟩)] k w:=by
 have ne:=dc.ne
 have he:=fw hp
 refine qP dc st hq (by omega) fun w2 D2 S2 Q2 vc2 vk2 vb2 xs2 xb2 cc2 lk2 is2 ps2 q2 st2 l2=>⟨fun h=>absurd h h0,fun b _ hjb hbN hj hn hq2 his hps _ => ?_⟩
 have hb:=Je hp h1 h2 hjb hbN hj hn
 have e:(b:Int)+1=(kO Y.π G p:Nat):=by omega
 rw [e] at his hq2
 subst his hq2 hps
 exact hk _ _ _ _ _ _ _ _ _ _ _ _ st2 l2
theorem Fx {p:Int} (hl:DLt w0 w Y U Bf T D0 S0 D S) (st:DSt d w Y U Bf C rt rv T R D S Q vc vk vb xs xb cc lk is 0 q) (his:is=ml pb po G q) (hz:p=(dJ Y.π G).length∧q=G.length∨p = -1∧q = -1)
    (hk:Jf d Y U Bf C pb po rt rv G T R w0 D0 S0 p k):k (.pointer none) w :=
 hk _ D S _ ⟨Q,vc,vk,vb,xs,xb,cc,lk,is,0,q,st,.inr ⟨his,.inr (hz.elim (fun h => .inl ⟨h.1,rfl,h.2⟩) fun h => .inr ⟨h.1,rfl,h.2⟩)⟩⟩ hl ⟨fun i hi hi2=>by omega,fun _=>rfl⟩
theorem pW (h:0≤q∧q < G.length):ml pb po G q=some ⟨pb,po,none⟩:=if_pos h
theorem kj (h:¬ (0≤q∧q < G.length)):ml pb po G q=none:=if_neg h
theorem Il:((0:Int) == -1)=false:=rfl
theorem Fy:((1:Int) == -1)=false:=rfl
theorem n10:((1:Int) == 0)=false:=rfl
theorem ED (dc:DC d Y U Bf C pb po rt rv G pF pL pK T R) (st:DSt d w Y U Bf C rt rv T R D S Q vc vk vb xs xb cc lk is ps q) {w2:World} {S2:Nat→Prop} {q2:Int} (hR:R w2 S2 q2) (hs:∀ b,S2 b→S b∨w.heap.size≤b) (hk:Keep (fun b x=>T b x∨S b) w w2) :
    w2.cell? ⟨U,Y.a+4,none⟩=some (.pointer is)∧w2.cell? ⟨U,Y.a+5,none⟩=some (.int .i8 ps)∧w2.cell? ⟨U,Y.a+3,none⟩=some (.iface rt rv)∧(∀ x,w2.frozen? ⟨U,x,none⟩=false) ∧
    ∀ is2,ml pb po G q2=is2→DSt d (w2.setCell ⟨U,Y.a+4,none⟩ (.pointer is2)) Y U Bf C rt rv T R D S2 Q vc vk vb xs xb cc lk is2 ps q2∧DLt w (w2.setCell ⟨U,Y.a+4,none⟩ (.pointer is2)) Y U Bf T D S D S2:=by
 obtain ⟨p4,r4,_⟩:=dc.below st.R st.p st.r hk hs
 obtain ⟨st2,l2,_,_⟩:=Jg dc st hR hs hk
 exact ⟨p4.d85,p4.d86,p4.d84,p4.fU,fun is2 e=>by subst e; exact ⟨st2,l2⟩⟩
theorem Bh {p:Int} (dc:DC d Y U Bf C pb po rt rv G pF pL pK T R) (h:De d Y U Bf C pb po rt rv G T R w D S p) (hp : -1≤p) (hp2:p < (dJ Y.π G).length) (hk:Jf d Y U Bf C pb po rt rv G T R w D S (p+1) k):ai prog 226 #[.pointer (some ⟨U,Y.a,none⟩)] k w:=by
 have ne:=dc.ne
 obtain ⟨Q,vc,vk,vb,xs,xb,cc,lk,is,ps,q,st,hd⟩:=h
 have q84:=st.p.d84
 have q85:=st.p.d85
 have q86:=st.p.d86
 have fU:=st.p.fU
 refine al [.tmp 2] func226 ?_
 rcases hd with h2 | ⟨his,⟨i,rfl,hi,hd⟩ | ⟨h3,_,_⟩ | ⟨h3,hps,hq⟩⟩
 ·omega
 ·have hE:=fw hi
  rcases hd with ⟨h0,hps,hq⟩ | ⟨h0,hps,hq⟩ | ⟨h0,hps,hq⟩
  ·subst hps hq
   have he:=uK hi h0
   rw [pW ⟨by omega,by omega⟩] at his
   subst his
   simp (disch:=first | exact dZ | fail) only [go_sem,Il,Fy,n10,q86,q85,Option.isNone_some,q84]
   refine dc.f.next st.R (by omega) (by omega) fun w2 S2 hR2 hS2 k2 => ?_
   obtain ⟨q85',q86',_,fU2,f2⟩:=ED dc st hR2 hS2 k2
   rw [show l8 pb po G (((dJ Y.π G)[i]! : Nat)+1) = .pointer (ml pb po G (((dJ Y.π G)[i]! : Nat)+1)) from gP ..]
   by_cases hl:i+1 < (dJ Y.π G).length
   ·have e:=jz hl
    have hl2:=fw hl
    have his:ml pb po G (((dJ Y.π G)[i]! : Nat)+1)=some ⟨pb,po,none⟩:=pW ⟨by omega,by omega⟩
    obtain ⟨st2,l2⟩:=f2 _ his
    rw [his]
    simp (disch:=first | exact dZ | fail) only [go_sem,q85',fU2,Option.isNone_some]
    refine oh (p:=i+1) dc l2 st2 hl (by omega) fun w3 D3 S3 v r1 r2 r3 => ?_
    refine bA ?_
    exact hk w3 D3 S3 v r1 r2 r3
   ·have e:=oV hl
    have his:ml pb po G (((dJ Y.π G)[i]! : Nat)+1)=none:=kj (by omega)
    obtain ⟨st2,l2⟩:=f2 _ his
    rw [his]
    simp (disch:=first | exact dZ | fail) only [go_sem,q85',fU2,Option.isNone_none]
    exact Fx l2 st2 his.symm (.inl ⟨by omega,by omega⟩) hk
  ·subst hps hq
   by_cases hl:i+1 < (dJ Y.π G).length
   ·have e:=jz hl
    have hl2:=fw hl
    rw [pW ⟨by omega,by omega⟩] at his
    subst his
    simp (disch:=first | exact dZ | fail) only [go_sem,Il,Fy,n10,q86,q85,Option.isNone_some]
    refine oh (p:=i+1) dc (DLt.refl ..) st hl (by omega) fun w3 D3 S3 v r1 r2 r3 => ?_
    refine bA ?_
    exact hk w3 D3 S3 v r1 r2 r3
   ·have e:=oV hl
    rw [kj (by omega)] at his
    subst his
    simp (disch:=first | exact dZ | fail) only [go_sem,Il,Fy,n10,q86,q85,Option.isNone_none,fU]
    obtain ⟨st3,l3⟩:=Hn dc st 0
    exact Fx l3 st3 (kj (by omega)).symm (.inl ⟨by omega,by omega⟩) hk
  ·subst hps hq
   refine hJ @Il @Fy @n10 @q86 @q84 ?_
   refine dc.f.next st.R (by omega) (by omega) fun w2 S2 hR2 hS2 k2 => ?_
   obtain ⟨q85',q86',_,fU2,f2⟩:=ED dc st hR2 hS2 k2
   rw [show l8 pb po G (((dJ Y.π G)[i]! : Int) - 1+1) = .pointer (ml pb po G (((dJ Y.π G)[i]! : Int) - 1+1)) from gP ..]
   have his2:ml pb po G (((dJ Y.π G)[i]! : Int) - 1+1)=some ⟨pb,po,none⟩:=pW ⟨by omega,by omega⟩
   obtain ⟨st2,l2⟩:=f2 _ his2
   rw [his2]
   simp (disch:=first | exact dZ | fail) only [go_sem,q85',fU2,Option.isNone_some]
   refine EC (p:=i) (j:=(dJ Y.π G)[i]!) dc st2 hi (by omega) (by omega) (by omega) h0 fun w3 D3 S3 Q3 vc3 vk3 vb3 xs3 xb3 cc3 lk3 v st3 l3 => ?_
   have r85:=st3.p.d85
   have r86:=st3.p.d86
   have rU:=st3.p.fU
   by_cases hl:i+1 < (dJ Y.π G).length
   ·have e:=jz hl
    have hl2:=fw hl
    rw [pW ⟨by omega,by omega⟩] at st3 r85
    simp (disch:=first | exact dZ | fail) only [go_sem,r85,Option.isNone_some]
    refine oh (p:=i+1) dc (l2.trans l3) st3 hl (by omega) fun w3 D3 S3 v r1 r2 r3 => ?_
    refine bA ?_
    exact hk w3 D3 S3 v r1 r2 r3
   ·have e:=oV hl
    rw [kj (by omega)] at st3 r85
    simp (disch:=first | exact dZ | fail) only [go_sem,r86,r85,Option.isNone_none,rU]
    obtain ⟨st4,l4⟩:=Hn dc st3 0
    exact Fx (l2.trans (l3.trans l4)) st4 (kj (by omega)).symm (.inl ⟨by omega,by omega⟩) hk
 ·omega
 ·subst hps hq h3
  rw [kj (by omega)] at his
  subst his
  simp (disch:=first | exact dZ | fail) only [go_sem,Il,Fy,n10,q86,q85,Option.isNone_none,q84]
  refine dc.f.next st.R (by omega) (by omega) fun w2 S2 hR2 hS2 k2 => ?_
  obtain ⟨q85',q86',_,fU2,f2⟩:=ED dc st hR2 hS2 k2
  rw [show l8 pb po G (-1+1) = .pointer (ml pb po G (-1+1)) from gP ..]
  by_cases h0:0 < G.length
  ·obtain ⟨e1,e2⟩:=rl (π:=Y.π) h0
   have his:ml pb po G (-1+1)=some ⟨pb,po,none⟩:=pW ⟨by omega,by omega⟩
   obtain ⟨st2,l2⟩:=f2 _ his
   rw [his]
   simp (disch:=first | exact dZ | fail) only [go_sem,q85',fU2,Option.isNone_some]
   refine oh (p:=0) dc l2 st2 e1 (by omega) fun w3 D3 S3 v r1 r2 r3 => ?_
   refine bA ?_
   exact hk w3 D3 S3 v r1 r2 r3
  ·have his:ml pb po G (-1+1)=none:=kj (by omega)
   have hz:(dJ Y.π G).length=0:=xM (π:=Y.π) (by omega)
   obtain ⟨st2,l2⟩:=f2 _ his
   rw [his]
   simp (disch:=first | exact dZ | fail) only [go_sem,q85',fU2,Option.isNone_none]
   exact Fx l2 st2 his.symm (.inl ⟨by omega,by omega⟩) hk
end
end Go.Proofs
end
section
namespace Go.E
open Go Go.Sort Go.Proofs
theorem xY (P:Nat→Bool) (N:Nat):uI P N≤N∧(∀ i,i < uI P N→P i=true)∧(uI P N < N→P (uI P N)=false):=by
 induction N generalizing P with
 | zero=>exact ⟨aF _,fun i h=>by simp [uI] at h,fun h=>by simp [uI] at h⟩
 | succ N ih =>
  unfold uI
  split
  ·rename_i h
   obtain ⟨a,b,c⟩:=ih fun i=>P (i+1)
   refine ⟨by omega,fun i hi => ?_,fun hl=>c (by omega)⟩
   cases i with
   | zero=>exact h
   | succ i=>exact b i (by omega)
  ·rename_i h
   exact ⟨aT _,fun i hi=>by omega,fun _=>by simpa using h⟩
section
variable {β:Type} [DecidableEq β] {π:K→β} {G:List Sp} {key:Bytes}
theorem Bi (G:List Sp) (key:Bytes):qj G key≤G.length∧(∀ i,i < qj G key→¬ key < G[i]!.e)∧(qj G key < G.length→key < G[qj G key]!.e):=by
 obtain ⟨a,b,c⟩:=xY (fun j=>decide (¬ key < G[j]!.e)) G.length
 exact ⟨a,fun i hi=>of_decide_eq_true (b i hi),fun h=>Classical.not_not.1 (of_decide_eq_false (c h))⟩
theorem Bj (G:List Sp) (key:Bytes) : -1≤tQ G key∧tQ G key < G.length∧(∀ i:Nat,i≤tQ G key→G[i]!.s < key)∧(∀ j:Nat,tQ G key+1=j→j < G.length→¬ G[j]!.s < key):=by
 obtain ⟨a,b,c⟩:=xY (fun j=>decide (G[j]!.s < key)) G.length
 unfold tQ
 refine ⟨by omega,by omega,fun i hi=>by simpa using b i (by omega),fun j e h => ?_⟩
 obtain rfl:uI (fun j=>decide (G[j]!.s < key)) G.length=j:=by omega
 simpa using c h
theorem Ho {i p:Nat} (h:i < p) (hp:p < (dJ π G).length):kO π G i≤(dJ π G)[p]! := by
 rw [jz (by omega)]
 rcases eE (show i+1≤p from h) with h1 | h1
 ·exact gG ((mX iK (jl (by omega)) (jl hp)).2 h1)
 ·rw [h1]; exact aF _
end
end Go.E
namespace Go.Proofs
open Go Go.E Go.Sort
section
variable {k:aq} {d w w0:World} {Y:DX} {U Bf C pb po:Nat} {rt:TypeId} {rv:Value} {G:List Sp} {pF pL:Prop} {pK:Bytes→Prop} {T:Nat→Nat→Prop} {R:World→(Nat→Prop)→Int→Prop} {D S D0 S0:Nat→Prop} {Q:Nat→Nat→Prop} {vc vk vb:Value} {xs xb:List Value} {cc:Nat} {lk:List KR} {is:Option Addr} {ps q:Int} {l:Bytes}
end
end Go.Proofs
end
section
namespace Go.E
open Go Go.Sort Go.Proofs
def str (l:Bytes):Value := .string ⟨l.toArray⟩
abbrev gR (α:Type):=World→List Value→α→Prop
def gH {α:Type} (R:gR α):Prop:=∀ w w2 cs x,cM w w2→R w cs x→R w2 cs x
def Fz {α:Type} (R:gR α) (sz:Nat) (w:World) (b o:Nat) (x:α):Prop:=∃ cs:List Value,cs.length=sz∧(∀ i u,cs[i]? = some u→w.cell? ⟨b,o+i,none⟩=some u)∧R w cs x
theorem Fz.mono {α:Type} {R:gR α} {sz:Nat} (h:gH R):DV (Fz R sz):=fun _ _ _ _ _ hi ⟨cs,h1,h2,h3⟩=>⟨cs,h1,fun i u hu=>hi _ _ _ (h2 i u hu),h _ _ _ _ hi h3⟩
abbrev Sl {α:Type} (R:gR α) (sz:Nat) (w:World) (v:Value) (l:List α):Prop:=fD (Fz R sz) sz w v l
theorem Sl.inc {α:Type} {R:gR α} {sz:Nat} {w w2:World} {v:Value} {l:List α} (hm:gH R) (h:Sl R sz w v l) (hi:cM w w2):Sl R sz w2 v l:=fD.inc (Fz.mono hm) h hi
theorem Sl.nil {α:Type} {R:gR α} {sz:Nat} {w:World} {c:Nat}:Sl R sz w (.slice none 0 c) []:=⟨rfl,rfl⟩
structure OwnL {α:Type} (R:gR α) (sz:Nat) (el:TypeId) (d w:World) (v:Value) (l:List α) (css:List (List Value)):Prop where
 len:css.length=l.length
 own:w.ownsRow 0 el sz v l.length css.flatten
 sz:∀ cs ∈ css,cs.length=sz
 R:∀ (i:Nat) (x:α) (cs:List Value),l[i]? = some x→css[i]? = some cs→R d cs x
 out:∀ g,v.ownBlock=some g→cj d g
section
variable {α:Type} {R:gR α} {sz:Nat} {el:TypeId} {d d2 w w2:World} {v:Value} {l:List α} {css:List (List Value)}
theorem OwnL.nil (h:w.ownsRow 0 el sz (.slice none 0 0) 0 []):OwnL R sz el d w (.slice none 0 0) [] []:=⟨rfl,h,by simp,by simp,by simp [Value.ownBlock]⟩
theorem OwnL.drew (h:OwnL R sz el d w v l css):OwnL R sz el d w.drew v l css:=⟨h.len,h.own.drew,h.sz,h.R,h.out⟩
theorem OwnL.keep {M:Nat→Nat→Prop} (h:OwnL R sz el d w v l css) (hk:Keep M w w2) (hm:∀ g,v.ownBlock=some g→∀ o,¬ M g o):OwnL R sz el d w2 v l css:=⟨h.len,aX h.own hk hm,h.sz,h.R,h.out⟩
theorem OwnL.ext (h:OwnL R sz el d w v l css) (hk:bp w w2):OwnL R sz el d w2 v l css:=h.keep hk fun _ _ _ h=>h
theorem OwnL.ghost (h:OwnL R sz el d w v l css) (hm:gH R) (hi:cM d d2) (ho:∀ g,v.ownBlock=some g→cj d2 g):OwnL R sz el d2 w v l css:=⟨h.len,h.own,h.sz,fun i x cs h1 h2=>hm _ _ _ _ hi (h.R i x cs h1 h2),ho⟩
theorem OwnL.form (h:OwnL R sz el d w v l css):∃ a c,v = .slice a l.length c∧l.length≤c∧c≤9223372036854775807:=by
 obtain ⟨a,c,h1,h2,h3⟩:=bP h.own
 exact ⟨a,c,h1,h2,h3⟩
theorem xZ {css:List (List Value)} (h:∀ cs ∈ css,cs.length=sz):css.flatten.length=css.length * sz:=by
 induction css with
 | nil=>simp
 | cons c css ih =>
  have h1:=h c aK
  have h2:=ih fun cs hcs=>h cs (aW _ hcs)
  rw [List.flatten_cons,aE,h1,h2,aZ,Nat.add_mul]
  omega
theorem sA {css:List (List Value)} (h:∀ cs ∈ css,cs.length=sz) {i j:Nat} {cs:List Value} {u:Value} (hi:css[i]? = some cs) (hj:cs[j]? = some u):css.flatten[i * sz+j]? = some u:=by
 induction css generalizing i with
 | nil=>simp at hi
 | cons c css ih =>
  have h1:=h c aK
  rw [List.flatten_cons]
  cases i with
  | zero =>
   simp only [List.getElem?_cons_zero,aP] at hi
   subst hi
   rw [Nat.zero_mul,Nat.zero_add,bR (aQ.1 hj).1]
   exact hj
  | succ i =>
   rw [List.getElem?_cons_succ] at hi
   have:=ih (fun cs hcs=>h cs (aW _ hcs)) hi
   rw [bC (by rw [h1,Nat.add_mul]; omega),h1,show (i+1) * sz+j - sz=i * sz+j by rw [Nat.add_mul]; omega]
   exact this
theorem OwnL.sl (h:OwnL R sz el d w v l css) (hm:gH R) (hi:cM d d2) (hb:∀ g,v.ownBlock=some g→∀ o u,w.cell? ⟨g,o,none⟩=some u→d2.cell? ⟨g,o,none⟩=some u):Sl R sz d2 v l:=by
 have ho:=h.own
 rcases cg ho with ⟨rfl,h0,_⟩ | ⟨g,cap,rfl,hc,hg⟩
 ·exact ⟨rfl,ak.1 h0⟩
 ·refine ⟨fun _=>rfl,rfl,hc,fun i x hx => ?_⟩
  have hlt:=(aQ.1 hx).1
  obtain ⟨cs,hcs⟩:∃ cs,css[i]? = some cs:=⟨_,aD (by rw [h.len]; exact hlt)⟩
  refine ⟨cs,h.sz cs (aO hcs),fun j u hu => ?_,hm _ _ _ _ hi (h.R i x cs hx hcs)⟩
  have:=bW ho (sA h.sz hcs hu)
  rw [show 0+i * sz+j=i * sz+j by omega]
  exact hb g rfl _ _ this
theorem OwnL.slw (h:OwnL R sz el d w v l css) (hm:gH R) (hi:cM d w):Sl R sz w v l:=h.sl hm hi fun _ _ _ _ h=>h
theorem OwnL.cell {g cap:Nat} (h:OwnL R sz el d w (.slice (some ⟨g,0,none⟩) l.length cap) l css) {i j:Nat} {cs:List Value} {u:Value} (hi:css[i]? = some cs) (hj:cs[j]? = some u):w.cell? ⟨g,i * sz+j,none⟩=some u:=bW h.own (sA h.sz hi hj)
end
structure Gr (d w d2 w2:World):Prop where
 x:bp w w2
 i:cM d d2
 j:cM d2 w2
 o:∀ b,b < w.heap.size→cj d b→cj d2 b
theorem Gr.refl {d w:World} (h:cM d w):Gr d w d w:=⟨bp.refl w,cM.refl d,h,fun _ _ h=>h⟩
theorem Gr.ext {d w w2:World} (h:cM d w) (x:bp w w2):Gr d w d w2:=⟨x,cM.refl d,h.trans x.inc,fun _ _ h=>h⟩
theorem Gr.trans {d w d2 w2 d3 w3:World} (h:Gr d w d2 w2) (h2:Gr d2 w2 d3 w3):Gr d w d3 w3:=⟨h.x.trans h2.x,h.i.trans h2.i,h2.j,fun b hb ho=>h2.o b (aL hb h.x.size) (h.o b hb ho)⟩
theorem Gr.drew {d w d2 w2:World} (h:Gr d w d2 w2):Gr d w d2 w2.drew:=⟨Keep.drew h.x,h.i,h.j,h.o⟩
open Classical in
theorem OwnL.grown {α:Type} {R:gR α} {sz:Nat} {el:TypeId} {d d1 w w1:World} {v:Value} {l:List α} {css:List (List Value)} (h:OwnL R sz el d1 w1 v l css) (hm:gH R) (g:Gr d w d1 w1) (hn:∀ b,v.ownBlock=some b→w.heap.size≤b) :
    ∃ d2,Gr d w d2 w1∧cM d1 d2∧(∀ b,cj d1 b→v.ownBlock≠some b→cj d2 b)∧Sl R sz d2 v l:=by
 let D:Nat→Bool:=fun b=>decide (¬ cj d1 b∨v.ownBlock=some b)
 have hD:∀ b o u,d1.cell? ⟨b,o,none⟩=some u→D b=true:=fun b o u hu=>aV (.inl fun ho=>by rw [ho o] at hu; simp at hu)
 have i2:cM d1 (only w1 D):=ny g.j D hD
 have oo:∀ b,cj d1 b→v.ownBlock≠some b→cj (only w1 D) b:=fun b h1 h2=>nx w1 D (aG fun h=>h.elim (fun h=>h h1) h2)
 refine ⟨only w1 D,⟨g.x,g.i.trans i2,nt w1 D,fun b hb ho=>oo b (g.o b hb ho) fun hv => ?_⟩,i2,oo,h.sl hm i2 fun b hb o u hu => ?_⟩
 ·have:=hn b hv; omega
 ·rw [iI,show D b=true from aV (.inr hb),if_pos rfl]
  exact hu
theorem iL {P:Program} {α:Type} {R:gR α} {sz by_ n:Nat} {t ty el:TypeId} {d w W:World} {v:Value} {l:List α} {css:List (List Value)} {C:Array Value} {q:aq} (x:α) (cs:List Value) (Ap:gM P t=some (el,sz,by_)) (h:OwnL R sz el d w v l css)
    (hx:R d cs x) (hC:C=cs.toArray) (hW:W=w.alloc (.cells C el)∨W=(w.alloc (.cells C el)).drew) (hn:n=w.heap.size) (hs:cs.length=sz) (h1:∀ u ∈ cs,u.oneCell'=true) (hb:(l.length+1) * (by_+1)≤140737488355328) (hinc:cM d w)
    (hk:∀ v2 w2,OwnL R sz el d w2 v2 (l++[x]) (css++[cs])→Keep (fun b _=>v.ownBlock=some b) w w2→cZ w v v2→cM d w2→(∃ a c,v2 = .slice a (l.length+1) c)→q v2 w2) :
    me P #[t,t] ty #[v,.slice (some ⟨n,0,none⟩) 1 1] q W:=by
 subst hC hn
 have k4:bp w W:=by
  rcases hW with rfl | rfl
  ·exact aJ _
  ·exact Keep.drew (aJ _)
 have c4:∀ o,W.cell? ⟨w.heap.size,o,none⟩=cs.toArray[o]? := fun o=>by
  rcases hW with rfl | rfl
  ·exact aA (aF _) (Nat.lt_succ_self _)
  ·rw [show (w.alloc (Obj.cells cs.toArray el)).drew.cell? ⟨w.heap.size,o,none⟩=(w.alloc (Obj.cells cs.toArray el)).cell? ⟨w.heap.size,o,none⟩ from rfl]
   exact aA (aF _) (Nat.lt_succ_self _)
 simp only [me]
 refine pO (m:=1) (news:=cs) Ap (aX h.own k4 (fun _ _ _ h=>h)) (by rw [Nat.one_mul]; exact hs) ⟨rfl,?_⟩ h1 hb fun v5 w5 o5 k5 n5 _ => ?_
 ·intro j u hj
  rw [dS rfl,Nat.zero_add,c4]
  simpa using hj
 ·have kk5:Keep (fun b _=>v.ownBlock=some b) w w5:=k4.keep.trans (k5 _ fun b o hb _=>hb)
  have nw:cZ w v v5:=fun g hg=>by
   rcases n5 with h | ⟨g2,h,h',_⟩
   ·exact .inl (by rw [← h]; exact hg)
   ·rw [h] at hg
    simp only [aP] at hg
    subst hg
    have:=k4.size
    exact .inr (by omega)
  have i5:cM d w5:=hinc.keep kk5 fun b o hb=>h.out b hb o
  obtain ⟨a5,c5,e5,_⟩:=bP o5
  refine hk v5 w5 ⟨by simp [h.len],?_,?_,?_,?_⟩ kk5 nw i5 ⟨a5,c5,e5⟩
  ·rw [List.flatten_append,aE]
   simpa using o5
  ·intro c hc
   rcases aS.1 hc with hc | hc
   ·exact h.sz c hc
   ·rw [aM.1 hc]; exact hs
  ·intro i y c hy hc
   rcases dE i l.length with hi | hi | hi
   ·rw [bR hi] at hy
    rw [bR (by rw [h.len]; exact hi)] at hc
    exact h.R i y c hy hc
   ·subst hi
    rw [bC (aF _),Nat.sub_self] at hy
    rw [bC (by rw [h.len]; exact aF _),h.len,Nat.sub_self] at hc
    simp only [List.getElem?_cons_zero,aP] at hy hc
    subst hy hc
    exact hx
   ·have:=(aQ.1 hy).1
    rw [aE,ar] at this
    omega
  ·intro g hg
   rcases nw g hg with h' | h'
   ·exact h.out g h'
   ·exact hinc.out h'
theorem bz {α:Type} {l:List α} {i:Nat} {x:α} (h:l[i]? = some x):l.take (i+1)=l.take i++[x]:=by
 rw [List.take_add_one,h]; rfl
theorem dV {α:Type} {l:List α} {i:Nat} (h:i≤l.length):(l.take i).length=i:=by rw [bE]; omega
theorem cw {w:World} {el:TypeId} {sz:Nat}:w.ownsRow 0 el sz (.slice none 0 0) 0 []:=⟨by simp,.inl ⟨rfl,rfl⟩⟩
structure LoopL {α:Type} (R:gR α) (sz:Nat) (el:TypeId) (d w d1 w1:World) (v:Value) (l:List α):Prop where
 g:Gr d w d1 w1
 o:∃ css,OwnL R sz el d1 w1 v l css
 n:∀ b,v.ownBlock=some b→w.heap.size≤b
section
variable {α:Type} {R:gR α} {sz:Nat} {el:TypeId} {d w d1 w1 d2 w2:World} {v v2:Value} {l:List α}
theorem LoopL.nil (h:cM d w):LoopL R sz el d w d w (.slice none 0 0) []:=⟨Gr.refl h,⟨[],OwnL.nil cw⟩,by simp [Value.ownBlock]⟩
theorem LoopL.form (h:LoopL R sz el d w d1 w1 v l):∃ a c,v = .slice a l.length c∧l.length≤c∧c≤9223372036854775807:=by
 obtain ⟨css,o⟩:=h.o
 exact o.form
theorem LoopL.call (h:LoopL R sz el d w d1 w1 v l) (hm:gH R) (g:Gr d1 w1 d2 w2):LoopL R sz el d w d2 w2 v l:=by
 obtain ⟨css,o⟩:=h.o
 exact ⟨h.g.trans g,⟨css,(o.ext g.x).ghost hm g.i fun b hb=>g.o b (o.own.lt _ hb).2 (o.out b hb)⟩,h.n⟩
theorem LoopL.ext (h:LoopL R sz el d w d1 w1 v l) (hm:gH R) (x:bp w1 w2):LoopL R sz el d w d1 w2 v l:=h.call hm (Gr.ext h.g.j x)
theorem LoopL.more (h:LoopL R sz el d w d1 w1 v l) {l2:List α} {css:List (List Value)} (o:OwnL R sz el d1 w2 v2 l2 css) (k:Keep (fun b _=>v.ownBlock=some b) w1 w2) (n:cZ w1 v v2) (j:cM d1 w2):LoopL R sz el d w d1 w2 v2 l2:=by
 have hx:bp w w2:=h.g.x.tr k fun b o hb hm=>by have:=h.n b hm; omega
 refine ⟨⟨hx,h.g.i,j,h.g.o⟩,⟨css,o⟩,fun b hb => ?_⟩
 rcases n b hb with h' | h'
 ·exact h.n b h'
 ·exact ah h.g.x.size h'
theorem LoopL.done (h:LoopL R sz el d w d1 w1 v l) (hm:gH R):∃ d2,Gr d w d2 w1∧cM d1 d2∧(∀ b,cj d1 b→v.ownBlock≠some b→cj d2 b)∧Sl R sz d2 v l:=by
 obtain ⟨css,o⟩:=h.o
 exact o.grown hm h.g h.n
end
theorem AW (l:Bytes):(str l).oneCell'=true:=rfl
end Go.E
end
section
namespace Go.E
open Go Go.Sort Go.Proofs Go.Proofs.Tryz
open Go.Lib (uvarint)
theorem F0 {g p r c n:Nat} (h:n≤r) (h2:r≤c):∃ A:Option Addr,(n < r→A=some ⟨g,p+n,none⟩)∧∀ q:Value→Prop,cz prog 56 (.slice (some ⟨g,p,none⟩) r c) (some (.int .i64 n)) none none q=q (.slice A (r - n) (c - n)):=by
 refine ⟨if (c:Int)=n then some ⟨g,p,none⟩ else some ⟨g,p+n,none⟩,fun hn=>if_neg (by omega),fun q => ?_⟩
 rw [eW Tryz.es56 rfl rfl (by omega) (by simp [bd]; omega) (by simp [bd]; omega) (by simp [bd]) (by simp)]
 have e0:(if n=0 then (⟨g,p,none⟩:Addr) else ⟨g,p+n,none⟩)=⟨g,p+n,none⟩:=by
  split
  ·rename_i h; rw [h,Nat.add_zero]
  ·rfl
 simp [bd,Addr.add,e0]
theorem om {g p r c n:Nat} {q:Value→Prop} (h:n < r) (h2:r≤c):cz prog 56 (.slice (some ⟨g,p,none⟩) r c) (some (.int .i64 n)) none none q=q (.slice (some ⟨g,p+n,none⟩) (r - n) (c - n)):=by
 obtain ⟨A,h1,e⟩:=F0 (g:=g) (p:=p) (gG h) h2
 rw [e,h1 h]
theorem fX {a b:Nat} (h:a+b≤4611686018427387904):IntKind.i64.wrap ((a:Int)+b)=((a+b:Nat):Int):=by rw [dP (by omega) (by omega)]; omega
theorem kB {a:Nat} (h:a≤4611686018427387904):IntKind.u64.wrap (a:Int)=(a:Int):=by rw [show IntKind.u64.wrap (a:Int)=(a:Int) % 18446744073709551616 from rfl]; omega
theorem Jh {a:Nat} (h:a≤4611686018427387904):IntKind.i64.wrap (a:Int)=(a:Int):=dP (by omega) (by omega)
theorem Ji {k:aq} {w:World} {g m p n c:Nat} {L bs:Bytes} {v:Value} {A:Option Addr} (o:w.ownsRow 0 5 1 (.slice (some ⟨g,0,none⟩) m m) m (eF L)) (hb:dR w v bs) (hA:0 < bs.length→A=some ⟨g,p,none⟩) (hn:bs.length≤n) (hp:0 < bs.length→p+n≤m)
    (hk:∀ w2,w2.ownsRow 0 5 1 (.slice (some ⟨g,0,none⟩) m m) m (eF (wr L p bs))→Keep (fun b _=>b=g) w w2→k (.int .i64 bs.length) w2) :
    Cj prog #[56,56] 3 #[.slice A n c,v] k w:=by
 have hL:L.length=m:=by have:=o.1; simpa [eF] using this
 obtain ⟨i,z,e1,e2,e3,e4,e5,e6,e7⟩:=iP rw56
 obtain ⟨a2,c2,rfl⟩:=aY hb
 by_cases h0:bs.length=0
 ·have hb0:bs=[]:=ak.1 h0
  subst hb0
  have:=run_copy_none (P:=prog) w 56 56 3 5 A a2 n c 0 c2 e1 (by rw [e2]; simpa using e4) (Nat.zero_min _)
  simp only [Cj,dH,List.length_nil,this]
  exact hk w o (Keep.refl _ w)
 ·have hpos:0 < bs.length:=by omega
  have hpm:=hp hpos
  rw [hA hpos]
  have hlies:=ie hb
  cases a2 with
  | none=>obtain ⟨h,_⟩:=hlies; have:=hb.1; omega
  | some a =>
   have:=run_copy_cells (P:=prog) w 56 56 3 5 g p n c a bs.length c2 (eF bs) e1 (by rw [e2]; simpa using e4) (by rw [cP]; exact (Nat.min_eq_left hn).symm) hlies.2 (fun j hj=>by
    rw [cP] at hj
    have hc:=bW o (aD (l:=eF L) (i:=p+j) (by rw [cP]; omega))
    rw [hc]; rfl) (fun j _=>cl o rfl _) (ig bs)
   simp only [Cj,dH,this,cP]
   exact hk _ (Hl L p bs o) (kA _ _ (Keep.refl _ w) fun _ _=>rfl)
def Cm:gR (Bytes × Bytes):=fun w cs x=>∃ a b,cs=[a,b]∧dR w a x.1∧dR w b x.2
theorem Cm.mono:gH Cm:=fun _ _ _ _ hi ⟨a,b,h1,h2,h3⟩=>⟨a,b,h1,h2.inc hi,h3.inc hi⟩
def Cn:gR Bytes:=fun w cs x=>∃ a,cs=[a]∧dR w a x
theorem Cn.mono:gH Cn:=fun _ _ _ _ hi ⟨a,h1,h2⟩=>⟨a,h1,h2.inc hi⟩
def vg (x:Bytes × Bytes):Bytes:=uvarint x.1.length++(x.1++(uvarint x.2.length++x.2))
def eZ (l:List (Bytes × Bytes)):Bytes:=l.flatMap vg
def vh (x:Bytes):Bytes:=uvarint x.length++x
def eN (l:List Bytes):Bytes:=l.flatMap vh
theorem kC {l:List (Bytes × Bytes)} {i:Nat} {x:Bytes × Bytes} (h:l[i]? = some x):eZ (l.take (i+1))=eZ (l.take i)++vg x:=by
 unfold eZ; rw [bz h,ay,ae,List.flatMap_nil,ao]
theorem kE {l:List Bytes} {i:Nat} {x:Bytes} (h:l[i]? = some x):eN (l.take (i+1))=eN (l.take i)++vh x:=by
 unfold eN; rw [bz h,ay,ae,List.flatMap_nil,ao]
theorem jU (x:Bytes × Bytes):(vg x).length=vl x.1.length+x.1.length+vl x.2.length+x.2.length:=by
 unfold vg vl; simp only [aE]; omega
theorem jV (x:Bytes):(vh x).length=vl x.length+x.length:=by unfold vh vl; simp only [aE]
def Hp (x:Bytes × Bytes):Prop:=x.1.length≤1048576∧x.2.length≤1048576
def Hq (x:Bytes):Prop:=x.length≤1048576
theorem kp {l:List (Bytes × Bytes)} (h:∀ x ∈ l,Hp x):(eZ l).length≤l.length * 2097162:=by
 induction l with
 | nil=>exact aF _
 | cons x l ih =>
  have h1:=h x aK
  have h2:=ih fun y hy=>h y (aW _ hy)
  have h3:=jT (x:=x.1.length) (by have:=h1.1; omega)
  have h4:=jT (x:=x.2.length) (by have:=h1.2; omega)
  unfold eZ at h2 ⊢
  rw [ae,aE,jU,aZ]
  have:=h1.1; have:=h1.2
  omega
theorem kq {l:List Bytes} (h:∀ x ∈ l,Hq x):(eN l).length≤l.length * 2097162:=by
 induction l with
 | nil=>exact aF _
 | cons x l ih =>
  have h1:x.length≤1048576:=h x aK
  have h2:=ih fun y hy=>h y (aW _ hy)
  have h3:=jT (x:=x.length) (by omega)
  unfold eN at h2 ⊢
  rw [ae,aE,jV,aZ]
  omega
theorem xd {l:List (Bytes × Bytes)} {i:Nat}:(eZ (l.take i)).length≤(eZ l).length:=by
 conv=>{ rhs; rw [← cT i l] }
 unfold eZ; rw [ay,aE]; omega
theorem xg {l:List Bytes} {i:Nat}:(eN (l.take i)).length≤(eN l).length:=by
 conv=>{ rhs; rw [← cT i l] }
 unfold eN; rw [ay,aE]; omega
end Go.E
namespace Go.Proofs
open Go Go.E Go.Sort Go.Proofs.Tryz
open Go.Lib (uvarint)
section
variable {k:aq} {d w:World}
theorem EE {v:Value} {l:List (Bytes × Bytes)} (hv:Sl Cm 2 d v l) (hl:l.length≤1000) (hlen:∀ x ∈ l,Hp x) (hinc:cM d w) (hk:k (.int .i64 (eZ l).length) w):ai prog 116 #[v] k w:=by
 obtain ⟨ka,kc,rfl⟩:=hv.form
 have hle:=kp hlen
 refine al [.tmp 2] func116 ?_
 refine bA ?_
 refine bZ (fun b:Nat × Nat=>[(0,.slice ka l.length kc),(3,.int .i64 b.2),(4,.int .i64 b.1)])
  (fun b w'=>w'=w∧b.1≤l.length∧b.2=(eZ (l.take b.1)).length) (fun b _=>l.length - b.1) (0,0) (by kernel_rfl) ?_ ⟨rfl,aT _,rfl⟩ ?_
 ·exact bU
 rintro K2 e ⟨i,n⟩ w1 ⟨rfl,i2,i3⟩ hK2
 simp only at i2 i3
 rcases aH i l.length with hi | hi
 rotate_left
 ·have hi':¬ (i:Int) < l.length:=by omega
  refine bu @hi' ?_
  obtain rfl:i=l.length:=by omega
  rw [ag] at i3
  rw [i3]; exact hk
 have hi':(i:Int) < l.length:=by omega
 obtain ⟨b,f,c',hv',hc',hat⟩:=((hv.inc Cm.mono hinc)).at (by omega)
 obtain ⟨rfl,rfl⟩:ka=some ⟨b,f,none⟩∧kc=c':=by simpa using hv'
 obtain ⟨x,hx⟩:=gEl hi
 have hmem:=aO hx
 obtain ⟨cs,_,hcs,sa,sb,rfl,hA,hB⟩:=hat i x hx
 obtain ⟨a1,c1,rfl⟩:=aY hA
 obtain ⟨a2,c2,rfl⟩:=aY hB
 have h0:w1.cell? ⟨b,f+i * 2,none⟩=some (.slice a1 x.1.length c1):=hcs 0 _ rfl
 have h1:w1.cell? ⟨b,f+i * 2+1,none⟩=some (.slice a2 x.2.length c2):=hcs 1 _ rfl
 obtain ⟨s1,s2⟩:=hlen x hmem
 have p1:=xd (l:=l) (i:=i+1)
 rw [kC hx,aE,jU,← i3] at p1
 refine dQ @hi' @h0 @h1 ?_
 refine gQ (by omega) ?_
 refine dQ @h0 @h1 @fX ?_
 refine gQ (by omega) ?_
 have e1:IntKind.i64.wrap ((i:Int)+1)=((i+1:Nat):Int):=by rw [dP (by omega) (by omega)]; omega
 refine eO @h0 @h1 @fX @e1 ?_
 refine hK2 _ _ (i+1,n+vl x.1.length+x.1.length+vl x.2.length+x.2.length) ?_ ⟨rfl,hi,?_⟩ (by simp only; omega)
 ·exact bU
 ·simp only
  rw [kC hx,aE,jU,← i3]; omega
theorem EF {v:Value} {l:List Bytes} (hv:Sl Cn 1 d v l) (hl:l.length≤1000) (hlen:∀ x ∈ l,Hq x) (hinc:cM d w) (hk:k (.int .i64 (eN l).length) w):ai prog 119 #[v] k w:=by
 obtain ⟨ka,kc,rfl⟩:=hv.form
 have hle:=kq hlen
 refine al [.tmp 2] func119 ?_
 refine bA ?_
 refine bZ (fun b:Nat × Nat=>[(0,.slice ka l.length kc),(3,.int .i64 b.2),(4,.int .i64 b.1)])
  (fun b w'=>w'=w∧b.1≤l.length∧b.2=(eN (l.take b.1)).length) (fun b _=>l.length - b.1) (0,0) (by kernel_rfl) ?_ ⟨rfl,aT _,rfl⟩ ?_
 ·exact bU
 rintro K2 e ⟨i,n⟩ w1 ⟨rfl,i2,i3⟩ hK2
 simp only at i2 i3
 rcases aH i l.length with hi | hi
 rotate_left
 ·have hi':¬ (i:Int) < l.length:=by omega
  refine bu @hi' ?_
  obtain rfl:i=l.length:=by omega
  rw [ag] at i3
  rw [i3]; exact hk
 have hi':(i:Int) < l.length:=by omega
 obtain ⟨b,f,c',hv',hc',hat⟩:=((hv.inc Cn.mono hinc)).at (by omega)
 obtain ⟨rfl,rfl⟩:ka=some ⟨b,f,none⟩∧kc=c':=by simpa using hv'
 obtain ⟨x,hx⟩:=gEl hi
 have hmem:=aO hx
 obtain ⟨cs,_,hcs,sa,rfl,hA⟩:=hat i x hx
 obtain ⟨a1,c1,rfl⟩:=aY hA
 have h0:w1.cell? ⟨b,f+i * 1,none⟩=some (.slice a1 x.length c1):=hcs 0 _ rfl
 have s1:x.length≤1048576:=hlen x hmem
 have p1:=xg (l:=l) (i:=i+1)
 rw [kE hx,aE,jV,← i3] at p1
 rw [Nat.mul_one] at h0
 have e1:IntKind.i64.wrap ((i:Int)+1)=((i+1:Nat):Int):=by rw [dP (by omega) (by omega)]; omega
 refine dQ @hi' @h0 @Nat.mul_one ?_
 refine gQ (by omega) ?_
 refine eO @h0 @fX @e1 @Nat.mul_one ?_
 refine hK2 _ _ (i+1,n+vl x.length+x.length) ?_ ⟨rfl,hi,?_⟩ (by simp only; omega)
 ·exact bU
 ·simp only
  rw [kE hx,aE,jV,← i3]; omega
end
end Go.Proofs
end
