/- Parts of the proof: Om, Oq, Xq, Xl. -/
import Derived.Laws.StructEq
import Derived.Test.YtlmoafgebiffaaaGreatDoorV18
import Derived.Test.YtlmoafgebiffaaaGreatDoorV20
import Derived.Test.YtlmoafgebiffaaaGreatDoorV22
set_option linter.all false
set_option maxRecDepth 10000
section
namespace Go.Proofs
open Go Go.E Go.Sort Go.Proofs.Tryz
open Go.Lib (uvarint)
section
variable {k:aq} {d w:World}
theorem yS {x:Bytes × Bytes} {l:Bytes}:0 < (vg x++l).length:=by
 rw [aE,jU]; have:=fW x.1.length; omega
theorem yT {x:Bytes} {l:Bytes}:0 < (vh x++l).length:=by
 rw [aE,jV]; have:=fW x.length; omega
theorem gA {ka va:Value} {f:Sp} {t:Nat} (ok:DecOk f t) (ha:dR d ka f.s) (hv:nL d va (E.valOf f)) (hinc:cM d w)
    (hk:∀ d' w' sa ea kv,Gr d w d' w'→dR d' sa f.s→dR d' ea f.e→Sl KB 3 d' kv f.ks→k (.tuple #[.agg #[sa,ea,kv,.int .i8 0],.nilIface]) w'):ai prog 28 #[.agg #[ka,.int .u64 t],va,.slice none 0 0] k w:=by
 obtain ⟨aa,ac,rfl⟩:=aY ha
 obtain ⟨va1,vc,rfl,hvc⟩:=hv.form
 have hd:=ok.hd
 have htl:=ok.tl
 have he:=ok.e
 have hl:=ok.l
 refine al [.cell 6 61,.tmp 7] func28 ?_
 refine dO @aA @br ?_
 obtain ⟨N,hN⟩:∃ N,N=w.heap.size:=⟨_,rfl⟩
 obtain ⟨w1,hw1⟩:∃ w1,w1=(((w.alloc (.cells #[.slice aa f.s.length ac,.int .u64 t] 68)).alloc (.cells #[.slice none 0 0,.slice none 0 0,.slice none 0 0,.int .i8 0] 61)).alloc (.cells #[.slice none 0 0,.slice none 0 0,.slice none 0 0,.int .i8 0] 61)).setCell ⟨w.heap.size+1+1,0,none⟩ (.slice aa f.s.length ac):=⟨_,rfl⟩
 have x1:bp w w1:=by rw [hw1]; exact aj (((aJ _).trans (aJ _)).trans (aJ _)) (by omega)
 have N2:N+2=w.heap.size+1+1:=by omega
 have D1:DcS d w w1 N (.slice aa f.s.length ac) (.slice none 0 0) (.slice none 0 0) t:={
  x:=x1
  i:=hinc.trans x1.inc
  hN:=by omega
  sz:=by rw [hw1,World.size_setCell,World.size_alloc,World.size_alloc,World.size_alloc]; omega
  on:=fun b hb=>hinc.out (by omega)
  n0:=by rw [hw1,hN]; exact bX @aA
  n1:=by rw [hw1,hN]; exact bX @aA
  s0:=by rw [hw1,N2]; exact bX @aA
  s1:=by rw [hw1,N2]; exact bX @aA
  s2:=by rw [hw1,N2]; exact bX @aA
  s3:=by rw [hw1,N2]; exact bX @aA
  r0:=by rw [hw1,hN]; exact bX @aA
  r1:=by rw [hw1,hN]; exact bX @aA
  r2:=by rw [hw1,hN]; exact bX @aA
  r3:=by rw [hw1,hN]; exact bX @aA
  fr:=fun o=>by rw [hw1,hN]; exact bX @br
  fs:=fun o=>by rw [hw1,N2]; exact bX @br }
 rw [← hw1,← hN,show N+1+1=N+2 from rfl]
 refine lE rfl htl fun w2 x2 => ?_
 have D2:=D1.ext x2
 refine bA ?_
 rcases ok.kd with h21 | ⟨h20,hval⟩ | ⟨h19,hks⟩
 ·rw [h21]
  have hvo:E.valOf f=uvarint f.e.length++(f.e++eZ (f.ks.map K.sv)):=by unfold E.valOf; rw [hd,if_pos h21]
  have hsz:=kp (l:=f.ks.map K.sv) (fun z hz=>by obtain ⟨y,hy,rfl⟩:=bj.1 hz; exact ok.sh y hy)
  rw [aR] at hsz
  have hps:0 < (eZ (f.ks.map K.sv)).length:=by
   obtain ⟨z,l,e⟩:=List.exists_cons_of_ne_nil ok.ne
   rw [e,List.map_cons]
   unfold eZ
   rw [ae]; exact yS
  rw [hvo] at hv
  rw [hvo]
  refine sZ hv he hps (by omega) (.inl rfl) D2.i fun w3 EA R x3 hE hR => ?_
  obtain ⟨eaa,eac,rfl,_⟩:=hE.form
  obtain ⟨raa,rac,rfl,_⟩:=hR.form
  have D3:=D2.ext x3
  have s1:=D3.s1
  have s2:=D3.s2
  have n0:=D3.n0
  have n1:=D3.n1
  have fs:=D3.fs
  refine hJ @s1 @s2 @n0 @n1 @fs ?_
  have D4:=(D3.setE (v := .slice eaa f.e.length eac)).setK (v := .slice none 0 0)
  refine lE rfl htl fun w5 x5 => ?_
  have D5:=D4.ext x5
  rw [h21]
  have q1:(((21:Nat):Int) == 21)=true:=by decide
  refine bu @q1 ?_
  refine bZ (fun b:Nat × Value × Value=>[(1,b.2.1),(3,.pointer (some ⟨N,0,none⟩)),(6,.pointer (some ⟨N+1,0,none⟩)),(8,.pointer (some ⟨N+2,0,none⟩))])
   (fun b w'=>b.1≤f.ks.length∧DcS d w w' N (.slice aa f.s.length ac) (.slice eaa f.e.length eac) b.2.2 t∧nL d b.2.1 (eZ ((f.ks.map K.sv).drop b.1))∧(∃ css,OwnL KB 3 117 d w' b.2.2 (f.ks.take b.1) css)∧∀ g,b.2.2.ownBlock=some g→N+3≤g)
   (fun b _=>f.ks.length - b.1) (0,.slice raa (eZ (f.ks.map K.sv)).length rac,.slice none 0 0) (by kernel_rfl) ?_ ⟨aT _,D5,hR,⟨[],OwnL.nil cw⟩,fun g hg=>by simp [Value.ownBlock] at hg⟩ ?_
  ·exact bU
  rintro K2 e ⟨i,R,kv⟩ w6 ⟨i2,D6,hR6,o6,hn6⟩ hK2
  simp only at i2 D6 hR6 o6 hn6
  obtain ⟨ra6,rc6,rfl,_⟩:=hR6.form
  rcases aH i f.ks.length with hi | hi
  rotate_left
  ·obtain rfl:i=f.ks.length:=by omega
   have hz:eZ ((f.ks.map K.sv).drop f.ks.length)=[]:=by rw [List.drop_of_length_le (by rw [aR]; exact aF _)]; rfl
   have h':¬ (0:Int) < (eZ ((f.ks.map K.sv).drop f.ks.length)).length:=by rw [hz]; simp
   rw [ag] at o6
   refine bu @h' ?_
   have r0:=D6.r0
   have r1:=D6.r1
   have r2:=D6.r2
   have r3:=D6.r3
   have fr:=D6.fr
   have s0:=D6.s0
   have s1:=D6.s1
   have s2:=D6.s2
   have s3:=D6.s3
   obtain ⟨css,oo⟩:=o6
   obtain ⟨kva,kvc,hkv,_⟩:=oo.form
   subst hkv
   have nn:∀ {g},(Value.slice kva f.ks.length kvc).ownBlock=some g→N+3≤g:=fun h=>hn6 _ h
   refine AE @s0 @s1 @s2 @s3 @r0 @r1 @r2 @r3 @fr ?_
   have oN:cj d (N+1):=D6.on _ (by omega)
   have o2:=(((oo.setc (b:=N+1) (o:=0) (u := .slice aa f.s.length ac) fun e=>by have:=nn e; omega).setc (b:=N+1) (o:=1) (u := .slice eaa f.e.length eac) fun e=>by have:=nn e; omega).setc (b:=N+1) (o:=2) (u := .slice kva f.ks.length kvc) fun e=>by have:=nn e; omega).setc (b:=N+1) (o:=3) (u := .int .i8 0) fun e=>by have:=nn e; omega
   have xx:=aj (o:=3) (v := .int .i8 0) (aj (o:=2) (v := .slice kva f.ks.length kvc) (aj (o:=1) (v := .slice eaa f.e.length eac) (aj (o:=0) (v := .slice aa f.s.length ac) D6.x (b:=N+1) (by omega)) (b:=N+1) (by omega)) (b:=N+1) (by omega)) (b:=N+1) (by omega)
   have ii:=(((D6.i.set (o:=0) (v := .slice aa f.s.length ac) oN).set (o:=1) (v := .slice eaa f.e.length eac) oN).set (o:=2) (v := .slice kva f.ks.length kvc) oN).set (o:=3) (v := .int .i8 0) oN
   obtain ⟨d7,g7,i7,_,hs7⟩:=o2.grown KB.mono (d:=d) (w:=w) ⟨xx,cM.refl d,ii,fun _ _ h=>h⟩ fun g hg=>by have:=nn hg; omega
   exact hk d7 _ _ _ _ g7 (ha.inc i7) (hE.1.inc i7) hs7
  obtain ⟨y,hy⟩:=gEl hi
  have hmem:=aO hy
  have hym:(f.ks.map K.sv)[i]? = some (K.sv y):=by rw [bw,hy]; rfl
  rw [mU hym] at hR6
  have hpos:0 < (eZ ((f.ks.map K.sv).drop i)).length:=by rw [mU hym]; exact yS
  have h':(0:Int) < (eZ ((f.ks.map K.sv).drop i)).length:=by omega
  rw [mU hym] at h'
  have hyt:=ok.tr y hmem
  have hsh:=ok.sh y hmem
  obtain ⟨css6,oo6⟩:=o6
  obtain ⟨kva6,kvc6,hkv6,_⟩:=oo6.form
  subst hkv6
  have ed:=mU hym
  refine dO @h' @ed ?_
  obtain ⟨Q,hQ⟩:∃ Q,Q=w6.heap.size:=⟨_,rfl⟩
  have xa:bp w6 (w6.alloc (.cells #[.slice none 0 0,.slice none 0 0] 113)):=aJ _
  refine CV hR6 hsh (D6.i.trans xa.inc) fun w7 sa sb sr x7 hA hB hR7 => ?_
  obtain ⟨saa,sac,rfl,_⟩:=hA.form
  obtain ⟨sba,sbc,rfl,_⟩:=hB.form
  obtain ⟨sra,src,rfl,_⟩:=hR7.form
  have p0:w7.cell? ⟨Q,0,none⟩=some (.slice none 0 0):=x7.cell (by rw [hQ]; exact bX @aA)
  have p1:w7.cell? ⟨Q,1,none⟩=some (.slice none 0 0):=x7.cell (by rw [hQ]; exact bX @aA)
  have pf:∀ o,w7.frozen? ⟨Q,o,none⟩=false:=fun o=>by rw [x7.frozen _ o (by rw [hQ,World.size_alloc]; omega),hQ]; exact bX @br
  have hQN:N+3≤Q:=by have:=D6.sz; omega
  have D7:=D6.ext (xa.trans x7)
  have s2:=D7.s2
  have n1:=D7.n1
  have fs:=D7.fs
  rw [← hQ]
  refine qh @p0 @p1 @pf @s2 @n1 @Nat.zero_add ?_
  have D8:=(D7.keep (bY (M:=fun b _=>b=Q) (b:=Q) (o:=0) (v := .slice saa y.sv.1.length sac) rfl) fun b o hb=>by omega).keep (bY (M:=fun b _=>b=Q) (b:=Q) (o:=1) (v := .slice sba y.sv.2.length sbc) rfl) fun b o hb=>by omega
  have hlt6:∀ g,(Value.slice kva6 (f.ks.take i).length kvc6).ownBlock=some g→g < w6.heap.size:=fun g hg=>(oo6.own.lt _ hg).2
  have oo8:=((oo6.ext (xa.trans x7)).setc (b:=Q) (o:=0) (u := .slice saa y.sv.1.length sac) fun e=>by have:=hlt6 _ e; omega).setc (b:=Q) (o:=1) (u := .slice sba y.sv.2.length sbc) fun e=>by have:=hlt6 _ e; omega
  refine iL y [.int .u64 t,.slice saa y.sv.1.length sac,.slice sba y.sv.2.length sbc] rw57 oo8 ⟨_,_,by rw [hyt],by rw [hyt]; exact htl,hA.1,hB.1⟩ rfl (.inl rfl) (by rw [World.size_setCell,World.size_setCell]) rfl (by simp [Value.oneCell']) (by rw [dV i2]; omega) D8.i fun v9 w9 o9 k9 n9 j9 hv9 => ?_
  obtain ⟨la,lc,rfl⟩:=hv9
  have D9:=D8.keep k9 fun b o hb=>hn6 b hb
  have s2:=D9.s2
  have fs:=D9.fs
  have hn9:∀ g,(Value.slice la ((f.ks.take i).length+1) lc).ownBlock=some g→N+3≤g:=fun g hg=>by
   rcases n9 g hg with e | e
   ·exact hn6 g e
   ·have:=D8.sz
    omega
  refine dO @s2 @fs ?_
  refine hK2 _ _ (i+1,.slice sra (eZ ((f.ks.map K.sv).drop (i+1))).length src,.slice la ((f.ks.take i).length+1) lc) ?_ ⟨hi,D9.setK,hR7,⟨_,by rw [bz hy]; exact o9.setc fun e=>by have:=hn9 _ e; omega⟩,hn9⟩ (by simp only; omega)
  exact bU
 ·rw [h20]
  have hvo:E.valOf f=uvarint f.e.length++(f.e++eN (f.ks.map K.suf)):=by unfold E.valOf; rw [hd,if_neg (by omega),if_pos h20]
  have hsz:=kq (l:=f.ks.map K.suf) (fun z hz=>by obtain ⟨y,hy,rfl⟩:=bj.1 hz; exact (ok.sh y hy).1)
  rw [aR] at hsz
  have hps:0 < (eN (f.ks.map K.suf)).length:=by
   obtain ⟨z,l,e⟩:=List.exists_cons_of_ne_nil ok.ne
   rw [e,List.map_cons]
   unfold eN
   rw [ae]; exact yT
  rw [hvo] at hv
  rw [hvo]
  refine sZ hv he hps (by omega) (.inr rfl) D2.i fun w3 EA R x3 hE hR => ?_
  obtain ⟨eaa,eac,rfl,_⟩:=hE.form
  obtain ⟨raa,rac,rfl,_⟩:=hR.form
  have D3:=D2.ext x3
  have s1:=D3.s1
  have s2:=D3.s2
  have n0:=D3.n0
  have n1:=D3.n1
  have fs:=D3.fs
  refine hJ @s1 @s2 @n0 @n1 @fs ?_
  have D4:=(D3.setE (v := .slice eaa f.e.length eac)).setK (v := .slice none 0 0)
  refine lE rfl htl fun w5 x5 => ?_
  have D5:=D4.ext x5
  rw [h20]
  have q1:(((20:Nat):Int) == 21)=false:=by decide
  have q2:(((20:Nat):Int) == 20)=true:=by decide
  refine dO @q1 @q2 ?_
  refine bZ (fun b:Nat × Value × Value=>[(1,b.2.1),(3,.pointer (some ⟨N,0,none⟩)),(6,.pointer (some ⟨N+1,0,none⟩)),(8,.pointer (some ⟨N+2,0,none⟩))])
   (fun b w'=>b.1≤f.ks.length∧DcS d w w' N (.slice aa f.s.length ac) (.slice eaa f.e.length eac) b.2.2 t∧nL d b.2.1 (eN ((f.ks.map K.suf).drop b.1))∧(∃ css,OwnL KB 3 117 d w' b.2.2 (f.ks.take b.1) css)∧∀ g,b.2.2.ownBlock=some g→N+3≤g)
   (fun b _=>f.ks.length - b.1) (0,.slice raa (eN (f.ks.map K.suf)).length rac,.slice none 0 0) (by kernel_rfl) ?_ ⟨aT _,D5,hR,⟨[],OwnL.nil cw⟩,fun g hg=>by simp [Value.ownBlock] at hg⟩ ?_
  ·exact bU
  rintro K2 e ⟨i,R,kv⟩ w6 ⟨i2,D6,hR6,o6,hn6⟩ hK2
  simp only at i2 D6 hR6 o6 hn6
  obtain ⟨ra6,rc6,rfl,_⟩:=hR6.form
  rcases aH i f.ks.length with hi | hi
  rotate_left
  ·obtain rfl:i=f.ks.length:=by omega
   have hz:eN ((f.ks.map K.suf).drop f.ks.length)=[]:=by rw [List.drop_of_length_le (by rw [aR]; exact aF _)]; rfl
   have h':¬ (0:Int) < (eN ((f.ks.map K.suf).drop f.ks.length)).length:=by rw [hz]; simp
   rw [ag] at o6
   refine bu @h' ?_
   have r0:=D6.r0
   have r1:=D6.r1
   have r2:=D6.r2
   have r3:=D6.r3
   have fr:=D6.fr
   have s0:=D6.s0
   have s1:=D6.s1
   have s2:=D6.s2
   have s3:=D6.s3
   obtain ⟨css,oo⟩:=o6
   obtain ⟨kva,kvc,hkv,_⟩:=oo.form
   subst hkv
   have nn:∀ {g},(Value.slice kva f.ks.length kvc).ownBlock=some g→N+3≤g:=fun h=>hn6 _ h
   refine AE @s0 @s1 @s2 @s3 @r0 @r1 @r2 @r3 @fr ?_
   have oN:cj d (N+1):=D6.on _ (by omega)
   have o2:=(((oo.setc (b:=N+1) (o:=0) (u := .slice aa f.s.length ac) fun e=>by have:=nn e; omega).setc (b:=N+1) (o:=1) (u := .slice eaa f.e.length eac) fun e=>by have:=nn e; omega).setc (b:=N+1) (o:=2) (u := .slice kva f.ks.length kvc) fun e=>by have:=nn e; omega).setc (b:=N+1) (o:=3) (u := .int .i8 0) fun e=>by have:=nn e; omega
   have xx:=aj (o:=3) (v := .int .i8 0) (aj (o:=2) (v := .slice kva f.ks.length kvc) (aj (o:=1) (v := .slice eaa f.e.length eac) (aj (o:=0) (v := .slice aa f.s.length ac) D6.x (b:=N+1) (by omega)) (b:=N+1) (by omega)) (b:=N+1) (by omega)) (b:=N+1) (by omega)
   have ii:=(((D6.i.set (o:=0) (v := .slice aa f.s.length ac) oN).set (o:=1) (v := .slice eaa f.e.length eac) oN).set (o:=2) (v := .slice kva f.ks.length kvc) oN).set (o:=3) (v := .int .i8 0) oN
   obtain ⟨d7,g7,i7,_,hs7⟩:=o2.grown KB.mono (d:=d) (w:=w) ⟨xx,cM.refl d,ii,fun _ _ h=>h⟩ fun g hg=>by have:=nn hg; omega
   exact hk d7 _ _ _ _ g7 (ha.inc i7) (hE.1.inc i7) hs7
  obtain ⟨y,hy⟩:=gEl hi
  have hmem:=aO hy
  have hym:(f.ks.map K.suf)[i]? = some (K.suf y):=by rw [bw,hy]; rfl
  rw [mV hym] at hR6
  have hpos:0 < (eN ((f.ks.map K.suf).drop i)).length:=by rw [mV hym]; exact yT
  have h':(0:Int) < (eN ((f.ks.map K.suf).drop i)).length:=by omega
  rw [mV hym] at h'
  have hyt:=ok.tr y hmem
  have hsh:=ok.sh y hmem
  obtain ⟨css6,oo6⟩:=o6
  obtain ⟨kva6,kvc6,hkv6,_⟩:=oo6.form
  subst hkv6
  have ed:=mV hym
  refine dO @h' @ed ?_
  refine zu hR6 hsh.1 D6.i fun w7 sa sr x7 hA hR7 => ?_
  obtain ⟨saa,sac,rfl,_⟩:=hA.form
  obtain ⟨sra,src,rfl,_⟩:=hR7.form
  have D7:=D6.ext x7
  have s2:=D7.s2
  have n1:=D7.n1
  have fs:=D7.fs
  refine dO @s2 @n1 ?_
  have hnb:dR d (.slice none 0 0) y.val:=by rw [hval y hmem]; exact ⟨rfl,rfl⟩
  have D8:=D7
  have hlt6:∀ g,(Value.slice kva6 (f.ks.take i).length kvc6).ownBlock=some g→g < w6.heap.size:=fun g hg=>(oo6.own.lt _ hg).2
  have oo8:=oo6.ext x7
  refine iL y [.int .u64 t,.slice saa y.suf.length sac,.slice none 0 0] rw57 oo8 ⟨_,_,by rw [hyt],by rw [hyt]; exact htl,hA.1,hnb⟩ rfl (.inl rfl) rfl rfl (by simp [Value.oneCell']) (by rw [dV i2]; omega) D8.i fun v9 w9 o9 k9 n9 j9 hv9 => ?_
  obtain ⟨la,lc,rfl⟩:=hv9
  have D9:=D8.keep k9 fun b o hb=>hn6 b hb
  have s2:=D9.s2
  have fs:=D9.fs
  have hn9:∀ g,(Value.slice la ((f.ks.take i).length+1) lc).ownBlock=some g→N+3≤g:=fun g hg=>by
   rcases n9 g hg with e | e
   ·exact hn6 g e
   ·have:=D8.sz
    omega
  refine dO @s2 @fs ?_
  refine hK2 _ _ (i+1,.slice sra (eN ((f.ks.map K.suf).drop (i+1))).length src,.slice la ((f.ks.take i).length+1) lc) ?_ ⟨hi,D9.setK,hR7,⟨_,by rw [bz hy]; exact o9.setc fun e=>by have:=hn9 _ e; omega⟩,hn9⟩ (by simp only; omega)
  exact bU
 ·rw [h19]
  have hvo:E.valOf f=f.e:=by unfold E.valOf; rw [hd,if_neg (by omega),if_neg (by omega)]
  rw [hvo] at hv
  rw [hvo]
  refine al [.tmp 4,.tmp 5,.tmp 6] func49 ?_
  have q0:(((19:Nat):Int) == 19)=true:=by decide
  have hE:=hv
  have x3:bp w2 w2:=bp.refl w2
  have hR:nL d (.slice none 0 0) []:=⟨⟨rfl,rfl⟩,_,_,_,rfl,aF _⟩
  have s1:=D2.s1
  have s2:=D2.s2
  have n0:=D2.n0
  have n1:=D2.n1
  have fs:=D2.fs
  refine qh @q0 @s1 @s2 @n0 @n1 @fs ?_
  have D4:=(D2.setE (v := .slice va1 f.e.length vc)).setK (v := .slice none 0 0)
  refine lE rfl htl fun w5 x5 => ?_
  have D5:=D4.ext x5
  rw [h19]
  have q1:(((19:Nat):Int) == 21)=false:=by decide
  have q2:(((19:Nat):Int) == 20)=false:=by decide
  have s2:=D5.s2
  have n1:=D5.n1
  have fs:=D5.fs
  have nz:¬ (0:Int) < ((0:Nat):Int):=by decide
  refine qh @q1 @q2 @q0 @s2 @n1 @nz ?_
  have on:OwnL KB 3 117 d w5 (.slice none 0 0) [] []:=OwnL.nil cw
  have hnb:dR d (.slice none 0 0) []:=⟨rfl,rfl⟩
  refine iL ⟨t,[],[]⟩ [.int .u64 t,.slice none 0 0,.slice none 0 0] rw57 on ⟨_,_,rfl,htl,hnb,hnb⟩ rfl (.inl rfl) rfl rfl (by simp [Value.oneCell']) (by simp) D5.i fun v9 w9 o9 k9 n9 j9 hv9 => ?_
  obtain ⟨la,lc,rfl⟩:=hv9
  have D9:=D5.keep k9 fun b o hb=>by simp [Value.ownBlock] at hb
  have s2:=D9.s2
  have fs:=D9.fs
  have hn9:∀ g,(Value.slice la (([]:List E.K).length+1) lc).ownBlock=some g→N+3≤g:=fun g hg=>by
   rcases n9 g hg with e | e
   ·simp [Value.ownBlock] at e
   ·have:=D5.sz
    omega
  have D10:=D9.setK (v := .slice la (([]:List E.K).length+1) lc)
  have o10:∃ css,OwnL KB 3 117 d (w9.setCell ⟨N+2,2,none⟩ (.slice la (([]:List E.K).length+1) lc)) (.slice la (([]:List E.K).length+1) lc) f.ks css:=⟨_,by rw [hks]; exact o9.setc fun e=>by have:=hn9 _ e; omega⟩
  obtain ⟨css,oo⟩:=o10
  have nn:∀ {g},(Value.slice la (([]:List E.K).length+1) lc).ownBlock=some g→N+3≤g:=fun h=>hn9 _ h
  have s0:=D9.s0
  have s1:=D9.s1
  have s3:=D9.s3
  have r0:=D9.r0
  have r1:=D9.r1
  have r2:=D9.r2
  have r3:=D9.r3
  have fr:=D9.fr
  refine JO @s0 @s1 @s2 @s3 @r0 @r1 @r2 @r3 @fr @fs ?_
  have oN:cj d (N+1):=D10.on _ (by omega)
  have o2:=(((oo.setc (b:=N+1) (o:=0) (u := .slice aa f.s.length ac) fun e=>by have:=nn e; omega).setc (b:=N+1) (o:=1) (u := .slice va1 f.e.length vc) fun e=>by have:=nn e; omega).setc (b:=N+1) (o:=2) (u := .slice la (([]:List E.K).length+1) lc) fun e=>by have:=nn e; omega).setc (b:=N+1) (o:=3) (u := .int .i8 0) fun e=>by have:=nn e; omega
  have xx:=aj (o:=3) (v := .int .i8 0) (aj (o:=2) (v := .slice la (([]:List E.K).length+1) lc) (aj (o:=1) (v := .slice va1 f.e.length vc) (aj (o:=0) (v := .slice aa f.s.length ac) D10.x (b:=N+1) (by omega)) (b:=N+1) (by omega)) (b:=N+1) (by omega)) (b:=N+1) (by omega)
  have ii:=(((D10.i.set (o:=0) (v := .slice aa f.s.length ac) oN).set (o:=1) (v := .slice va1 f.e.length vc) oN).set (o:=2) (v := .slice la (([]:List E.K).length+1) lc) oN).set (o:=3) (v := .int .i8 0) oN
  obtain ⟨d7,g7,i7,_,hs7⟩:=o2.grown KB.mono (d:=d) (w:=w) ⟨xx,cM.refl d,ii,fun _ _ h=>h⟩ fun g hg=>by have:=nn hg; omega
  exact hk d7 _ _ _ _ g7 (ha.inc i7) (hE.1.inc i7) hs7
end
end Go.Proofs
end
section
namespace Go.Proofs
open Go Go.E Go.Sort
section
variable {k:aq} {d w:World}
theorem qt {f:Sp} {t:Nat} (ok:DecOk f t) (hvl:(E.valOf f).length≤4294967296) (hinc:cM d w) (hk:∀ d' w' kv,Gr d w d' w'→Sl KE 3 d' kv f.ks→k (.tuple #[.agg #[str f.s,str f.e,kv],.bool true]) w') :
    ai Tryz.prog 10 #[.agg #[.string ⟨f.s.toArray⟩,.int .u64 t,.string ⟨(E.valOf f).toArray⟩]] k w:=by
 refine al [.cell 2 37,.tmp 3] Tryz.func10 ?_
 refine bA ?_
 obtain ⟨N,hN⟩:∃ N,N=w.heap.size:=⟨_,rfl⟩
 obtain ⟨w1,hw1⟩:∃ w1,w1=((w.alloc (.cells #[.string ⟨f.s.toArray⟩,.int .u64 t,.string ⟨(E.valOf f).toArray⟩] 40)).alloc (.cells #[.string .empty,.string .empty,.slice none 0 0] 37)).drew:=⟨_,rfl⟩
 have x1:bp w w1:=by rw [hw1]; exact Keep.drew ((aJ _).trans (aJ _))
 have z1:w1.heap.size=N+2:=by rw [hw1,hN,World.size_drew,World.size_alloc,World.size_alloc]
 have p0:w1.cell? ⟨N,0,none⟩=some (.string ⟨f.s.toArray⟩):=by rw [hw1,hN]; exact bX @aA
 have p1:w1.cell? ⟨N,1,none⟩=some (.int .u64 t):=by rw [hw1,hN]; exact bX @aA
 have p2:w1.cell? ⟨N,2,none⟩=some (.string ⟨(E.valOf f).toArray⟩):=by rw [hw1,hN]; exact bX @aA
 have q0:w1.cell? ⟨N+1,0,none⟩=some (.string .empty):=by rw [hw1,hN]; exact bX @aA
 have q1:w1.cell? ⟨N+1,1,none⟩=some (.string .empty):=by rw [hw1,hN]; exact bX @aA
 have q2:w1.cell? ⟨N+1,2,none⟩=some (.slice none 0 0):=by rw [hw1,hN]; exact bX @aA
 have fq:∀ o,w1.frozen? ⟨N+1,o,none⟩=false:=fun o=>by rw [hw1,hN]; exact bX @br
 refine bF (.read 0 (sq [2] (.read 3 (.alt (.alt (.eff 1 [3] (.alt (.eff 4 [0] (.alt (.eff 5 [] (sq [6,7,8] (.eff 9 [0,3] (.eff 10 [] (sq [11] .done))))) (.eff 9 [0,3] (.eff 5 [] (sq [6,7,8] (.eff 10 [] (sq [11] .done))))))) (.eff 9 [0,3] (.eff 4 [0] (.eff 5 [] (sq [6,7,8] (.eff 10 [] (sq [11] .done)))))))) (.eff 4 [0] (.alt (.eff 1 [3] (.alt (.eff 5 [] (sq [6,7,8] (.eff 9 [0,3] (.eff 10 [] (sq [11] .done))))) (.eff 9 [0,3] (.eff 5 [] (sq [6,7,8] (.eff 10 [] (sq [11] .done))))))) (.eff 9 [0,3] (.eff 1 [3] (.eff 5 [] (sq [6,7,8] (.eff 10 [] (sq [11] .done))))))))) (.eff 9 [0,3] (.alt (.eff 1 [3] (.eff 4 [0] (.eff 5 [] (sq [6,7,8] (.eff 10 [] (sq [11] .done)))))) (.eff 4 [0] (.eff 1 [3] (.eff 5 [] (sq [6,7,8] (.eff 10 [] (sq [11] .done)))))))))))) ?_
 rw [← hw1,← hN]
 have lN:=aC p0
 refine dQ @p0 @p1 @p2 ?_
 have hs32:f.s.length≤4294967296:=by have:=ok.s; omega
 have t1:Gr d w1 d w1:=Gr.refl (hinc.trans x1.inc)
 refine ⟨⟨?_,?_⟩,?_⟩
 ·
  refine pC t1.j hs32 fun d2 w2 ka g2 bK _ => ?_
  have t2:=t1.trans g2
  obtain ⟨kaa,kac,rfl⟩:=aY bK
  have pp0:=t2.x.cell p0
  have pp1:=t2.x.cell p1
  have pp2:=t2.x.cell p2
  have lN:=aC pp0
  refine dQ @pp0 @pp1 @pp2 ?_
  refine ⟨?_,?_⟩
  ·
   refine sd t2.j hvl fun d3 w3 va g3 bV => ?_
   have t3:=t2.trans g3
   obtain ⟨vaa,vac,rfl,_⟩:=bV.form
   have pp0:=t3.x.cell p0
   have pp1:=t3.x.cell p1
   have pp2:=t3.x.cell p2
   have lN:=aC pp0
   have bK:=bK.inc g3.i
   refine dQ @pp0 @pp1 @pp2 ?_
   refine ⟨?_,?_⟩
   ·
    refine gA ok bK bV t3.j fun d4 w4 sa ea kv g4 hS hE hQ => ?_
    have t4:=t3.trans g4
    obtain ⟨saa,sac,rfl⟩:=aY hS
    obtain ⟨eaa,eac,rfl⟩:=aY hE
    obtain ⟨kva,kvc,rfl⟩:=hQ.form
    have pp0:=t4.x.cell p0
    have pp1:=t4.x.cell p1
    have pp2:=t4.x.cell p2
    have lN:=aC pp0
    have t7:=t4.trans (Gr.ext t4.j (Keep.drew (aJ (.cells #[.slice saa f.s.length sac,.slice eaa f.e.length eac,.slice kva f.ks.length kvc,.int .i8 0] 61))))
    refine dQ @pp0 @pp1 @pp2 ?_
    refine bF (.read 0 (sq [2,3] (.eff 1 [] (.eff 4 [] (sq [5] .done))))) ?_
    refine bu @aA ?_
    refine dB (hS.inc t7.j) (hE.inc t7.j) ((hQ.inc KB.mono t7.j).imp fun _ _ _ _ h=>KB.key h) ⟨0,rfl⟩ (by have:=ok.l; omega) t7.j fun d8 w8 kv8 g8 s8 => ?_
    have t8:=t7.trans g8
    obtain ⟨ka8,kc8,rfl⟩:=s8.form
    have q0:=t8.x.cell q0
    have q1:=t8.x.cell q1
    have q2:=t8.x.cell q2
    have fq8:∀ o,w8.frozen? ⟨N+1,o,none⟩=false:=fun o=>by rw [t8.x.frozen _ o (by omega)]; exact fq o
    simp only [str]
    refine eO @q0 @q1 @q2 @fq8 ?_
    have o8:cj d8 (N+1):=t8.o _ (by omega) (hinc.out (by omega))
    exact hk d8 _ _ ⟨aj (aj (aj (x1.trans t8.x) (by omega)) (by omega)) (by omega),t8.i,((t8.j.set o8).set o8).set o8,fun b hb ho=>t8.o b (by omega) ho⟩ s8
   ·
    obtain ⟨M,hM⟩:∃ M,M=w3.heap.size:=⟨_,rfl⟩
    obtain ⟨w4,hw4⟩:∃ wz,wz=w3.alloc (.cells #[.slice none 0 0,.slice none 0 0,.slice none 0 0,.int .i8 0] 61):=⟨_,rfl⟩
    have xm:bp w3 w4:=by rw [hw4]; exact aJ _
    have zm:w4.heap.size=M+1:=by rw [hw4,hM,World.size_alloc]
    have t4:=t3.trans (Gr.ext t3.j xm)
    have m0:w4.cell? ⟨M,0,none⟩=some (.slice none 0 0):=by rw [hw4,hM]; exact bX @aA
    have m1:w4.cell? ⟨M,1,none⟩=some (.slice none 0 0):=by rw [hw4,hM]; exact bX @aA
    have m2:w4.cell? ⟨M,2,none⟩=some (.slice none 0 0):=by rw [hw4,hM]; exact bX @aA
    have m3:w4.cell? ⟨M,3,none⟩=some (.int .i8 0):=by rw [hw4,hM]; exact bX @aA
    have fm:∀ o,w4.frozen? ⟨M,o,none⟩=false:=fun o=>by rw [hw4,hM]; exact bX @br
    have pp0:=t4.x.cell p0
    have pp1:=t4.x.cell p1
    have pp2:=t4.x.cell p2
    have lN:=aC pp0
    have oM:=t3.j.out (b:=M) (by omega)
    have hM1:w1.heap.size≤M:=by have:=t3.x.size; omega
    rw [← hw4,← hM]
    refine gA ok bK bV t4.j fun d5 w5 sa ea kv g5 hS hE hQ => ?_
    have t5:=t4.trans g5
    obtain ⟨saa,sac,rfl⟩:=aY hS
    obtain ⟨eaa,eac,rfl⟩:=aY hE
    obtain ⟨kva,kvc,rfl⟩:=hQ.form
    have pp0:=t5.x.cell p0
    have pp1:=t5.x.cell p1
    have pp2:=t5.x.cell p2
    have lN:=aC pp0
    have hfb:True:=trivial
    have lM:=aC m0
    have oM:=g5.o M lM oM
    have m0:=g5.x.cell m0
    have m1:=g5.x.cell m1
    have m2:=g5.x.cell m2
    have m3:=g5.x.cell m3
    have fm:∀ o,w5.frozen? ⟨M,o,none⟩=false:=fun o=>by rw [g5.x.frozen _ o lM]; exact fm o
    refine rS @pp0 @pp1 @pp2 @m0 @m1 @m2 @m3 @fm ?_
    obtain ⟨W,hW⟩:∃ W,W=((((w5.setCell ⟨M,0,none⟩ (.slice saa f.s.length sac)).setCell ⟨M,1,none⟩ (.slice eaa f.e.length eac)).setCell ⟨M,2,none⟩ (.slice kva f.ks.length kvc)).setCell ⟨M,3,none⟩ (.int .i8 0)).drew:=⟨_,rfl⟩
    have e0:W.cell? ⟨M,0,none⟩=some (.slice saa f.s.length sac):=by rw [hW]; exact bX @m0
    have e1:W.cell? ⟨M,1,none⟩=some (.slice eaa f.e.length eac):=by rw [hW]; exact bX @m1
    have e2:W.cell? ⟨M,2,none⟩=some (.slice kva f.ks.length kvc):=by rw [hW]; exact bX @m2
    have e3:W.cell? ⟨M,3,none⟩=some (.int .i8 0):=by rw [hW]; exact bX @m3
    have t7:Gr d w1 d5 W:=by
     rw [hW]
     have hMl:=aC m0
     exact ⟨Keep.drew (aj (aj (aj (aj t5.x hM1) hM1) hM1) hM1),t5.i,cM.drew ((((t5.j.set oM).set oM).set oM).set oM),t5.o⟩
    refine bF (.read 0 (sq [2,3] (.eff 1 [] (.eff 4 [] (sq [5] .done))))) ?_
    rw [← hW]
    refine eO @e0 @e1 @e2 @e3 ?_
    refine dB (hS.inc t7.j) (hE.inc t7.j) ((hQ.inc KB.mono t7.j).imp fun _ _ _ _ h=>KB.key h) ⟨0,rfl⟩ (by have:=ok.l; omega) t7.j fun d8 w8 kv8 g8 s8 => ?_
    have t8:=t7.trans g8
    obtain ⟨ka8,kc8,rfl⟩:=s8.form
    have q0:=t8.x.cell q0
    have q1:=t8.x.cell q1
    have q2:=t8.x.cell q2
    have fq8:∀ o,w8.frozen? ⟨N+1,o,none⟩=false:=fun o=>by rw [t8.x.frozen _ o (by omega)]; exact fq o
    simp only [str]
    refine eO @q0 @q1 @q2 @fq8 ?_
    have o8:cj d8 (N+1):=t8.o _ (by omega) (hinc.out (by omega))
    exact hk d8 _ _ ⟨aj (aj (aj (x1.trans t8.x) (by omega)) (by omega)) (by omega),t8.i,((t8.j.set o8).set o8).set o8,fun b hb ho=>t8.o b (by omega) ho⟩ s8
  ·
   obtain ⟨M,hM⟩:∃ M,M=w2.heap.size:=⟨_,rfl⟩
   obtain ⟨w3,hw3⟩:∃ wz,wz=w2.alloc (.cells #[.slice none 0 0,.slice none 0 0,.slice none 0 0,.int .i8 0] 61):=⟨_,rfl⟩
   have xm:bp w2 w3:=by rw [hw3]; exact aJ _
   have zm:w3.heap.size=M+1:=by rw [hw3,hM,World.size_alloc]
   have t3:=t2.trans (Gr.ext t2.j xm)
   have m0:w3.cell? ⟨M,0,none⟩=some (.slice none 0 0):=by rw [hw3,hM]; exact bX @aA
   have m1:w3.cell? ⟨M,1,none⟩=some (.slice none 0 0):=by rw [hw3,hM]; exact bX @aA
   have m2:w3.cell? ⟨M,2,none⟩=some (.slice none 0 0):=by rw [hw3,hM]; exact bX @aA
   have m3:w3.cell? ⟨M,3,none⟩=some (.int .i8 0):=by rw [hw3,hM]; exact bX @aA
   have fm:∀ o,w3.frozen? ⟨M,o,none⟩=false:=fun o=>by rw [hw3,hM]; exact bX @br
   have pp0:=t3.x.cell p0
   have pp1:=t3.x.cell p1
   have pp2:=t3.x.cell p2
   have lN:=aC pp0
   have oM:=t2.j.out (b:=M) (by omega)
   have hM1:w1.heap.size≤M:=by have:=t2.x.size; omega
   rw [← hw3,← hM]
   refine sd t3.j hvl fun d4 w4 va g4 bV => ?_
   have t4:=t3.trans g4
   obtain ⟨vaa,vac,rfl,_⟩:=bV.form
   have pp0:=t4.x.cell p0
   have pp1:=t4.x.cell p1
   have pp2:=t4.x.cell p2
   have lN:=aC pp0
   have bK:=bK.inc g4.i
   have lM:=aC m0
   have oM:=g4.o M lM oM
   have m0:=g4.x.cell m0
   have m1:=g4.x.cell m1
   have m2:=g4.x.cell m2
   have m3:=g4.x.cell m3
   have fm:∀ o,w4.frozen? ⟨M,o,none⟩=false:=fun o=>by rw [g4.x.frozen _ o lM]; exact fm o
   refine dQ @pp0 @pp1 @pp2 ?_
   refine gA ok bK bV t4.j fun d5 w5 sa ea kv g5 hS hE hQ => ?_
   have t5:=t4.trans g5
   obtain ⟨saa,sac,rfl⟩:=aY hS
   obtain ⟨eaa,eac,rfl⟩:=aY hE
   obtain ⟨kva,kvc,rfl⟩:=hQ.form
   have pp0:=t5.x.cell p0
   have pp1:=t5.x.cell p1
   have pp2:=t5.x.cell p2
   have lN:=aC pp0
   have hfb:True:=trivial
   have lM:=aC m0
   have oM:=g5.o M lM oM
   have m0:=g5.x.cell m0
   have m1:=g5.x.cell m1
   have m2:=g5.x.cell m2
   have m3:=g5.x.cell m3
   have fm:∀ o,w5.frozen? ⟨M,o,none⟩=false:=fun o=>by rw [g5.x.frozen _ o lM]; exact fm o
   refine rS @pp0 @pp1 @pp2 @m0 @m1 @m2 @m3 @fm ?_
   obtain ⟨W,hW⟩:∃ W,W=((((w5.setCell ⟨M,0,none⟩ (.slice saa f.s.length sac)).setCell ⟨M,1,none⟩ (.slice eaa f.e.length eac)).setCell ⟨M,2,none⟩ (.slice kva f.ks.length kvc)).setCell ⟨M,3,none⟩ (.int .i8 0)).drew:=⟨_,rfl⟩
   have e0:W.cell? ⟨M,0,none⟩=some (.slice saa f.s.length sac):=by rw [hW]; exact bX @m0
   have e1:W.cell? ⟨M,1,none⟩=some (.slice eaa f.e.length eac):=by rw [hW]; exact bX @m1
   have e2:W.cell? ⟨M,2,none⟩=some (.slice kva f.ks.length kvc):=by rw [hW]; exact bX @m2
   have e3:W.cell? ⟨M,3,none⟩=some (.int .i8 0):=by rw [hW]; exact bX @m3
   have t7:Gr d w1 d5 W:=by
    rw [hW]
    have hMl:=aC m0
    exact ⟨Keep.drew (aj (aj (aj (aj t5.x hM1) hM1) hM1) hM1),t5.i,cM.drew ((((t5.j.set oM).set oM).set oM).set oM),t5.o⟩
   refine bF (.read 0 (sq [2,3] (.eff 1 [] (.eff 4 [] (sq [5] .done))))) ?_
   rw [← hW]
   refine eO @e0 @e1 @e2 @e3 ?_
   refine dB (hS.inc t7.j) (hE.inc t7.j) ((hQ.inc KB.mono t7.j).imp fun _ _ _ _ h=>KB.key h) ⟨0,rfl⟩ (by have:=ok.l; omega) t7.j fun d8 w8 kv8 g8 s8 => ?_
   have t8:=t7.trans g8
   obtain ⟨ka8,kc8,rfl⟩:=s8.form
   have q0:=t8.x.cell q0
   have q1:=t8.x.cell q1
   have q2:=t8.x.cell q2
   have fq8:∀ o,w8.frozen? ⟨N+1,o,none⟩=false:=fun o=>by rw [t8.x.frozen _ o (by omega)]; exact fq o
   simp only [str]
   refine eO @q0 @q1 @q2 @fq8 ?_
   have o8:cj d8 (N+1):=t8.o _ (by omega) (hinc.out (by omega))
   exact hk d8 _ _ ⟨aj (aj (aj (x1.trans t8.x) (by omega)) (by omega)) (by omega),t8.i,((t8.j.set o8).set o8).set o8,fun b hb ho=>t8.o b (by omega) ho⟩ s8
 ·
  refine sd t1.j hvl fun d2 w2 va g2 bV => ?_
  have t2:=t1.trans g2
  obtain ⟨vaa,vac,rfl,_⟩:=bV.form
  have pp0:=t2.x.cell p0
  have pp1:=t2.x.cell p1
  have pp2:=t2.x.cell p2
  have lN:=aC pp0
  refine dQ @pp0 @pp1 @pp2 ?_
  refine ⟨?_,?_⟩
  ·
   refine pC t2.j hs32 fun d3 w3 ka g3 bK _ => ?_
   have t3:=t2.trans g3
   obtain ⟨kaa,kac,rfl⟩:=aY bK
   have pp0:=t3.x.cell p0
   have pp1:=t3.x.cell p1
   have pp2:=t3.x.cell p2
   have lN:=aC pp0
   have bV:=bV.inc g3.i
   refine dQ @pp0 @pp1 @pp2 ?_
   refine ⟨?_,?_⟩
   ·
    refine gA ok bK bV t3.j fun d4 w4 sa ea kv g4 hS hE hQ => ?_
    have t4:=t3.trans g4
    obtain ⟨saa,sac,rfl⟩:=aY hS
    obtain ⟨eaa,eac,rfl⟩:=aY hE
    obtain ⟨kva,kvc,rfl⟩:=hQ.form
    have pp0:=t4.x.cell p0
    have pp1:=t4.x.cell p1
    have pp2:=t4.x.cell p2
    have lN:=aC pp0
    have t7:=t4.trans (Gr.ext t4.j (Keep.drew (aJ (.cells #[.slice saa f.s.length sac,.slice eaa f.e.length eac,.slice kva f.ks.length kvc,.int .i8 0] 61))))
    refine dQ @pp0 @pp1 @pp2 ?_
    refine bF (.read 0 (sq [2,3] (.eff 1 [] (.eff 4 [] (sq [5] .done))))) ?_
    refine bu @aA ?_
    refine dB (hS.inc t7.j) (hE.inc t7.j) ((hQ.inc KB.mono t7.j).imp fun _ _ _ _ h=>KB.key h) ⟨0,rfl⟩ (by have:=ok.l; omega) t7.j fun d8 w8 kv8 g8 s8 => ?_
    have t8:=t7.trans g8
    obtain ⟨ka8,kc8,rfl⟩:=s8.form
    have q0:=t8.x.cell q0
    have q1:=t8.x.cell q1
    have q2:=t8.x.cell q2
    have fq8:∀ o,w8.frozen? ⟨N+1,o,none⟩=false:=fun o=>by rw [t8.x.frozen _ o (by omega)]; exact fq o
    simp only [str]
    refine eO @q0 @q1 @q2 @fq8 ?_
    have o8:cj d8 (N+1):=t8.o _ (by omega) (hinc.out (by omega))
    exact hk d8 _ _ ⟨aj (aj (aj (x1.trans t8.x) (by omega)) (by omega)) (by omega),t8.i,((t8.j.set o8).set o8).set o8,fun b hb ho=>t8.o b (by omega) ho⟩ s8
   ·
    obtain ⟨M,hM⟩:∃ M,M=w3.heap.size:=⟨_,rfl⟩
    obtain ⟨w4,hw4⟩:∃ wz,wz=w3.alloc (.cells #[.slice none 0 0,.slice none 0 0,.slice none 0 0,.int .i8 0] 61):=⟨_,rfl⟩
    have xm:bp w3 w4:=by rw [hw4]; exact aJ _
    have zm:w4.heap.size=M+1:=by rw [hw4,hM,World.size_alloc]
    have t4:=t3.trans (Gr.ext t3.j xm)
    have m0:w4.cell? ⟨M,0,none⟩=some (.slice none 0 0):=by rw [hw4,hM]; exact bX @aA
    have m1:w4.cell? ⟨M,1,none⟩=some (.slice none 0 0):=by rw [hw4,hM]; exact bX @aA
    have m2:w4.cell? ⟨M,2,none⟩=some (.slice none 0 0):=by rw [hw4,hM]; exact bX @aA
    have m3:w4.cell? ⟨M,3,none⟩=some (.int .i8 0):=by rw [hw4,hM]; exact bX @aA
    have fm:∀ o,w4.frozen? ⟨M,o,none⟩=false:=fun o=>by rw [hw4,hM]; exact bX @br
    have pp0:=t4.x.cell p0
    have pp1:=t4.x.cell p1
    have pp2:=t4.x.cell p2
    have lN:=aC pp0
    have oM:=t3.j.out (b:=M) (by omega)
    have hM1:w1.heap.size≤M:=by have:=t3.x.size; omega
    rw [← hw4,← hM]
    refine gA ok bK bV t4.j fun d5 w5 sa ea kv g5 hS hE hQ => ?_
    have t5:=t4.trans g5
    obtain ⟨saa,sac,rfl⟩:=aY hS
    obtain ⟨eaa,eac,rfl⟩:=aY hE
    obtain ⟨kva,kvc,rfl⟩:=hQ.form
    have pp0:=t5.x.cell p0
    have pp1:=t5.x.cell p1
    have pp2:=t5.x.cell p2
    have lN:=aC pp0
    have hfb:True:=trivial
    have lM:=aC m0
    have oM:=g5.o M lM oM
    have m0:=g5.x.cell m0
    have m1:=g5.x.cell m1
    have m2:=g5.x.cell m2
    have m3:=g5.x.cell m3
    have fm:∀ o,w5.frozen? ⟨M,o,none⟩=false:=fun o=>by rw [g5.x.frozen _ o lM]; exact fm o
    refine rS @pp0 @pp1 @pp2 @m0 @m1 @m2 @m3 @fm ?_
    obtain ⟨W,hW⟩:∃ W,W=((((w5.setCell ⟨M,0,none⟩ (.slice saa f.s.length sac)).setCell ⟨M,1,none⟩ (.slice eaa f.e.length eac)).setCell ⟨M,2,none⟩ (.slice kva f.ks.length kvc)).setCell ⟨M,3,none⟩ (.int .i8 0)).drew:=⟨_,rfl⟩
    have e0:W.cell? ⟨M,0,none⟩=some (.slice saa f.s.length sac):=by rw [hW]; exact bX @m0
    have e1:W.cell? ⟨M,1,none⟩=some (.slice eaa f.e.length eac):=by rw [hW]; exact bX @m1
    have e2:W.cell? ⟨M,2,none⟩=some (.slice kva f.ks.length kvc):=by rw [hW]; exact bX @m2
    have e3:W.cell? ⟨M,3,none⟩=some (.int .i8 0):=by rw [hW]; exact bX @m3
    have t7:Gr d w1 d5 W:=by
     rw [hW]
     have hMl:=aC m0
     exact ⟨Keep.drew (aj (aj (aj (aj t5.x hM1) hM1) hM1) hM1),t5.i,cM.drew ((((t5.j.set oM).set oM).set oM).set oM),t5.o⟩
    refine bF (.read 0 (sq [2,3] (.eff 1 [] (.eff 4 [] (sq [5] .done))))) ?_
    rw [← hW]
    refine eO @e0 @e1 @e2 @e3 ?_
    refine dB (hS.inc t7.j) (hE.inc t7.j) ((hQ.inc KB.mono t7.j).imp fun _ _ _ _ h=>KB.key h) ⟨0,rfl⟩ (by have:=ok.l; omega) t7.j fun d8 w8 kv8 g8 s8 => ?_
    have t8:=t7.trans g8
    obtain ⟨ka8,kc8,rfl⟩:=s8.form
    have q0:=t8.x.cell q0
    have q1:=t8.x.cell q1
    have q2:=t8.x.cell q2
    have fq8:∀ o,w8.frozen? ⟨N+1,o,none⟩=false:=fun o=>by rw [t8.x.frozen _ o (by omega)]; exact fq o
    simp only [str]
    refine eO @q0 @q1 @q2 @fq8 ?_
    have o8:cj d8 (N+1):=t8.o _ (by omega) (hinc.out (by omega))
    exact hk d8 _ _ ⟨aj (aj (aj (x1.trans t8.x) (by omega)) (by omega)) (by omega),t8.i,((t8.j.set o8).set o8).set o8,fun b hb ho=>t8.o b (by omega) ho⟩ s8
  ·
   obtain ⟨M,hM⟩:∃ M,M=w2.heap.size:=⟨_,rfl⟩
   obtain ⟨w3,hw3⟩:∃ wz,wz=w2.alloc (.cells #[.slice none 0 0,.slice none 0 0,.slice none 0 0,.int .i8 0] 61):=⟨_,rfl⟩
   have xm:bp w2 w3:=by rw [hw3]; exact aJ _
   have zm:w3.heap.size=M+1:=by rw [hw3,hM,World.size_alloc]
   have t3:=t2.trans (Gr.ext t2.j xm)
   have m0:w3.cell? ⟨M,0,none⟩=some (.slice none 0 0):=by rw [hw3,hM]; exact bX @aA
   have m1:w3.cell? ⟨M,1,none⟩=some (.slice none 0 0):=by rw [hw3,hM]; exact bX @aA
   have m2:w3.cell? ⟨M,2,none⟩=some (.slice none 0 0):=by rw [hw3,hM]; exact bX @aA
   have m3:w3.cell? ⟨M,3,none⟩=some (.int .i8 0):=by rw [hw3,hM]; exact bX @aA
   have fm:∀ o,w3.frozen? ⟨M,o,none⟩=false:=fun o=>by rw [hw3,hM]; exact bX @br
   have pp0:=t3.x.cell p0
   have pp1:=t3.x.cell p1
   have pp2:=t3.x.cell p2
   have lN:=aC pp0
   have oM:=t2.j.out (b:=M) (by omega)
   have hM1:w1.heap.size≤M:=by have:=t2.x.size; omega
   rw [← hw3,← hM]
   refine pC t3.j hs32 fun d4 w4 ka g4 bK _ => ?_
   have t4:=t3.trans g4
   obtain ⟨kaa,kac,rfl⟩:=aY bK
   have pp0:=t4.x.cell p0
   have pp1:=t4.x.cell p1
   have pp2:=t4.x.cell p2
   have lN:=aC pp0
   have bV:=bV.inc g4.i
   have lM:=aC m0
   have oM:=g4.o M lM oM
   have m0:=g4.x.cell m0
   have m1:=g4.x.cell m1
   have m2:=g4.x.cell m2
   have m3:=g4.x.cell m3
   have fm:∀ o,w4.frozen? ⟨M,o,none⟩=false:=fun o=>by rw [g4.x.frozen _ o lM]; exact fm o
   refine dQ @pp0 @pp1 @pp2 ?_
   refine gA ok bK bV t4.j fun d5 w5 sa ea kv g5 hS hE hQ => ?_
   have t5:=t4.trans g5
   obtain ⟨saa,sac,rfl⟩:=aY hS
   obtain ⟨eaa,eac,rfl⟩:=aY hE
   obtain ⟨kva,kvc,rfl⟩:=hQ.form
   have pp0:=t5.x.cell p0
   have pp1:=t5.x.cell p1
   have pp2:=t5.x.cell p2
   have lN:=aC pp0
   have hfb:True:=trivial
   have lM:=aC m0
   have oM:=g5.o M lM oM
   have m0:=g5.x.cell m0
   have m1:=g5.x.cell m1
   have m2:=g5.x.cell m2
   have m3:=g5.x.cell m3
   have fm:∀ o,w5.frozen? ⟨M,o,none⟩=false:=fun o=>by rw [g5.x.frozen _ o lM]; exact fm o
   refine rS @pp0 @pp1 @pp2 @m0 @m1 @m2 @m3 @fm ?_
   obtain ⟨W,hW⟩:∃ W,W=((((w5.setCell ⟨M,0,none⟩ (.slice saa f.s.length sac)).setCell ⟨M,1,none⟩ (.slice eaa f.e.length eac)).setCell ⟨M,2,none⟩ (.slice kva f.ks.length kvc)).setCell ⟨M,3,none⟩ (.int .i8 0)).drew:=⟨_,rfl⟩
   have e0:W.cell? ⟨M,0,none⟩=some (.slice saa f.s.length sac):=by rw [hW]; exact bX @m0
   have e1:W.cell? ⟨M,1,none⟩=some (.slice eaa f.e.length eac):=by rw [hW]; exact bX @m1
   have e2:W.cell? ⟨M,2,none⟩=some (.slice kva f.ks.length kvc):=by rw [hW]; exact bX @m2
   have e3:W.cell? ⟨M,3,none⟩=some (.int .i8 0):=by rw [hW]; exact bX @m3
   have t7:Gr d w1 d5 W:=by
    rw [hW]
    have hMl:=aC m0
    exact ⟨Keep.drew (aj (aj (aj (aj t5.x hM1) hM1) hM1) hM1),t5.i,cM.drew ((((t5.j.set oM).set oM).set oM).set oM),t5.o⟩
   refine bF (.read 0 (sq [2,3] (.eff 1 [] (.eff 4 [] (sq [5] .done))))) ?_
   rw [← hW]
   refine eO @e0 @e1 @e2 @e3 ?_
   refine dB (hS.inc t7.j) (hE.inc t7.j) ((hQ.inc KB.mono t7.j).imp fun _ _ _ _ h=>KB.key h) ⟨0,rfl⟩ (by have:=ok.l; omega) t7.j fun d8 w8 kv8 g8 s8 => ?_
   have t8:=t7.trans g8
   obtain ⟨ka8,kc8,rfl⟩:=s8.form
   have q0:=t8.x.cell q0
   have q1:=t8.x.cell q1
   have q2:=t8.x.cell q2
   have fq8:∀ o,w8.frozen? ⟨N+1,o,none⟩=false:=fun o=>by rw [t8.x.frozen _ o (by omega)]; exact fq o
   simp only [str]
   refine eO @q0 @q1 @q2 @fq8 ?_
   have o8:cj d8 (N+1):=t8.o _ (by omega) (hinc.out (by omega))
   exact hk d8 _ _ ⟨aj (aj (aj (x1.trans t8.x) (by omega)) (by omega)) (by omega),t8.i,((t8.j.set o8).set o8).set o8,fun b hb ho=>t8.o b (by omega) ho⟩ s8
 ·
  obtain ⟨M,hM⟩:∃ M,M=w1.heap.size:=⟨_,rfl⟩
  obtain ⟨w2,hw2⟩:∃ wz,wz=w1.alloc (.cells #[.slice none 0 0,.slice none 0 0,.slice none 0 0,.int .i8 0] 61):=⟨_,rfl⟩
  have xm:bp w1 w2:=by rw [hw2]; exact aJ _
  have zm:w2.heap.size=M+1:=by rw [hw2,hM,World.size_alloc]
  have t2:=t1.trans (Gr.ext t1.j xm)
  have m0:w2.cell? ⟨M,0,none⟩=some (.slice none 0 0):=by rw [hw2,hM]; exact bX @aA
  have m1:w2.cell? ⟨M,1,none⟩=some (.slice none 0 0):=by rw [hw2,hM]; exact bX @aA
  have m2:w2.cell? ⟨M,2,none⟩=some (.slice none 0 0):=by rw [hw2,hM]; exact bX @aA
  have m3:w2.cell? ⟨M,3,none⟩=some (.int .i8 0):=by rw [hw2,hM]; exact bX @aA
  have fm:∀ o,w2.frozen? ⟨M,o,none⟩=false:=fun o=>by rw [hw2,hM]; exact bX @br
  have pp0:=t2.x.cell p0
  have pp1:=t2.x.cell p1
  have pp2:=t2.x.cell p2
  have lN:=aC pp0
  have oM:=t1.j.out (b:=M) (by omega)
  have hM1:w1.heap.size≤M:=by have:=t1.x.size; omega
  rw [← hw2,← hM]
  refine ⟨?_,?_⟩
  ·
   refine pC t2.j hs32 fun d3 w3 ka g3 bK _ => ?_
   have t3:=t2.trans g3
   obtain ⟨kaa,kac,rfl⟩:=aY bK
   have pp0:=t3.x.cell p0
   have pp1:=t3.x.cell p1
   have pp2:=t3.x.cell p2
   have lN:=aC pp0
   have lM:=aC m0
   have oM:=g3.o M lM oM
   have m0:=g3.x.cell m0
   have m1:=g3.x.cell m1
   have m2:=g3.x.cell m2
   have m3:=g3.x.cell m3
   have fm:∀ o,w3.frozen? ⟨M,o,none⟩=false:=fun o=>by rw [g3.x.frozen _ o lM]; exact fm o
   refine dQ @pp0 @pp1 @pp2 ?_
   refine sd t3.j hvl fun d4 w4 va g4 bV => ?_
   have t4:=t3.trans g4
   obtain ⟨vaa,vac,rfl,_⟩:=bV.form
   have pp0:=t4.x.cell p0
   have pp1:=t4.x.cell p1
   have pp2:=t4.x.cell p2
   have lN:=aC pp0
   have bK:=bK.inc g4.i
   have lM:=aC m0
   have oM:=g4.o M lM oM
   have m0:=g4.x.cell m0
   have m1:=g4.x.cell m1
   have m2:=g4.x.cell m2
   have m3:=g4.x.cell m3
   have fm:∀ o,w4.frozen? ⟨M,o,none⟩=false:=fun o=>by rw [g4.x.frozen _ o lM]; exact fm o
   refine dQ @pp0 @pp1 @pp2 ?_
   refine gA ok bK bV t4.j fun d5 w5 sa ea kv g5 hS hE hQ => ?_
   have t5:=t4.trans g5
   obtain ⟨saa,sac,rfl⟩:=aY hS
   obtain ⟨eaa,eac,rfl⟩:=aY hE
   obtain ⟨kva,kvc,rfl⟩:=hQ.form
   have pp0:=t5.x.cell p0
   have pp1:=t5.x.cell p1
   have pp2:=t5.x.cell p2
   have lN:=aC pp0
   have hfb:True:=trivial
   have lM:=aC m0
   have oM:=g5.o M lM oM
   have m0:=g5.x.cell m0
   have m1:=g5.x.cell m1
   have m2:=g5.x.cell m2
   have m3:=g5.x.cell m3
   have fm:∀ o,w5.frozen? ⟨M,o,none⟩=false:=fun o=>by rw [g5.x.frozen _ o lM]; exact fm o
   refine rS @pp0 @pp1 @pp2 @m0 @m1 @m2 @m3 @fm ?_
   obtain ⟨W,hW⟩:∃ W,W=((((w5.setCell ⟨M,0,none⟩ (.slice saa f.s.length sac)).setCell ⟨M,1,none⟩ (.slice eaa f.e.length eac)).setCell ⟨M,2,none⟩ (.slice kva f.ks.length kvc)).setCell ⟨M,3,none⟩ (.int .i8 0)).drew:=⟨_,rfl⟩
   have e0:W.cell? ⟨M,0,none⟩=some (.slice saa f.s.length sac):=by rw [hW]; exact bX @m0
   have e1:W.cell? ⟨M,1,none⟩=some (.slice eaa f.e.length eac):=by rw [hW]; exact bX @m1
   have e2:W.cell? ⟨M,2,none⟩=some (.slice kva f.ks.length kvc):=by rw [hW]; exact bX @m2
   have e3:W.cell? ⟨M,3,none⟩=some (.int .i8 0):=by rw [hW]; exact bX @m3
   have t7:Gr d w1 d5 W:=by
    rw [hW]
    have hMl:=aC m0
    exact ⟨Keep.drew (aj (aj (aj (aj t5.x hM1) hM1) hM1) hM1),t5.i,cM.drew ((((t5.j.set oM).set oM).set oM).set oM),t5.o⟩
   refine bF (.read 0 (sq [2,3] (.eff 1 [] (.eff 4 [] (sq [5] .done))))) ?_
   rw [← hW]
   refine eO @e0 @e1 @e2 @e3 ?_
   refine dB (hS.inc t7.j) (hE.inc t7.j) ((hQ.inc KB.mono t7.j).imp fun _ _ _ _ h=>KB.key h) ⟨0,rfl⟩ (by have:=ok.l; omega) t7.j fun d8 w8 kv8 g8 s8 => ?_
   have t8:=t7.trans g8
   obtain ⟨ka8,kc8,rfl⟩:=s8.form
   have q0:=t8.x.cell q0
   have q1:=t8.x.cell q1
   have q2:=t8.x.cell q2
   have fq8:∀ o,w8.frozen? ⟨N+1,o,none⟩=false:=fun o=>by rw [t8.x.frozen _ o (by omega)]; exact fq o
   simp only [str]
   refine eO @q0 @q1 @q2 @fq8 ?_
   have o8:cj d8 (N+1):=t8.o _ (by omega) (hinc.out (by omega))
   exact hk d8 _ _ ⟨aj (aj (aj (x1.trans t8.x) (by omega)) (by omega)) (by omega),t8.i,((t8.j.set o8).set o8).set o8,fun b hb ho=>t8.o b (by omega) ho⟩ s8
  ·
   refine sd t2.j hvl fun d3 w3 va g3 bV => ?_
   have t3:=t2.trans g3
   obtain ⟨vaa,vac,rfl,_⟩:=bV.form
   have pp0:=t3.x.cell p0
   have pp1:=t3.x.cell p1
   have pp2:=t3.x.cell p2
   have lN:=aC pp0
   have lM:=aC m0
   have oM:=g3.o M lM oM
   have m0:=g3.x.cell m0
   have m1:=g3.x.cell m1
   have m2:=g3.x.cell m2
   have m3:=g3.x.cell m3
   have fm:∀ o,w3.frozen? ⟨M,o,none⟩=false:=fun o=>by rw [g3.x.frozen _ o lM]; exact fm o
   refine dQ @pp0 @pp1 @pp2 ?_
   refine pC t3.j hs32 fun d4 w4 ka g4 bK _ => ?_
   have t4:=t3.trans g4
   obtain ⟨kaa,kac,rfl⟩:=aY bK
   have pp0:=t4.x.cell p0
   have pp1:=t4.x.cell p1
   have pp2:=t4.x.cell p2
   have lN:=aC pp0
   have bV:=bV.inc g4.i
   have lM:=aC m0
   have oM:=g4.o M lM oM
   have m0:=g4.x.cell m0
   have m1:=g4.x.cell m1
   have m2:=g4.x.cell m2
   have m3:=g4.x.cell m3
   have fm:∀ o,w4.frozen? ⟨M,o,none⟩=false:=fun o=>by rw [g4.x.frozen _ o lM]; exact fm o
   refine dQ @pp0 @pp1 @pp2 ?_
   refine gA ok bK bV t4.j fun d5 w5 sa ea kv g5 hS hE hQ => ?_
   have t5:=t4.trans g5
   obtain ⟨saa,sac,rfl⟩:=aY hS
   obtain ⟨eaa,eac,rfl⟩:=aY hE
   obtain ⟨kva,kvc,rfl⟩:=hQ.form
   have pp0:=t5.x.cell p0
   have pp1:=t5.x.cell p1
   have pp2:=t5.x.cell p2
   have lN:=aC pp0
   have hfb:True:=trivial
   have lM:=aC m0
   have oM:=g5.o M lM oM
   have m0:=g5.x.cell m0
   have m1:=g5.x.cell m1
   have m2:=g5.x.cell m2
   have m3:=g5.x.cell m3
   have fm:∀ o,w5.frozen? ⟨M,o,none⟩=false:=fun o=>by rw [g5.x.frozen _ o lM]; exact fm o
   refine rS @pp0 @pp1 @pp2 @m0 @m1 @m2 @m3 @fm ?_
   obtain ⟨W,hW⟩:∃ W,W=((((w5.setCell ⟨M,0,none⟩ (.slice saa f.s.length sac)).setCell ⟨M,1,none⟩ (.slice eaa f.e.length eac)).setCell ⟨M,2,none⟩ (.slice kva f.ks.length kvc)).setCell ⟨M,3,none⟩ (.int .i8 0)).drew:=⟨_,rfl⟩
   have e0:W.cell? ⟨M,0,none⟩=some (.slice saa f.s.length sac):=by rw [hW]; exact bX @m0
   have e1:W.cell? ⟨M,1,none⟩=some (.slice eaa f.e.length eac):=by rw [hW]; exact bX @m1
   have e2:W.cell? ⟨M,2,none⟩=some (.slice kva f.ks.length kvc):=by rw [hW]; exact bX @m2
   have e3:W.cell? ⟨M,3,none⟩=some (.int .i8 0):=by rw [hW]; exact bX @m3
   have t7:Gr d w1 d5 W:=by
    rw [hW]
    have hMl:=aC m0
    exact ⟨Keep.drew (aj (aj (aj (aj t5.x hM1) hM1) hM1) hM1),t5.i,cM.drew ((((t5.j.set oM).set oM).set oM).set oM),t5.o⟩
   refine bF (.read 0 (sq [2,3] (.eff 1 [] (.eff 4 [] (sq [5] .done))))) ?_
   rw [← hW]
   refine eO @e0 @e1 @e2 @e3 ?_
   refine dB (hS.inc t7.j) (hE.inc t7.j) ((hQ.inc KB.mono t7.j).imp fun _ _ _ _ h=>KB.key h) ⟨0,rfl⟩ (by have:=ok.l; omega) t7.j fun d8 w8 kv8 g8 s8 => ?_
   have t8:=t7.trans g8
   obtain ⟨ka8,kc8,rfl⟩:=s8.form
   have q0:=t8.x.cell q0
   have q1:=t8.x.cell q1
   have q2:=t8.x.cell q2
   have fq8:∀ o,w8.frozen? ⟨N+1,o,none⟩=false:=fun o=>by rw [t8.x.frozen _ o (by omega)]; exact fq o
   simp only [str]
   refine eO @q0 @q1 @q2 @fq8 ?_
   have o8:cj d8 (N+1):=t8.o _ (by omega) (hinc.out (by omega))
   exact hk d8 _ _ ⟨aj (aj (aj (x1.trans t8.x) (by omega)) (by omega)) (by omega),t8.i,((t8.j.set o8).set o8).set o8,fun b hb ho=>t8.o b (by omega) ho⟩ s8
end
end Go.Proofs
end
section
namespace Go.E
open Go Go.Sort Go.Proofs Go.Proofs.Tryz
theorem Gr.mut {d w d1 w1 w2:World} {M:Nat→Nat→Prop} (g:Gr d w d1 w1) (k:Keep M w1 w2) (hM:∀ b o,M b o→w.heap.size≤b∧cj d1 b):Gr d w d1 w2:=by
 refine ⟨g.x.tr k fun b o hb hm=>by have:=(hM b o hm).1; omega,g.i,fun b o u hu=>k.some (g.j _ _ _ hu) fun hm => ?_,g.o⟩
 rw [(hM b o hm).2 o] at hu
 simp at hu
end Go.E
namespace Go.Proofs
open Go Go.E Go.Sort Go.Proofs.Tryz
section
variable {k:aq} {d w:World}
theorem zv {v:Value} {l:List K} (hv:Sl KE 3 d v l) (hl:l.length≤100000) (hinc:cM d w) (hk:∀ d' w' v',Gr d w d' w'→Sl KE 3 d' v' l→k v' w'):ai prog 27 #[v] k w:=by
 obtain ⟨ka,kc,rfl⟩:=hv.form
 refine al [.tmp 2] func27 ?_
 refine bA ?_
 refine bZ (fun b:Nat × Value=>[(3,b.2),(6,.slice ka l.length kc),(7,.int .i64 l.length),(8,.int .i64 b.1)])
  (fun b w'=>b.1≤l.length∧∃ d1,LoopL KE 3 91 d w d1 w' b.2 (l.take b.1)) (fun b _=>l.length - b.1) (0,.slice none 0 0) (by kernel_rfl) ?_ ⟨aT _,d,LoopL.nil hinc⟩ ?_
 ·exact bU
 rintro K2 e ⟨i,v⟩ w1 ⟨i2,d1,i3⟩ hK2
 simp only at i2 i3
 rcases aH i l.length with hi | hi
 rotate_left
 ·have hi':¬ (i:Int) < l.length:=by omega
  refine bu @hi' ?_
  obtain rfl:i=l.length:=by omega
  rw [ag] at i3
  obtain ⟨d2,g2,_,_,s2⟩:=i3.done KE.mono
  exact hk d2 w1 v g2 s2
 have hi':(i:Int) < l.length:=by omega
 obtain ⟨g,f,c,hv',hc,hat⟩:=(hv.inc KE.mono i3.g.i).at (by omega)
 obtain ⟨rfl,rfl⟩:=sEq hv'
 obtain ⟨x,hx⟩:=gEl hi
 obtain ⟨cs,_,hcs,hR⟩:=hat i x hx
 have hmem:=aO hx
 obtain ⟨rfl,htr⟩:=hR
 have h0:w1.cell? ⟨g,f+i * 3,none⟩=some (.int .u64 x.tr):=i3.g.j _ _ _ (hcs 0 _ rfl)
 have h1:w1.cell? ⟨g,f+i * 3+1,none⟩=some (.string ⟨x.suf.toArray⟩):=i3.g.j _ _ _ (hcs 1 _ rfl)
 have h2:w1.cell? ⟨g,f+i * 3+2,none⟩=some (.string ⟨x.val.toArray⟩):=i3.g.j _ _ _ (hcs 2 _ rfl)
 obtain ⟨va,vcap,rfl,_⟩:=i3.form
 have i4:=i3.ext KE.mono (aJ (.cells #[.int .u64 x.tr,.string ⟨x.suf.toArray⟩,.string ⟨x.val.toArray⟩] 53))
 obtain ⟨css,o4⟩:=i4.o
 refine hJ @hi' @h0 @h1 @h2 @aA ?_
 refine iL x [.int .u64 x.tr,.string ⟨x.suf.toArray⟩,.string ⟨x.val.toArray⟩] rw35 o4 ⟨rfl,htr⟩ rfl (.inl rfl) (World.size_alloc _ _).symm rfl (by simp [Value.oneCell']) (by rw [dV i2]; omega) i4.g.j fun v2 w2 o2 k2 n2 j2 _ => ?_
 refine bA ?_
 refine hK2 _ _ (i+1,v2) ?_ ⟨hi,d1,?_⟩ (by simp only; omega)
 ·exact bU
 ·rw [bz hx]
  exact i4.more o2 k2 n2 j2
theorem sf {kv:Value} {x:Sp} (hv:Sl KE 3 d kv x.ks) (hl:x.ks.length≤100000) (hinc:cM d w) (hk:∀ d' w' v',Gr d w d' w'→Sl KE 3 d' v' x.ks→k (.agg #[.string ⟨x.s.toArray⟩,.string ⟨x.e.toArray⟩,v']) w') :
    ai prog 9 #[.agg #[.string ⟨x.s.toArray⟩,.string ⟨x.e.toArray⟩,kv]] k w:=by
 obtain ⟨ka,kc,rfl⟩:=hv.form
 refine al [.cell 2 37] func9 ?_
 refine bA ?_
 refine bF (sq [0] (.read 1 (sq [2] (.read 3 (sq [4] (.read 5 (.eff 6 [1,3] (sq [7] (.eff 8 [] .done))))))))) ?_
 obtain ⟨A,hA⟩:∃ A,A=w.heap.size:=⟨_,rfl⟩
 obtain ⟨W,hW⟩:∃ W,W=((w.alloc (.cells #[.string ⟨x.s.toArray⟩,.string ⟨x.e.toArray⟩,.slice ka x.ks.length kc] 30)).alloc (.cells #[.string ByteArray.empty,.string ByteArray.empty,.slice none 0 0] 37)).drew:=⟨_,rfl⟩
 have xW:bp w W:=by rw [hW]; exact bp.drew' ((aJ _).trans (aJ _))
 have a0:W.cell? ⟨A,0,none⟩=some (.string ⟨x.s.toArray⟩):=by rw [hW,hA]; exact bX @aA
 have a1:W.cell? ⟨A,1,none⟩=some (.string ⟨x.e.toArray⟩):=by rw [hW,hA]; exact bX @aA
 have b0:W.cell? ⟨A+1,0,none⟩=some (.string ByteArray.empty):=by rw [hW,hA]; exact bX @aA
 have b1:W.cell? ⟨A+1,1,none⟩=some (.string ByteArray.empty):=by rw [hW,hA]; exact bX @aA
 have b2:W.cell? ⟨A+1,2,none⟩=some (.slice none 0 0):=by rw [hW,hA]; exact bX @aA
 have fz:∀ y,W.frozen? ⟨A+1,y,none⟩=false:=fun y=>by rw [hW,hA]; exact bX @br
 have zW:W.heap.size=A+2:=by rw [hW,hA]; simp only [World.size_drew,World.size_alloc]
 refine bu @aA ?_
 rw [← hA,← hW]
 refine zv hv hl (hinc.trans xW.inc) fun d1 w1 v1 g1 s1 => ?_
 obtain ⟨va,vc,rfl⟩:=s1.form
 have a0:=g1.x.cell a0
 have a1:=g1.x.cell a1
 have b0:=g1.x.cell b0
 have b1:=g1.x.cell b1
 have b2:=g1.x.cell b2
 have fz:∀ y,w1.frozen? ⟨A+1,y,none⟩=false:=fun y=>by rw [g1.x.frozen _ y (by omega)]; exact fz y
 have hoA:cj d (A+1):=hinc.out (by omega)
 refine qh @a0 @a1 @b0 @b1 @b2 @fz ?_
 have kk:=(((Keep.refl (M:=fun b _=>b=A+1) w1).set (b:=A+1) (o:=0) (v := .string ⟨x.s.toArray⟩) fun _=>rfl).set (b:=A+1) (o:=1) (v := .string ⟨x.e.toArray⟩) fun _=>rfl).set (b:=A+1) (o:=2) (v := .slice va x.ks.length vc) fun _=>rfl
 exact hk _ _ _ (((Gr.ext hinc xW).trans g1).mut kk fun b o h=>by
  subst h
  exact ⟨by omega,g1.o _ (by omega) hoA⟩) s1
theorem yU {v:Value} {l:List Sp} (hv:Sl dh 3 d v l) (hl:l.length≤100000) (hks:∀ x ∈ l,x.ks.length≤100000) (hinc:cM d w) (hk:∀ d' w' v',Gr d w d' w'→Sl dh 3 d' v' l→k v' w'):ai prog 69 #[v] k w:=by
 obtain ⟨ka,kc,rfl⟩:=hv.form
 refine al [.tmp 2] func69 ?_
 refine bA ?_
 refine bZ (fun b:Nat × Value=>[(3,b.2),(6,.slice ka l.length kc),(7,.int .i64 l.length),(8,.int .i64 b.1)])
  (fun b w'=>b.1≤l.length∧∃ d1,LoopL dh 3 37 d w d1 w' b.2 (l.take b.1)) (fun b _=>l.length - b.1) (0,.slice none 0 0) (by kernel_rfl) ?_ ⟨aT _,d,LoopL.nil hinc⟩ ?_
 ·exact bU
 rintro K2 e ⟨i,v⟩ w1 ⟨i2,d1,i3⟩ hK2
 simp only at i2 i3
 rcases aH i l.length with hi | hi
 rotate_left
 ·have hi':¬ (i:Int) < l.length:=by omega
  refine bu @hi' ?_
  obtain rfl:i=l.length:=by omega
  rw [ag] at i3
  obtain ⟨d2,g2,_,_,s2⟩:=i3.done dh.mono
  exact hk d2 w1 v g2 s2
 have hi':(i:Int) < l.length:=by omega
 obtain ⟨g,f,c,hv',hc,hat⟩:=(hv.inc dh.mono i3.g.i).at (by omega)
 obtain ⟨rfl,rfl⟩:=sEq hv'
 obtain ⟨x,hx⟩:=gEl hi
 obtain ⟨cs,_,hcs,hR⟩:=hat i x hx
 have hmem:=aO hx
 obtain ⟨kv,rfl,hkv⟩:=hR
 obtain ⟨kva,kvc,rfl⟩:=hkv.form
 have h0:w1.cell? ⟨g,f+i * 3,none⟩=some (.string ⟨x.s.toArray⟩):=i3.g.j _ _ _ (hcs 0 _ rfl)
 have h1:w1.cell? ⟨g,f+i * 3+1,none⟩=some (.string ⟨x.e.toArray⟩):=i3.g.j _ _ _ (hcs 1 _ rfl)
 have h2:w1.cell? ⟨g,f+i * 3+2,none⟩=some (.slice kva x.ks.length kvc):=i3.g.j _ _ _ (hcs 2 _ rfl)
 have i4:=i3.ext dh.mono (aJ (.cells #[.string ⟨x.s.toArray⟩,.string ⟨x.e.toArray⟩,.slice kva x.ks.length kvc] 30))
 refine hJ @hi' @h0 @h1 @h2 @aA ?_
 refine sf (x:=x) hkv (hks x hmem) i4.g.j fun d4 w4 v4 g4 s4 => ?_
 have i5:=i4.call dh.mono g4
 obtain ⟨css,o5⟩:=i5.o
 obtain ⟨va,vcap,rfl,_⟩:=i5.form
 obtain ⟨k4,c4,rfl⟩:=s4.form
 refine bA ?_
 refine iL x [.string ⟨x.s.toArray⟩,.string ⟨x.e.toArray⟩,.slice k4 x.ks.length c4] rw27 o5 ⟨_,rfl,s4⟩ rfl (.inl rfl) rfl rfl (by simp [Value.oneCell']) (by rw [dV i2]; omega) i5.g.j fun v2 w2 o2 k2 n2 j2 _ => ?_
 refine bA ?_
 refine hK2 _ _ (i+1,v2) ?_ ⟨hi,d4,?_⟩ (by simp only; omega)
 ·exact bU
 ·rw [bz hx]
  exact i5.more o2 k2 n2 j2
theorem wG {v:Value} {l:List (List Sp)} (hv:Sl pe 1 d v l) (hl:l.length≤100000) (hs:∀ x ∈ l,x.length≤100000∧∀ y ∈ x,y.ks.length≤100000) (hinc:cM d w) (hk:∀ d' w' v',Gr d w d' w'→Sl pe 1 d' v' l→k v' w'):ai prog 38 #[v] k w:=by
 obtain ⟨ka,kc,rfl⟩:=hv.form
 refine al [.tmp 2] func38 ?_
 refine bA ?_
 refine bZ (fun b:Nat × Value=>[(3,b.2),(6,.slice ka l.length kc),(7,.int .i64 l.length),(8,.int .i64 b.1)])
  (fun b w'=>b.1≤l.length∧∃ d1,LoopL pe 1 27 d w d1 w' b.2 (l.take b.1)) (fun b _=>l.length - b.1) (0,.slice none 0 0) (by kernel_rfl) ?_ ⟨aT _,d,LoopL.nil hinc⟩ ?_
 ·exact bU
 rintro K2 e ⟨i,v⟩ w1 ⟨i2,d1,i3⟩ hK2
 simp only at i2 i3
 rcases aH i l.length with hi | hi
 rotate_left
 ·have hi':¬ (i:Int) < l.length:=by omega
  refine bu @hi' ?_
  obtain rfl:i=l.length:=by omega
  rw [ag] at i3
  obtain ⟨d2,g2,_,_,s2⟩:=i3.done pe.mono
  exact hk d2 w1 v g2 s2
 have hi':(i:Int) < l.length:=by omega
 obtain ⟨g,f,c,hv',hc,hat⟩:=(hv.inc pe.mono i3.g.i).at (by omega)
 obtain ⟨rfl,rfl⟩:=sEq hv'
 obtain ⟨x,hx⟩:=gEl hi
 obtain ⟨cs,_,hcs,hR⟩:=hat i x hx
 have hmem:=aO hx
 obtain ⟨kv,rfl,hkv⟩:=hR
 obtain ⟨kva,kvc,rfl⟩:=hkv.form
 have h0:w1.cell? ⟨g,f+i * 1,none⟩=some (.slice kva x.length kvc):=i3.g.j _ _ _ (hcs 0 _ rfl)
 refine dO @hi' @h0 ?_
 refine yU hkv (hs x hmem).1 (hs x hmem).2 i3.g.j fun d4 w4 v4 g4 s4 => ?_
 have i5:=i3.call pe.mono g4
 obtain ⟨css,o5⟩:=i5.o
 obtain ⟨va,vcap,rfl,_⟩:=i5.form
 obtain ⟨k4,c4,rfl⟩:=s4.form
 refine bA ?_
 refine iL x [.slice k4 x.length c4] rw85 o5 ⟨_,rfl,s4⟩ rfl (.inl rfl) rfl rfl (by simp [Value.oneCell']) (by rw [dV i2]; omega) i5.g.j fun v2 w2 o2 k2 n2 j2 _ => ?_
 refine bA ?_
 refine hK2 _ _ (i+1,v2) ?_ ⟨hi,d4,?_⟩ (by simp only; omega)
 ·exact bU
 ·rw [bz hx]
  exact i5.more o2 k2 n2 j2
end
end Go.Proofs
end
section
namespace Go.E
open Go Go.Sort Go.Proofs Go.Proofs.Tryz
def La (P : Program) (t : TypeId) (l : List (TypeId × Nat)) : Bool := (P.fieldsOf t).toList.map (fun f => (f.name != "_", f.type, f.offset)) == l.map fun x => (true, x.1, x.2)
theorem Jw:La prog 53 [(23,0),(9,1),(9,2)]=true:=by kernel_rfl
theorem Er {P:Program} {t:TypeId} {cs:Array Value} {off:Nat} {v:Value} (w:World) (h:mZ P t cs off (fun u=>u=v)):(part t cs off).run P w = .ok v w:=by
 obtain ⟨u,h1,rfl⟩:=tu (w:=w) h
 exact h1
def vK (x:K):Array Value := #[.int .u64 x.tr,.string ⟨x.suf.toArray⟩,.string ⟨x.val.toArray⟩]
theorem L3 (x y:K) (w:World):(Op.equalIn 10000 53 (.agg (vK x)) (.agg (vK y))).run prog w = .ok (decide (x=y)) w:=by
 rw [show (10000:Nat)=9999+1 from rfl,run_equalIn_agg w 9999 53 _ _ (by kernel_rfl) (by kernel_rfl)]
 have hf:=Jw
 unfold La at hf
 rw [beq_iff_eq] at hf
 generalize (prog.fieldsOf 53).toList=fs at hf ⊢
 rcases fs with _ | ⟨a,_ | ⟨b,_ | ⟨c,_ | ⟨e,r⟩⟩⟩⟩
 ·simp at hf
 ·simp at hf
 ·simp at hf
 ·simp only [List.map_cons,List.map_nil,List.cons.injEq,Prod.mk.injEq,and_true,bne_iff_ne] at hf
  obtain ⟨⟨n1,t1,o1⟩,⟨n2,t2,o2⟩,n3,t3,o3⟩:=hf
  have e1:∀ (u:K) w,(part 23 (vK u) 0).run prog w = .ok (.int .u64 u.tr) w:=fun u w=>Er w rfl
  have e2:∀ (u:K) w,(part 9 (vK u) 1).run prog w = .ok (.string ⟨u.suf.toArray⟩) w:=fun u w=>Er w rfl
  have e3:∀ (u:K) w,(part 9 (vK u) 2).run prog w = .ok (.string ⟨u.val.toArray⟩) w:=fun u w=>Er w rfl
  have q1:∀ (u v:Int) w,(Op.equalIn 9999 23 (.int .u64 u) (.int .u64 v)).run prog w = .ok (u == v) w:=fun u v w=>run_equalIn_int w 9998 23 .u64 .u64 u v (by kernel_rfl)
  have q2:∀ (u v:ByteArray) w,(Op.equalIn 9999 9 (.string u) (.string v)).run prog w = .ok (u.toList == v.toList) w:=fun u v w=>run_equalIn_string w 9998 9 u v (by kernel_rfl)
  simp only [Op.eqFields,n1,n2,n3,t1,t2,t3,o1,o2,o3,if_true,if_pos,ne_eq,not_false_eq_true,Sem.run_bind,Sem.run_ite,e1,e2,e3,q1,q2,Result.andThen_ok,Sem.run_pure,ByteArray.toList_mk]
  obtain ⟨xt,xs,xv⟩:=x
  obtain ⟨yt,ys,yv⟩:=y
  simp only [K.mk.injEq]
  by_cases g1:xt=yt
  ·by_cases g2:xs=ys
   ·by_cases g3:xv=yv
    ·simp [g1,g2,g3]
    ·simp [g1,g2,g3]
   ·simp [g1,g2]
  ·have:((xt:Int) == yt)=false:=beq_false_of_ne (by omega)
   simp [g1]
   omega
 ·simp at hf
theorem Es {xo yo:Operand} {x y:K} {q:Value→Prop} (h:q (.bool (decide (x≠y)))):ct prog .neq 53 xo yo (.agg #[.int .u64 x.tr,.string ⟨x.suf.toArray⟩,.string ⟨x.val.toArray⟩]) (.agg #[.int .u64 y.tr,.string ⟨y.suf.toArray⟩,.string ⟨y.val.toArray⟩]) q:=by
 refine ⟨decide (x≠y),fun w => ?_,h⟩
 show (do eqGuard .neq 53 xo yo (.agg (vK x)) (.agg (vK y)); binOp .neq 53 (.agg (vK x)) (.agg (vK y)):Sem Value).run prog w=_
 have h1:=run_eqGuard_agg w .neq 53 xo yo (vK x) (vK y) (show prog.eqGuardType prog.depth 53=false by kernel_rfl)
 simp only [Sem.run_bind,h1,Result.andThen_ok,run_neq_struct,L3]
 simp
end Go.E
namespace Go.Proofs
open Go Go.E Go.Sort Go.Proofs.Tryz
section
variable {k:aq} {d w:World}
end
end Go.Proofs
end
