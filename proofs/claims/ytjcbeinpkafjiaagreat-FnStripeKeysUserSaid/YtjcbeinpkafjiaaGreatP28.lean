/- Parts of the proof: Km, Vq, Vr, Kn, Ko, Kp, Ta, Te. -/
import Derived.Deep.Slices
import Derived.Test.YtjcbeinpkafjiaaGreatP18
import Derived.Test.YtjcbeinpkafjiaaGreatP20
import Derived.Test.YtjcbeinpkafjiaaGreatP22
import Derived.Test.YtjcbeinpkafjiaaGreatP24
import Derived.Test.YtjcbeinpkafjiaaGreatP25
import Derived.Test.YtjcbeinpkafjiaaGreatP26
import Derived.Test.YtjcbeinpkafjiaaGreatP27
set_option linter.all false
set_option maxRecDepth 10000
section
namespace Go.E
open Go Go.Sort Go.Proofs Go.Proofs.Tryz
theorem HI {w:World} {v:Value} {l:List K} (h:Sl KE 3 w v l):∀ x ∈ l,x.tr < 18446744073709551616:=fun x hx=>by
 obtain ⟨i,hi,rfl⟩:=aU hx
 obtain ⟨g,f,c,_,_,hat⟩:=h.at (by omega)
 exact (fR (hat i _ (aC hi))).2.2.2
end Go.E
namespace Go.Proofs
open Go Go.E Go.Sort Go.Proofs.Tryz
section
variable {k:ao} {d w:World}
theorem sX {v:Value} {l:List Sp} (hv:Sl dY 3 d v l) (hl:l.length≤100000) (hks:∀ x ∈ l,x.ks.length < 100000) (hinc:bu d w) (hk:∀ d' w' v',Gr d w d' w'→Sl dY 3 d' v' (l.map (hZ cC))→k v' w'):aY prog 81 #[v] k w:=by
 obtain ⟨ka,kc,rfl⟩:=hv.form
 refine ah [.tmp 2] func81 ?_
 refine al ?_
 refine bQ (fun b:Nat × Value=>[(3,b.2),(6,.slice ka l.length kc),(7,.int .i64 l.length),(8,.int .i64 b.1)])
  (fun b w'=>b.1≤l.length∧∃ d1,LoopL dY 3 46 d w d1 w' b.2 ((l.take b.1).map (hZ cC))) (fun b _=>l.length - b.1) (0,.slice none 0 0) (by kernel_rfl) ?_ ⟨aP _,d,LoopL.nil hinc⟩ ?_
 ·exact bJ
 rintro K2 e ⟨i,vo⟩ w1 ⟨i2,d1,i3⟩ hK2
 simp only at i2 i3
 rcases aH i l.length with hi | hi
 rotate_left
 ·have hi':¬ (i:Int) < l.length:=by omega
  refine bb @hi' ?_
  obtain rfl:i=l.length:=by omega
  rw [aX] at i3
  obtain ⟨d4,g4,_,_,s4⟩:=i3.done dY.mono
  exact hk d4 w1 vo g4 s4
 have hi':(i:Int) < l.length:=by omega
 obtain ⟨g,f,c,hv',hc,hat⟩:=(hv.inc dY.mono (i3.g.i.trans i3.g.j)).at (by omega)
 obtain ⟨rfl,rfl⟩:=sEq hv'
 obtain ⟨x,hx⟩:=gEl hi
 have hxl:=hks x (aJ hx)
 obtain ⟨h0,h1,a,cc,h2,hkx⟩:=dG (hat i x hx)
 have hke:=HI hkx
 obtain ⟨B,hB⟩:∃ B,B=w1.heap.size:=⟨_,rfl⟩
 obtain ⟨w4,hw4⟩:∃ w4,w4=w1.alloc (.cells #[.string ⟨x.s.toArray⟩,.string ⟨x.e.toArray⟩,.slice a x.ks.length cc] 46):=⟨_,rfl⟩
 have x4:bf w1 w4:=by rw [hw4]; exact aL _
 have z4:w4.heap.size=B+1:=by rw [hw4,hB,World.size_alloc]
 have c0:w4.cell? ⟨B,0,none⟩=some (.string ⟨x.s.toArray⟩):=by rw [hw4,hB]; exact bY @aA
 have c1:w4.cell? ⟨B,1,none⟩=some (.string ⟨x.e.toArray⟩):=by rw [hw4,hB]; exact bY @aA
 have c2:w4.cell? ⟨B,2,none⟩=some (.slice a x.ks.length cc):=by rw [hw4,hB]; exact bY @aA
 have f4:∀ y,w4.frozen? ⟨B,y,none⟩=false:=fun y=>by rw [hw4,hB]; exact bY @eC
 refine fW @hi' @h0 @h1 @h2 ?_
 rw [← hw4,← hB]
 refine pq (hkx.inc KE.mono x4.inc) (by omega) fun v5 w5 x5 o5 n5 => ?_
 have hB4:=aE c0
 have f5:∀ y,w5.frozen? ⟨B,y,none⟩=false:=fun y=>by rw [x5.frozen _ y hB4]; exact f4 y
 have c0:=x5.cell c0
 have c1:=x5.cell c1
 have c2:=x5.cell c2
 obtain ⟨va,vc,rfl,_⟩:=o5.form
 refine dU @c2 @f5 ?_
 obtain ⟨w6,hw6⟩:∃ w6,w6=w5.setCell ⟨B,2,none⟩ (.slice va (cC x.ks).length vc):=⟨_,rfl⟩
 rw [← hw6]
 have x6:bf w1 w6:=by rw [hw6]; exact bm (x4.trans x5) (by omega)
 have k6:Keep (fun b y=>b=B∧y=2) w5 w6:=by rw [hw6]; exact bR ⟨rfl,rfl⟩
 have e0:=k6.some c0 (by omega)
 have e1:=k6.some c1 (by omega)
 have e2:w6.cell? ⟨B,2,none⟩=some (.slice va (cC x.ks).length vc):=by rw [hw6,cG,c2]; rfl
 have o6:=o5.keep k6 fun g hg o h=>by have:=n5 g hg; omega
 obtain ⟨d5,g5,e5⟩:=mo i3.g.j x6
 have i6:=i3.call dY.mono g5
 have hsl:Sl KE 3 d5 (.slice va (cC x.ks).length vc) (cC x.ks):=o6.slg (fun y hy=>⟨rfl,hke y ((cj _).mem_iff.1 hy)⟩) fun g hg o u hu=>e5 _ _ _ (by have:=n5 g hg; omega) hu
 obtain ⟨vo1,vo2,rfl,_⟩:=i6.form
 obtain ⟨css,oo⟩:=i6.o
 refine gG @c0 @c1 @e0 @e1 @e2 ?_
 refine jQ (hZ cC x) [.string ⟨x.s.toArray⟩,.string ⟨x.e.toArray⟩,.slice va (cC x.ks).length vc] rw28 oo ⟨_,rfl,hsl⟩ rfl (.inl rfl) rfl rfl (by simp [Value.oneCell']) (by rw [ak,dO i2]; omega) i6.g.j fun v8 w8 o8 k8 n8 j8 _ => ?_
 refine al ?_
 refine hK2 _ _ (i+1,v8) ?_ ⟨hi,d5,by simp only; rw [bp hx,bL]; exact i6.more o8 k8 n8 j8⟩ (by simp only; omega)
 exact bJ
theorem sY {v:Value} {l:List Sp} (hv:Sl dY 3 d v l) (hl:l.length≤100000) (hks:∀ x ∈ l,x.ks.length≤2147483647) (hne:∀ x ∈ l,x.ks≠[]) (hinc:bu d w) (hk:∀ d' w' v',Gr d w d' w'→Sl dY 3 d' v' (l.foldl fK [])→k v' w'):aY prog 49 #[v] k w:=by
 obtain ⟨ka,kc,rfl⟩:=hv.form
 refine ah [.tmp 2] func49 ?_
 refine al ?_
 refine bQ (fun b:Nat × Value=>[(3,b.2),(7,.slice ka l.length kc),(8,.int .i64 l.length),(9,.int .i64 b.1)])
  (fun b w'=>b.1≤l.length∧∃ d1,LoopL dY 3 46 d w d1 w' b.2 ((l.take b.1).foldl fK [])) (fun b _=>l.length - b.1) (0,.slice none 0 0) (by kernel_rfl) ?_ ⟨aP _,d,LoopL.nil hinc⟩ ?_
 ·exact bJ
 rintro K2 e ⟨i,vo⟩ w1 ⟨i2,d1,i3⟩ hK2
 simp only at i2 i3
 rcases aH i l.length with hi | hi
 rotate_left
 ·have hi':¬ (i:Int) < l.length:=by omega
  refine bb @hi' ?_
  obtain rfl:i=l.length:=by omega
  rw [aX] at i3
  obtain ⟨d4,g4,_,_,s4⟩:=i3.done dY.mono
  exact hk d4 w1 vo g4 s4
 have hi':(i:Int) < l.length:=by omega
 obtain ⟨g,f,c,hv',hc,hat⟩:=(hv.inc dY.mono i3.g.i).at (by omega)
 obtain ⟨rfl,rfl⟩:=sEq hv'
 obtain ⟨x,hx⟩:=gEl hi
 have hxm:=aJ hx
 have hxl:=hks x hxm
 have hxn:=hne x hxm
 obtain ⟨h0,h1,a,cc,h2,hkx⟩:=dG (hat i x hx)
 have h0:=i3.g.j _ _ _ h0
 have h1:=i3.g.j _ _ _ h1
 have h2:=i3.g.j _ _ _ h2
 obtain ⟨out,hout⟩:∃ out,out=(l.take i).foldl fK []:=⟨_,rfl⟩
 have hol:out.length≤i:=by
  have:=wG (l.take i) []
  rw [hout]
  rw [dO i2] at this
  simpa using this
 have more:(l.take (i+1)).foldl fK []=fK out x:=by
  rw [bp hx,List.foldl_append,← hout]
  rfl
 rw [← hout] at i3
 obtain ⟨B,hB⟩:∃ B,B=w1.heap.size:=⟨_,rfl⟩
 obtain ⟨w6,hw6⟩:∃ w6,w6=w1.alloc (.cells #[.string ⟨x.s.toArray⟩,.string ⟨x.e.toArray⟩,.slice a x.ks.length cc] 46):=⟨_,rfl⟩
 have x6:bf w1 w6:=by rw [hw6]; exact aL _
 have c0:w6.cell? ⟨B,0,none⟩=some (.string ⟨x.s.toArray⟩):=by rw [hw6,hB]; exact bY @aA
 have c1:w6.cell? ⟨B,1,none⟩=some (.string ⟨x.e.toArray⟩):=by rw [hw6,hB]; exact bY @aA
 have c2:w6.cell? ⟨B,2,none⟩=some (.slice a x.ks.length cc):=by rw [hw6,hB]; exact bY @aA
 have i6:=i3.ext dY.mono x6
 refine fW @hi' @h0 @h1 @h2 ?_
 rw [← hw6,← hB]
 rcases List.eq_nil_or_concat out with rfl | ⟨o',y,hoy⟩
 ·obtain ⟨vo1,vo2,rfl,_⟩:=i6.form
  have hj0:fK [] x=[]++[x]:=rfl
  have hneg:¬ (0:Int)≤((0:Nat):Int) - 1:=by omega
  simp (disch:=first | exact dZ | fail) only [go_sem,List.length_nil]
  refine ay (sq [0,1,2,3,4,5,6] (.read 7 (sq [8] (.read 9 (sq [10,11,12,13,14,15,16] (.read 17 (sq [18] (.read 19 (.eff 20 [] (sq [21] .done)))))))))) ?_
  refine fW @hneg @c0 @c1 @c2 ?_
  have iA:=i6.ext dY.mono (bf.drew' (bf.refl w6))
  obtain ⟨css,oo⟩:=iA.o
  refine jQ x [.string ⟨x.s.toArray⟩,.string ⟨x.e.toArray⟩,.slice a x.ks.length cc] rw28 oo ⟨_,rfl,hkx⟩ rfl (.inl rfl) rfl rfl (by simp [Value.oneCell']) (by omega) iA.g.j fun v8 w8 o8 k8 n8 j8 _ => ?_
  refine al ?_
  refine hK2 _ _ (i+1,v8) ?_ ⟨hi,d1,by simp only; rw [more,hj0]; exact iA.more o8 k8 n8 j8⟩ (by simp only; omega)
  exact bJ
 obtain rfl:out=o'++[y]:=by rw [hoy,List.concat_eq_append]
 have hol2:(o'++[y]).length=o'.length+1:=by simp
 obtain ⟨vg,vcap,rfl⟩:=i6.block (i:=0) (by omega)
 have hlast:(o'++[y])[o'.length]? = some y:=by rw [bG (aD _),Nat.sub_self]; rfl
 obtain ⟨cs,⟨ykv,rfl,hyk⟩,hcs⟩:=i6.at rfl hlast
 obtain ⟨yka,ykc,rfl⟩:=hyk.form
 have y1:=hcs 1 _ rfl
 have y2:=hcs 2 _ rfl
 simp only [str] at y1 y2
 have hgl:(o'++[y]).getLast? = some y:=by simp
 have hn1:((o'++[y]).length:Int) - 1=o'.length:=by omega
 have hge:(0:Int)≤(o'.length:Nat):=by omega
 have hlt:((o'.length:Nat):Int) < (o'++[y]).length:=by omega
 have hJ:fK (o'++[y]) x=if y.e=x.s∧x.ks≠[]∧y.ks=x.ks then (o'++[y]).dropLast++[⟨y.s,x.e,y.ks⟩] else (o'++[y])++[x]:=by
  unfold fK
  rw [hgl]
 refine al ?_
 refine ay (sq [0,1,2,3,4,5,6] (.read 7 (sq [8] (.read 9 (sq [10,11,12,13,14,15,16] (.read 17 (sq [18] (.read 19 (.eff 20 [] (sq [21] .done)))))))))) ?_
 by_cases r1:y.e=x.s
 rotate_left
 ·have hj0:=hJ.trans (if_neg fun h=>r1 h.1)
  refine xF @hn1 @hge @hlt @y1 @y2 @c0 @c1 @c2 @r1 ?_
  have iA:=i6.ext dY.mono (bf.drew' (bf.refl w6))
  obtain ⟨css,oo⟩:=iA.o
  refine jQ x [.string ⟨x.s.toArray⟩,.string ⟨x.e.toArray⟩,.slice a x.ks.length cc] rw28 oo ⟨_,rfl,hkx⟩ rfl (.inl rfl) rfl rfl (by simp [Value.oneCell']) (by omega) iA.g.j fun v8 w8 o8 k8 n8 j8 _ => ?_
  refine al ?_
  refine hK2 _ _ (i+1,v8) ?_ ⟨hi,d1,by simp only; rw [more,hj0]; exact iA.more o8 k8 n8 j8⟩ (by simp only; omega)
  exact bJ
 have xd:=bf.drew' (bf.refl w6)
 refine xF @hn1 @hge @hlt @y1 @y2 @c0 @c1 @c2 @r1 ?_
 refine wJ ((hyk.inc KE.mono i6.g.j).inc KE.mono xd.inc) (((hkx.inc KE.mono i3.g.j).inc KE.mono x6.inc).inc KE.mono xd.inc) hxl fun w7 x7 => ?_
 have x67:=xd.trans x7
 have c0:=x67.cell c0
 have c1:=x67.cell c1
 have c2:=x67.cell c2
 have y1:=x67.cell y1
 have y2:=x67.cell y2
 by_cases r3:y.ks=x.ks
 rotate_left
 ·have hj0:=hJ.trans (if_neg fun h=>r3 h.2.2)
  rw [aF r3]
  refine gG @c0 @c1 @c2 @y1 @y2 ?_
  have iA:=i6.ext dY.mono (x67)
  obtain ⟨css,oo⟩:=iA.o
  refine jQ x [.string ⟨x.s.toArray⟩,.string ⟨x.e.toArray⟩,.slice a x.ks.length cc] rw28 oo ⟨_,rfl,hkx⟩ rfl (.inl rfl) rfl rfl (by simp [Value.oneCell']) (by omega) iA.g.j fun v8 w8 o8 k8 n8 j8 _ => ?_
  refine al ?_
  refine hK2 _ _ (i+1,v8) ?_ ⟨hi,d1,by simp only; rw [more,hj0]; exact iA.more o8 k8 n8 j8⟩ (by simp only; omega)
  exact bJ
 have hj1:=hJ.trans (if_pos ⟨r1,hxn,r3⟩)
 have hset:(o'++[y]).dropLast++[⟨y.s,x.e,y.ks⟩]=(o'++[y]).set o'.length ⟨y.s,x.e,y.ks⟩:=by
  rw [List.dropLast_concat,List.set_append_right _ _ (aD _),Nat.sub_self]
  rfl
 rw [aO r3]
 have i7:=i6.ext dY.mono x67
 have fz:=i7.frozen
 refine xF @c0 @c1 @c2 @hn1 @hge @hlt @y1 @y2 @fz ?_
 refine hK2 _ _ (i+1,.slice (some ⟨vg,0,none⟩) (o'++[y]).length vcap) ?_ ⟨hi,d1,?_⟩ (by simp only; omega)
 ·exact bJ
 ·simp only
  rw [more,hj1,hset]
  exact i7.set1 rfl hlast (j:=1) (by decide) fun cs ⟨kv,h1,h2⟩=>⟨kv,by rw [h1]; rfl,h2⟩
end
end Go.Proofs
end
section
namespace Go.E
open Go Go.Sort Go.Proofs
end Go.E
end
section
namespace Go.E
open Go Go.Sort Go.Proofs
section
variable {Lv:List (List Sp)} {n snap:Nat}
theorem Fe {l:List Sp} {sp:Sp} {x:K} (hs:sp ∈ l) (hne:sp.s < sp.e) (hx:x ∈ sp.ks):x ∈ gZ l sp.s:=by
 unfold gZ
 refine dV.2 ⟨sp,hs,?_⟩
 rw [if_pos (show ez sp.s sp=true from aO ⟨bU _,hne⟩)]
 exact hx
theorem LvOk.all (h:LvOk Lv n) {L:List Sp} (hL:L ∈ Lv) {sp:Sp} (hs:sp ∈ L) {x:K} (hx:x ∈ sp.ks):∃ ks,l9 ks∧x ∈ ks:=by
 have hw:=h.wf L hL
 obtain ⟨j,hj,e⟩:=aU hs
 have hlt:sp.s < sp.e:=by
  have:=hw.1 j hj
  rwa [aG L j hj,e] at this
 have hm:=Fe (cN.2 ⟨L,hL,hs⟩) hlt hx
 have hB:=gw h.wf
 have hf:=lz h.wf sp.s (uE (bI Lv.flatten) sp.s) fun i hi=>DL hB hi sp.s
 rw [← hf] at hm
 have hcv:pU Lv.length (dh Lv) (bI Lv.flatten) (uE (bI Lv.flatten) sp.s)=true:=by
  unfold cQ at hm
  obtain ⟨i,hi,hx⟩:=dV.1 hm
  split at hx
  ·rename_i hc; exact mN.2 ⟨i,List.mem_range.1 hi,hc⟩
  ·simp at hx
 have hF:(⟨(bI Lv.flatten)[uE (bI Lv.flatten) sp.s - 1]!,(bI Lv.flatten)[uE (bI Lv.flatten) sp.s]!,cC (cQ Lv.length (dh Lv) (bI Lv.flatten) (uE (bI Lv.flatten) sp.s))⟩:Sp) ∈ dm Lv.flatten:=by
  rw [o9 h.wf fun L hL s hs=>(h.ks L hL s hs).1,bX]
  exact ⟨_,eE.2 ⟨AQ _ _,hcv⟩,rfl⟩
 exact ⟨_,h.rk _ hF,(cj _).mem_iff.2 hm⟩
theorem LvOk.d9 (h:LvOk Lv n) (u:Nat):∀ x ∈ cQ Lv.length (dh Lv) (bI Lv.flatten) u,aq x.tr=19→x.suf=[]:=fun x hx=>by
 obtain ⟨i,hi,sp,hsp,hk⟩:=jz hx
 unfold dh at hsp
 rw [aG Lv i hi] at hsp
 obtain ⟨ks,h1,h2⟩:=h.all (aS hi) hsp hk
 exact (h1.1 x h2).2.1
end
end Go.E
end
section
namespace Go.E
open Go Go.Sort Go.Proofs
theorem EV {V:List Sp} (h:Ch V) (φ:List K→List K):Ch (V.map (hZ φ)):=by
 refine ⟨fun s hs => ?_,?_⟩
 ·obtain ⟨t,ht,rfl⟩:=bX.1 hs
  exact h.1 t ht
 ·rw [List.pairwise_map]
  exact h.2
theorem Ff {V:List Sp} (h:Ch V):Ch (eK V):=⟨fun s hs=>h.1 s (aN.1 hs).1,h.2.filter _⟩
theorem HJ {F:List Sp} (h:Ch F) (x:Bytes):gZ F x=cy id F x:=by
 induction F with
 | nil=>rfl
 | cons a F ih =>
  have hF:Ch F:=⟨fun s hs=>h.1 s (aj _ hs),h.2.of_cons⟩
  rw [yL]
  by_cases hx:¬ x < a.s∧x < a.e
  ·rw [if_pos (jS.2 hx),fw hx.1 hx.2,List.map_id]
   have:gZ F x=[]:=sU fun s hs=>by
    have h2:=bB h.2 hs
    cases hc:ez x s with
    | false=>rfl
    | true =>
     have h3:=(jS.1 hc).1
     exact absurd (ct h3 hx.2) h2
   rw [this,ax]
  ·have hf:ez x a=false:=by
     cases hc:ez x a with
     | false=>rfl
     | true=>exact absurd (jS.1 hc) hx
   rw [hf,jE hx,ih hF]
   rfl
theorem zu {φ:List K→List K} (h0:φ []=[]) (V:List Sp) (x:Bytes):cy id (V.map (hZ φ)) x=φ (cy id V x):=by
 induction V with
 | nil=>exact h0.symm
 | cons a V ih =>
  rw [List.map_cons]
  by_cases hx:¬ x < a.s∧x < a.e
  ·rw [fw (a:=hZ φ a) hx.1 hx.2,fw hx.1 hx.2,List.map_id,List.map_id]; rfl
  ·rw [jE (a:=hZ φ a) hx,jE hx,ih]
theorem zv {β:Type} [DecidableEq β] {π:K→β} {G:List Sp} {s:Sp} (h:s ∈ Vw π G):(∃ j,j < G.length∧s.s=G[j]!.s∧s.ks=G[j]!.ks)∧∃ j,j < G.length∧s.e=G[j]!.e:=by
 obtain ⟨i,hi,rfl⟩:=aU h
 have hi2:i < (cr π G).length:=by rwa [dp] at hi
 rw [← aG (Vw π G) i hi,jw hi2]
 have h1:=(fy (π:=π) hi2).1
 obtain ⟨h3,h2⟩:=dw (π:=π) hi2
 exact ⟨⟨_,h1,rfl,rfl⟩,⟨gz π G i - 1,by omega,rfl⟩⟩
def wT (snaps:List Nat) (Lv:List (List Sp)):List Sp:=(eK ((wR snaps Lv).map (hZ cC))).foldl fK []
section
variable {Lv:List (List Sp)} {snaps:List Nat}
theorem EW (hw:∀ L ∈ Lv,Wf L):Ch (wR snaps Lv):=qX.1 (uY (rq (gw hw)))
theorem zw:wT snaps Lv=Vw id (eK ((wR snaps Lv).map (hZ cC))):=FY _
theorem EX (hw:∀ L ∈ Lv,Wf L):Ch (eK ((wR snaps Lv).map (hZ cC))):=Ff (EV (EW hw) _)
theorem zx (hw:∀ L ∈ Lv,Wf L):Ch (wT snaps Lv):=by
 rw [zw]
 exact qX.1 (uY (qX.2 (EX hw)))
theorem Am (hw:∀ L ∈ Lv,Wf L) (x:Bytes):gZ (wT snaps Lv) x=cC (eQ snaps.reverse (gZ Lv.flatten x)):=by
 have e1:cy id (wT snaps Lv) x=cy id (eK ((wR snaps Lv).map (hZ cC))) x:=by
  rw [zw]
  exact pA (qX.2 (EX hw)) x
 have e2:cy id (eK ((wR snaps Lv).map (hZ cC))) x=cy id ((wR snaps Lv).map (hZ cC)) x:=nW (qX.2 (EV (EW hw) _)) x
 have e3:cy id (wR snaps Lv) x=cy id (FU snaps Lv) x:=pA (rq (gw hw)) x
 have e4:cy id (FU snaps Lv) x=(eQ snaps.reverse (gZ Lv.flatten x)).map id:=ub (sG _) hw x
 rw [HJ (zx hw),e1,e2,zu rfl,e3,e4,List.map_id]
theorem pJ (hw:∀ L ∈ Lv,Wf L) {f:Sp} (hf:f ∈ wT snaps Lv):f.ks≠[]∧((∃ y ∈ Lv.flatten,f.s=y.s∨f.s=y.e)∧∃ y ∈ Lv.flatten,f.e=y.s∨f.e=y.e)∧∃ u,f.ks=cC (eQ snaps.reverse (cQ Lv.length (dh Lv) (bI Lv.flatten) u)):=by
 have hB:=gw hw
 have hG:∀ j,j < (FU snaps Lv).length→∃ u,0 < u∧u < (bI Lv.flatten).length∧(FU snaps Lv)[j]! = jb (eQ snaps.reverse) Lv.length (dh Lv) (bI Lv.flatten) u:=fun j hj=>by
  rw [cV] at hj
  have e:(cM Lv.length (dh Lv) (bI Lv.flatten))[j]? = some (cM Lv.length (dh Lv) (bI Lv.flatten))[j]:=aC hj
  obtain ⟨h1,h2⟩:=eE.1 (aS hj)
  obtain ⟨h3,h4⟩:=nR hB h1 h2
  exact ⟨_,h3,h4,jc e⟩
 have hb:∀ i,i < (bI Lv.flatten).length→∃ y ∈ Lv.flatten,(bI Lv.flatten)[i]! = y.s∨(bI Lv.flatten)[i]! = y.e:=fun i hi=>by
  rw [aG _ i hi]
  exact ((iN _).2 _).1 (aS hi)
 have hV:∀ g ∈ wR snaps Lv,((∃ y ∈ Lv.flatten,g.s=y.s∨g.s=y.e)∧∃ y ∈ Lv.flatten,g.e=y.s∨g.e=y.e)∧∃ u,g.ks=eQ snaps.reverse (cQ Lv.length (dh Lv) (bI Lv.flatten) u):=fun g hg=>by
  obtain ⟨⟨j,hj,e1,e2⟩,j2,hj2,e3⟩:=zv hg
  obtain ⟨u,h1,h2,h3⟩:=hG j hj
  obtain ⟨u2,h4,h5,h6⟩:=hG j2 hj2
  rw [h3] at e1 e2
  rw [h6] at e3
  refine ⟨⟨?_,?_⟩,u,e2⟩
  ·rw [e1]; exact hb (u - 1) (by omega)
  ·rw [e3]; exact hb u2 h5
 have hS:∀ g ∈ eK ((wR snaps Lv).map (hZ cC)),((∃ y ∈ Lv.flatten,g.s=y.s∨g.s=y.e)∧∃ y ∈ Lv.flatten,g.e=y.s∨g.e=y.e)∧g.ks≠[]∧∃ u,g.ks=cC (eQ snaps.reverse (cQ Lv.length (dh Lv) (bI Lv.flatten) u)):=fun g hg=>by
  obtain ⟨h1,h2⟩:=aN.1 hg
  obtain ⟨t,ht,rfl⟩:=bX.1 h1
  obtain ⟨h3,u,h4⟩:=hV t ht
  exact ⟨h3,of_decide_eq_true h2,u,by show cC t.ks=_; rw [h4]⟩
 rw [zw] at hf
 obtain ⟨⟨j,hj,e1,e2⟩,j2,hj2,e3⟩:=zv hf
 have m1:=hS _ (aS hj)
 have m2:=hS _ (aS hj2)
 rw [aG _ j hj] at e1 e2
 rw [aG _ j2 hj2] at e3
 obtain ⟨⟨a1,_⟩,a2,u,a3⟩:=m1
 obtain ⟨⟨_,b1⟩,_⟩:=m2
 rw [← e1] at a1
 rw [← e2] at a2 a3
 rw [← e3] at b1
 exact ⟨a2,⟨a1,b1⟩,u,a3⟩
theorem FitOk.key (o:FitOk Lv snaps) (u:Nat):J7 (cQ Lv.length (dh Lv) (bI Lv.flatten) u):=by
 refine ⟨o.lv.d9 u,fun x hx => ?_⟩
 obtain ⟨i,hi,sp,hsp,hk⟩:=jz hx
 unfold dh at hsp
 rw [aG Lv i hi] at hsp
 exact o.k55 sp (cN.2 ⟨_,aS hi,hsp⟩) x hk
theorem FitOk.sin (o:FitOk Lv snaps) (f2:∀ x ∈ Lv,x.length≤2147483647∧∀ y ∈ x,qt y):SIn Lv:=by
 have r:=EM (snap:=0) o.lv (by decide) (by decide) f2 px
 exact ⟨r.n10,r.wf,r.len,r.cd,o.key⟩
theorem FitOk.v55 (o:FitOk Lv snaps) (x:Bytes):v55 (gZ Lv.flatten x):=fun y hy=>by
 unfold gZ at hy
 obtain ⟨f,hf,hy⟩:=dV.1 hy
 split at hy
 ·exact o.k55 f hf y hy
 ·simp at hy
theorem FitOk.desc (o:FitOk Lv snaps):snaps.reverse.Pairwise fun a b=>b < a:=by
 rw [List.pairwise_reverse]
 exact o.rise
theorem FitOk.len (o:FitOk Lv snaps):∀ f ∈ wT snaps Lv,f.ks.length≤240:=fun f hf=>by
 obtain ⟨_,_,u,h⟩:=pJ o.lv.wf hf
 rw [h,(cj _).length_eq]
 have h1:=jf snaps.reverse (cQ Lv.length (dh Lv) (bI Lv.flatten) u)
 have h2:=pB (m:=40) (fun L hL s hs=>(o.lv.ks L hL s hs).2) (bI Lv.flatten) u
 have h3:=o.lv.n6
 have h4:Lv.length * 40≤6 * 40:=bH _ h3
 omega
theorem FitOk.v (o:FitOk Lv snaps) {s:Nat} (hs:s < 18446744073709551616) (f2:∀ x ∈ Lv,x.length≤2147483647∧∀ y ∈ x,qt y):VOk [wT snaps Lv] s:=by
 have hw:=o.lv.wf
 have hfl:=o.lv.flat
 have hch:=zx (snaps:=snaps) hw
 have hl:=EO hch fun f hf=>(pJ hw hf).2.1.1
 refine JD (l:=Lv.flatten) hch (fun f hf=>(pJ hw hf).1) (fun x => ?_) (fun f hf=>(pJ hw hf).2.1) (fun f hf k hk => ?_) (by omega) (fun f hf=>by have:=o.len f hf; omega) hs fun x hx => ?_
 ·rw [Am hw]
  exact Cd.perm (wI (o.lv.cd x)) (cj _).symm
 ·obtain ⟨_,_,u,h⟩:=pJ hw hf
  rw [h,(cj _).mem_iff] at hk
  obtain ⟨i,hi,sp,hsp,hk⟩:=jz (gx hk)
  unfold dh at hsp
  rw [aG Lv i hi] at hsp
  exact ⟨sp,cN.2 ⟨_,aS hi,hsp⟩,hk⟩
 ·obtain ⟨L,hL,hx⟩:=cN.1 hx
  exact (f2 L hL).2 x hx
theorem FitOk.tf (o:FitOk Lv snaps) {s:Nat} (hs:s ∈ snaps∨s=72057594037927935) (x:Bytes):(Tf s (gZ Lv.flatten x)).map K.sv=(Tf s (gZ (wT snaps Lv) x)).map K.sv:=by
 rw [Am o.lv.wf,← F6 (wI (o.lv.cd x)) (cj _).symm,FZ o.desc (o.lv.cd x) (o.v55 x)]
 rcases hs with h | h
 ·exact .inl (List.mem_reverse.2 h)
 ·refine .inr fun y hy => ?_
  have:=o.v55 x y hy
  unfold ey
  rw [h,decide_eq_true_eq]
  omega
theorem FitOk.seen (o:FitOk Lv snaps) {s:Nat} (hs:s ∈ snaps∨s=72057594037927935):(eK (rV Lv s none none)).map cJ=(eK (rV [wT snaps Lv] s none none)).map cJ :=
 yM o.lv.wf (qX.2 (zx o.lv.wf)) fun x=>o.tf hs x
end
end Go.E
end
section
namespace Go.E
open Go Go.Sort Go.Proofs Go.Proofs.Tryz
section
variable {Lv:List (List Sp)} {snaps:List Nat}
theorem CH (o:FitOk Lv snaps):(wR snaps Lv).length≤97∧∀ g ∈ wR snaps Lv,g.ks.length≤240:=by
 have hfl:=o.lv.flat
 have hb:=eR Lv.flatten
 have h1:(wR snaps Lv).length≤(FU snaps Lv).length:=by
  rw [dp]
  unfold cr
  exact aT (bF _ _) (by rw [List.length_range]; exact aD _)
 have h2:(FU snaps Lv).length≤(bI Lv.flatten).length+1:=by
  rw [cV]
  unfold cM
  exact aT (bF _ _) (by simp)
 refine ⟨by omega,fun g hg => ?_⟩
 obtain ⟨⟨j,hj,_,e2⟩,_⟩:=zv hg
 obtain ⟨u,_,e⟩:=rE hj
 rw [e2,e]
 have h1:=jf snaps.reverse (cQ Lv.length (dh Lv) (bI Lv.flatten) u)
 have h2:=pB (m:=40) (fun L hL s hs=>(o.lv.ks L hL s hs).2) (bI Lv.flatten) u
 have h4:Lv.length * 40≤6 * 40:=bH _ o.lv.n6
 show (eQ snaps.reverse (cQ Lv.length (dh Lv) (bI Lv.flatten) u)).length≤240
 omega
end
theorem HL {β:Type} [DecidableEq β] {π:K→β} (g:Sp):Vw π [g]=[g]:=by
 have h:cr π [g]=[0]:=by
  unfold cr
  have h0:gD π [g] 0=true:=aO (Or.inl rfl)
  rw [show (List.range [g].length)=[0] from rfl,List.filter_cons_of_pos h0]
  rfl
 unfold Vw
 rw [h]
 rfl
theorem KF:SIn ng:=by
 refine ⟨ES.n10,ES.wf,ES.len,ES.cd,fun u=>⟨ui.d9 u,fun x hx => ?_⟩⟩
 obtain ⟨i,hi,sp,hsp,hk⟩:=jz hx
 have hi:i < 1:=hi
 obtain rfl:i=0:=by omega
 have:sp=Ai:=by simpa [dh,ng] using hsp
 subst this
 have:x=⟨277,[115],[]⟩:=by simpa [Ai] using hk
 subst this
 decide
theorem KG:∃ g,wR [] ng=[g]∧g.ks.length=1:=by
 have hc:cM ng.length (dh ng) (bI ng.flatten)=[1]:=by decide +kernel
 have hf:cQ ng.length (dh ng) (bI ng.flatten) 1=[⟨277,[115],[]⟩]:=by decide +kernel
 refine ⟨jb (eQ []) ng.length (dh ng) (bI ng.flatten) 1,?_,?_⟩
 ·show Vw id (GL (eQ []) ng.length (dh ng) (bI ng.flatten))=_
  unfold GL
  rw [hc]
  exact HL _
 ·show (eQ [] (cQ ng.length (dh ng) (bI ng.flatten) 1)).length=1
  rw [hf]
  have h1:=jf [] [(⟨277,[115],[]⟩:K)]
  have h2:(⟨277,[115],[]⟩:K) ∈ eQ [] [(⟨277,[115],[]⟩:K)]:=by
   refine JA (s:=72057594037927935) .nil (fun x hx => ?_) (.inr fun y hy => ?_) aR (by decide) (by decide) fun y hy _ => ?_
   ·rw [aZ.1 hx]; decide
   ·rw [aZ.1 hy]; decide
   ·rw [aZ.1 hy]
    exact ⟨fun h=>by simp [aq] at h,fun _ _=>aD _⟩
  have h3:=List.length_pos_of_mem h2
  simp only [aW] at h1
  omega
end Go.E
namespace Go.Proofs
open Go Go.E Go.Sort Go.Proofs.Tryz
section
variable {k:ao} {d w:World}
theorem qv (hk:k (.slice none 0 0) w):aY prog 53 #[.slice none 0 0] k w:=by
 refine ah [.tmp 2] func53 ?_
 refine al ?_
 refine bQ (fun _:Unit=>[(3,.slice none 0 0),(7,.int .i64 ((0:Nat):Int)),(8,.int .i64 0)]) (fun _ w'=>w'=w) (fun _ _=>0) () (by kernel_rfl) ?_ rfl ?_
 ·exact bJ
 rintro K e _ w1 rfl hK
 have z:¬ (0:Int) < ((0:Nat):Int):=by decide
 refine bb @z ?_
 exact hk
theorem sZ {lv sv:Value} {Lv:List (List Sp)} {snaps:List Nat} (hv:Sl jW 1 d lv Lv) (hs:Sl wQ 1 d sv snaps) (o:FitOk Lv snaps) (f2:∀ x ∈ Lv,x.length≤2147483647∧∀ y ∈ x,qt y) (hinc:bu d w) (hk:∀ d' w' v',Gr d w d' w'→Sl dY 3 d' v' (wT snaps Lv)→k v' w') :
    aY prog 47 #[lv,sv,.bool true,.slice none 0 0] k w:=by
 obtain ⟨la,lc,rfl⟩:=hv.form
 obtain ⟨sa,sc,rfl⟩:=hs.form
 have lo:=o.lv
 obtain ⟨hw1,hw2⟩:=CH o
 refine ah [.tmp 8] func47 ?_
 refine al ?_
 refine pH hv (by have:=lo.n6; omega) (fun x hx=>⟨by have:=lo.sz x hx; omega,fun y hy=>by have:=(lo.ks x hx y hy).2; omega⟩) hinc fun d1 w1 v1 g1 s1 => ?_
 refine al ?_
 refine qv ?_
 refine al ?_
 refine mB s1 (hs.inc cl g1.i) (by have:=o.n12; omega) g1.j (o.sin f2) fun d2 w2 v2 g2 s2 => ?_
 have g12:=g1.trans g2
 obtain ⟨a2,c2,rfl⟩:=s2.form
 refine al ?_
 refine yP s2 (by omega) (fun x hx=>by have:=hw2 x hx; omega) g12.j fun d3 w3 v3 g3 s3 => ?_
 have g13:=g12.trans g3
 refine al ?_
 refine sX s3 (by omega) (fun x hx=>by have:=hw2 x hx; omega) g13.j fun d4 w4 v4 g4 s4 => ?_
 have g14:=g13.trans g4
 obtain ⟨M,hM⟩:∃ M,M=(wR snaps Lv).map (hZ cC):=⟨_,rfl⟩
 have hMl:M.length≤97:=by rw [hM,ak]; omega
 have hMk:∀ x ∈ M,x.ks.length≤240:=fun x hx=>by
  rw [hM] at hx
  obtain ⟨y,hy,rfl⟩:=bX.1 hx
  have:=hw2 y hy
  rw [show (hZ cC y).ks=cC y.ks from rfl,(cj _).length_eq]
  exact this
 have hsk:wT snaps Lv=(M.filter ga).foldl fK []:=by rw [hM]; rfl
 rw [← hM] at s4
 rw [hsk] at hk
 obtain ⟨va,vc,rfl⟩:=s4.form
 refine al ?_
 refine bQ (fun b:Nat × Value=>[(9,b.2),(20,.slice va M.length vc),(21,.int .i64 M.length),(22,.int .i64 b.1)])
  (fun b w'=>b.1≤M.length∧∃ d1,LoopL dY 3 46 d4 w4 d1 w' b.2 ((M.take b.1).filter ga)) (fun b _=>M.length - b.1) (0,.slice none 0 0) (by kernel_rfl) ?_ ⟨aP _,d4,LoopL.nil g14.j⟩ ?_
 ·exact bJ
 rintro K2 e ⟨i,vo⟩ w5 ⟨i2,d5,i3⟩ hK2
 simp only at i2 i3
 rcases aH i M.length with hi | hi
 rotate_left
 ·have hi':¬ (i:Int) < M.length:=by omega
  obtain rfl:i=M.length:=by omega
  rw [aX] at i3
  obtain ⟨d6,g6,_,_,s6⟩:=i3.done dY.mono
  have g16:=g14.trans g6
  have hfl:(M.filter ga).length≤M.length:=bF _ _
  obtain ⟨wa,wc,rfl⟩:=s6.form
  refine bb @hi' ?_
  refine sY s6 (by omega) (fun x hx=>by have:=hMk x (aN.1 hx).1; omega) (fun x hx=>of_decide_eq_true (aN.1 hx).2) g16.j fun d7 w7 v7 g7 s7 => ?_
  refine al ?_
  exact hk d7 w7 v7 (g16.trans g7) s7
 have hi':(i:Int) < M.length:=by omega
 obtain ⟨g,f,c,hv',hc,hat⟩:=(s4.inc dY.mono i3.g.i).at (by omega)
 obtain ⟨rfl,rfl⟩:=sEq hv'
 obtain ⟨x,hx⟩:=gEl hi
 obtain ⟨h0,h1,a,cc,h2,hkx⟩:=dG (hat i x hx)
 have h0:=i3.g.j _ _ _ h0
 have h1:=i3.g.j _ _ _ h1
 have h2:=i3.g.j _ _ _ h2
 have hmore:(M.take (i+1)).filter ga=(M.take i).filter ga++if ga x then [x] else []:=by
  rw [bp hx,List.filter_append]
  cases h:ga x <;> simp [List.filter_cons,h]
 obtain ⟨T,hT⟩:∃ T,T=w5.heap.size:=⟨_,rfl⟩
 obtain ⟨w6,hw6⟩:∃ w6,w6=w5.alloc (.cells #[.string ⟨x.s.toArray⟩,.string ⟨x.e.toArray⟩,.slice a x.ks.length cc] 46):=⟨_,rfl⟩
 have x4:bf w5 w6:=by rw [hw6]; exact aL _
 have a0:w6.cell? ⟨T,0,none⟩=some (.string ⟨x.s.toArray⟩):=by rw [hw6,hT]; exact bY @aA
 have a1:w6.cell? ⟨T,1,none⟩=some (.string ⟨x.e.toArray⟩):=by rw [hw6,hT]; exact bY @aA
 have a2:w6.cell? ⟨T,2,none⟩=some (.slice a x.ks.length cc):=by rw [hw6,hT]; exact bY @aA
 have i5:=i3.ext dY.mono x4
 refine fW @hi' @h0 @h1 @h2 ?_
 rw [← hw6,← hT]
 by_cases hz:x.ks=[]
 ·have hz1:¬ (0:Int) < x.ks.length:=by rw [hz]; simp
  have hz2:ga x=false:=aF fun h=>h hz
  rw [hz2] at hmore
  refine dU @a2 @hz1 ?_
  refine hK2 _ _ (i+1,vo) ?_ ⟨hi,d5,?_⟩ (by simp only; omega)
  ·exact bJ
  ·simp only
   rw [hmore,if_neg (by decide),ax]
   exact i5
 ·have hz0:x.ks.length≠0:=fun h=>hz (an.1 h)
  have hz1:(0:Int) < x.ks.length:=by omega
  have hz2:ga x=true:=aO hz
  rw [hz2] at hmore
  obtain ⟨css,o5⟩:=i5.o
  obtain ⟨wa,wcap,rfl,_⟩:=i5.form
  have hfl2:((M.take i).filter ga).length≤i:=by
   refine aT (bF _ _) ?_
   rw [ar]; omega
  refine fW @a0 @a1 @a2 @hz1 ?_
  refine jQ x [.string ⟨x.s.toArray⟩,.string ⟨x.e.toArray⟩,.slice a x.ks.length cc] rw28 o5 ⟨_,rfl,hkx⟩ rfl (.inl rfl) rfl rfl (by simp [Value.oneCell']) (by omega) i5.g.j fun v8 w8 o8 k8 n8 j8 _ => ?_
  refine al ?_
  refine hK2 _ _ (i+1,v8) ?_ ⟨hi,d5,?_⟩ (by simp only; omega)
  ·exact bJ
  ·simp only
   rw [hmore,if_pos rfl]
   exact i5.more o8 k8 n8 j8
theorem uj (hinc:bu d w) (hk:∀ w2,bf w w2→k (.bool true) w2):aY prog 46 #[] k w:=by
 refine ah [.tmp 0] func46 ?_
 refine al ?_
 obtain ⟨A,hA⟩:∃ A,A=w.heap.size:=⟨_,rfl⟩
 obtain ⟨W,hW⟩:∃ W,W=(((w.alloc (.cells #[.int .u64 277,.string ⟨#[115]⟩,.string ByteArray.empty] 62)).alloc (.cells #[.string ⟨#[97]⟩,.string ⟨#[98]⟩,.slice (some ⟨w.heap.size,0,none⟩) 1 1] 56)).alloc (.cells #[.slice (some ⟨w.heap.size+1,0,none⟩) 1 1] 74)):=⟨_,rfl⟩
 have xW:bf w W:=by rw [hW]; exact ((aL _).trans (aL _)).trans (aL _)
 have k0:W.cell? ⟨A,0,none⟩=some (.int .u64 277):=by rw [hW,hA]; exact bY @aA
 have k1:W.cell? ⟨A,1,none⟩=some (.string ⟨#[115]⟩):=by rw [hW,hA]; exact bY @aA
 have k2:W.cell? ⟨A,2,none⟩=some (.string ByteArray.empty):=by rw [hW,hA]; exact bY @aA
 have s0:W.cell? ⟨A+1,0,none⟩=some (.string ⟨#[97]⟩):=by rw [hW,hA]; exact bY @aA
 have s1:W.cell? ⟨A+1,1,none⟩=some (.string ⟨#[98]⟩):=by rw [hW,hA]; exact bY @aA
 have s2:W.cell? ⟨A+1,2,none⟩=some (.slice (some ⟨A,0,none⟩) 1 1):=by rw [hW,hA]; exact bY @aA
 have l0:W.cell? ⟨A+1+1,0,none⟩=some (.slice (some ⟨A+1,0,none⟩) 1 1):=by rw [hW,hA]; exact bY @aA
 rw [← hW,← hA]
 obtain ⟨d4,g4,e4⟩:=mo hinc xW
 have sk:Sl KE 3 d4 (.slice (some ⟨A,0,none⟩) 1 1) [⟨277,[115],[]⟩]:=uh (cs:=[.int .u64 277,str [115],str []]) rfl (fun j u hu=>by
  match j,hu with
  | 0,hu=>obtain rfl:=bP hu; exact e4 _ _ _ (by omega) k0
  | 1,hu=>obtain rfl:=bP hu; exact e4 _ _ _ (by omega) k1
  | 2,hu=>obtain rfl:=bP hu; exact e4 _ _ _ (by omega) k2) ⟨rfl,by decide⟩
 have ss:Sl dY 3 d4 (.slice (some ⟨A+1,0,none⟩) 1 1) [Ai]:=Kt (e4 _ _ _ (by omega) s0) (e4 _ _ _ (by omega) s1) (e4 _ _ _ (by omega) s2) sk
 have sl:Sl jW 1 d4 (.slice (some ⟨A+1+1,0,none⟩) 1 1) ng:=uh (cs:=[.slice (some ⟨A+1,0,none⟩) 1 1]) rfl (fun j u hu=>by
  match j,hu with
  | 0,hu=>obtain rfl:=bP hu; exact e4 _ _ _ (by omega) l0) ⟨_,rfl,ss⟩
 refine mB sl (Sl.nil:Sl wQ 1 d4 (.slice none 0 0) []) (by decide) g4.j KF fun d5 w5 v g5 s5 => ?_
 obtain ⟨x,hg,hgl⟩:=KG
 rw [hg] at s5
 have s6:=s5.inc dY.mono g5.j
 obtain ⟨va,vc,rfl⟩:=s6.form
 obtain ⟨g,f,c,hv',hc,hat⟩:=s6.at (by simp)
 obtain ⟨rfl,rfl⟩:=sEq hv'
 obtain ⟨_,_,xa,xc,p2,_⟩:=dG (hat 0 x rfl)
 simp only [Nat.zero_mul,Nat.add_zero,hgl] at p2
 have e1:(((1:Nat):Int) == 1)=true:=rfl
 have e2:(0:Int) < ((1:Nat):Int):=by decide
 simp (disch:=first | exact dZ | fail) only [go_sem,p2,aW,e1,e2,Int.toNat_zero,Nat.zero_mul,Nat.add_zero]
 exact hk _ (xW.trans g5.x)
end
end Go.Proofs
end
section
namespace Go.Proofs
open Go Go.E Go.Sort Go.Proofs.Tryz
section
variable {k:ao} {d w:World}
theorem EY {t n:Nat} {X:World} {sv:Value} {snaps:List Nat} {q:ao} (hs:Sl wQ 1 d sv snaps) (ht:t < 18446744073709551616) (hinc:bu d w) (hl:snaps.length≤1000) (hn:n=w.heap.size) (hX:X=w.alloc (.cells #[.int .u64 t] 23)) (hk:∀ d2 w2 v2,Gr d w d2 w2→Sl wQ 1 d2 v2 (t :: snaps)→q v2 w2) :
    nY prog #[91,91] 91 #[.slice (some ⟨n,0,none⟩) 1 1,sv] q X:=by
 subst hn hX
 have i0:LoopL wQ 1 23 d w d (w.alloc (.cells #[.int .u64 t] 23)) (.slice (some ⟨w.heap.size,0,none⟩) 1 1) [t]:=LoopL.one (cs:=[.int .u64 t]) hinc ⟨rfl,ht⟩ rfl
 obtain ⟨css,o⟩:=i0.o
 obtain ⟨W,hW⟩:∃ W,W=w.alloc (.cells #[.int .u64 t] 23):=⟨_,rfl⟩
 rw [← hW] at i0 o ⊢
 have hu:∀ x ∈ snaps,x < 18446744073709551616:=fun x hx=>by
  obtain ⟨i,hi,rfl⟩:=aU hx
  obtain ⟨g,f,c,_,_,hat⟩:=hs.at (by omega)
  obtain ⟨cs,_,_,_,h⟩:=hat i _ (aC hi)
  exact h
 have hf:∀ l:List Nat,(l.map fun x:Nat=>[Value.int .u64 (x:Int)]).flatten=l.map fun x:Nat=>Value.int .u64 (x:Int):=fun l=>by
  induction l with
  | nil=>rfl
  | cons a l ih=>rw [List.map_cons,List.flatten_cons,ih]; rfl
 have hlies:tD W sv snaps.length (snaps.map fun x:Nat=>Value.int .u64 (x:Int)):=by
  by_cases h0:snaps=[]
  ·subst h0
   obtain ⟨a,c,rfl⟩:=hs.form
   unfold Sl ef at hs
   cases a with
   | none=>exact ⟨rfl,rfl,rfl⟩
   | some a=>exact ⟨rfl,fun j u hj=>by simp at hj⟩
  ·obtain ⟨g,f,c,rfl,_,hat⟩:=(hs.inc cl i0.g.j).at (List.length_pos_iff.2 h0)
   refine ⟨rfl,fun j u hj => ?_⟩
   rw [bk] at hj
   obtain ⟨y,hy,rfl⟩:=Option.map_eq_some_iff.1 hj
   obtain ⟨cs,_,hcs,rfl,_⟩:=hat j y hy
   have:=hcs 0 _ rfl
   rw [dJ rfl]
   simpa using this
 simp only [nY]
 refine pQ (m:=snaps.length) (news:=snaps.map fun x:Nat=>Value.int .u64 (x:Int)) rw91 o.own (by simp) hlies (by simp [Value.oneCell']) (by simp only [aW]; omega) fun v5 w5 o5 k5 n5 _ => ?_
 have kk:Keep (fun b _=>(Value.slice (some ⟨w.heap.size,0,none⟩) 1 1).ownBlock=some b) W w5:=k5 _ fun b o hb _=>hb
 have nw:cW W (Value.slice (some ⟨w.heap.size,0,none⟩) 1 1) v5:=fun g hg=>by
  rcases n5 with h | ⟨g2,h,h',_⟩
  ·exact .inl (by rw [← h]; exact hg)
  ·rw [h] at hg
   simp only [aK] at hg
   subst hg
   exact .inr h'
 have i5:bu d w5:=i0.g.j.keep kk fun b x hb=>o.out b hb x
 have o6:OwnL wQ 1 23 d w5 v5 (t :: snaps) (css++snaps.map fun x:Nat=>[Value.int .u64 (x:Int)]):=by
  refine ⟨by simp [o.len]; omega,?_,fun c hc => ?_,fun i y c hy hc => ?_,fun g hg => ?_⟩
  ·rw [List.flatten_append,hf]
   have:(t :: snaps).length=[t].length+snaps.length:=by simp; omega
   rw [this]; exact o5
  ·rcases au.1 hc with hc | hc
   ·exact o.sz c hc
   ·obtain ⟨y,_,rfl⟩:=bX.1 hc; rfl
  ·have hcl:css.length=1:=o.len
   cases i with
   | zero =>
    rw [bO (by omega)] at hc
    exact o.R 0 y c hy hc
   | succ i =>
    rw [bG (by omega),hcl,Nat.add_sub_cancel,bk] at hc
    rw [List.getElem?_cons_succ] at hy
    rw [hy] at hc
    simp only [Option.map_some,aK] at hc
    exact ⟨hc.symm,hu y (aJ hy)⟩
  ·rcases nw g hg with h | h
   ·exact o.out g h
   ·exact i0.g.j.out h
 obtain ⟨d2,g2,_,_,s2⟩:=(i0.more o6 kk nw i5).done cl
 exact hk d2 w5 v5 g2 s2
set_option maxHeartbeats 400000 in
theorem qA {lv sv:Value} {Lv:List (List Sp)} {snaps:List Nat} (hv:Sl jW 1 d lv Lv) (hs:Sl wQ 1 d sv snaps) (hinc:bu d w) (hk:∀ w2,bf w w2→k (.bool true) w2) :
    aY prog 10 #[lv,sv] k w:=by
 obtain ⟨la,lc,rfl⟩:=hv.form
 obtain ⟨sa,sc,rfl⟩:=hs.form
 refine ah [.tmp 4] func10 ?_
 refine al ?_
 refine B6 (hv.inc jW.mono hinc) fun b1 w1 x1 hb1 => ?_
 cases b1 with
 | false =>
  refine al ?_
  exact hk _ x1
 | true =>
 obtain ⟨f1,f2⟩:=hb1 rfl
 by_cases hz:2147483647 < (snaps.length:Int)
 ·refine bb @hz ?_
  exact hk _ x1
 refine bb @hz ?_
 refine Fc hv hs f1 (fun x hx=>⟨(f2 x hx).1,fun y hy=>((f2 x hx).2 y hy).2.2.1⟩) (hinc.trans x1.inc) fun b3 w3 x3 hb3 => ?_
 have x13:=x1.trans x3
 cases b3 with
 | false =>
  refine al ?_
  refine uj (hinc.trans x13.inc) fun w4 x4 => ?_
  refine al ?_
  exact hk _ (x13.trans x4)
 | true =>
 have o:=hb3 rfl
 have i0:=Gr.ext hinc x13
 refine al ?_
 refine sZ (hv.inc jW.mono i0.i) (hs.inc cl i0.i) o f2 i0.j fun d4 w4 v4 g4 s4 => ?_
 have i4:=i0.trans g4
 obtain ⟨a4,c4,rfl⟩:=s4.form
 refine al ?_
 obtain ⟨N,hN⟩:∃ N,N=w4.heap.size:=⟨_,rfl⟩
 obtain ⟨W,hW⟩:∃ W,W=w4.alloc (.cells #[.slice a4 (wT snaps Lv).length c4] 28):=⟨_,rfl⟩
 have xW:bf w4 W:=by rw [hW]; exact aL _
 have q0:W.cell? ⟨N,0,none⟩=some (.slice a4 (wT snaps Lv).length c4):=by rw [hW,hN]; exact bY @aA
 obtain ⟨d5,g5,e5⟩:=mo i4.j xW
 have i5:=i4.trans g5
 have st:Sl jW 1 d5 (.slice (some ⟨N,0,none⟩) 1 1) [wT snaps Lv]:=uh (cs:=[.slice a4 (wT snaps Lv).length c4]) rfl (fun j u hu=>by
  match j,hu with
  | 0,hu=>obtain rfl:=bP hu; exact e5 _ _ _ (by omega) q0) ⟨_,rfl,s4.inc dY.mono g5.i⟩
 obtain ⟨top,htop⟩:∃ t:Nat,t=72057594037927935:=⟨_,rfl⟩
 have eT:(72057594037927935:Int)=(top:Int):=by rw [htop]; rfl
 have hWn:W.heap.size=w4.heap.size+1:=by rw [hW,World.size_alloc]
 rw [← hW,← hN,eT]
 refine EY (w:=W) (t:=top) (hs.inc cl i5.i) (by omega) i5.j (by have:=o.n12; omega) (by omega) rfl fun d6 w6 v6 g6 s6 => ?_
 have i6:=i5.trans g6
 obtain ⟨T,hT⟩:∃ T,T=top :: snaps:=⟨_,rfl⟩
 have hTl:T.length≤13:=by have:=o.n12; rw [hT,ag]; omega
 rw [← hT] at s6
 have st:=st.inc jW.mono g6.i
 have hv6:=hv.inc jW.mono i6.i
 obtain ⟨a6,c6,rfl⟩:=s6.form
 refine al ?_
 refine bQ (fun i:Nat=>[(0,.slice la Lv.length lc),(5,.slice (some ⟨N,0,none⟩) 1 1),(27,.slice a6 T.length c6),(28,.int .i64 T.length),(29,.int .i64 i)])
  (fun i w'=>i≤T.length∧bf w6 w') (fun i _=>T.length - i) 0 (by kernel_rfl) ?_ ⟨aP _,bf.refl _⟩ ?_
 ·exact bJ
 rintro K2 e i w7 ⟨i2,x7⟩ hK2
 have j7:=Gr.ext i6.j x7
 rcases aH i T.length with hi | hi
 rotate_left
 ·have hi':¬ (i:Int) < T.length:=by omega
  refine bb @hi' ?_
  refine uj j7.j fun w8 x8 => ?_
  refine al ?_
  refine sV (j7.j.trans x8.inc) fun w9 x9 => ?_
  refine al ?_
  exact hk _ (i6.x.trans (x7.trans (x8.trans x9)))
 have hi':(i:Int) < T.length:=by omega
 obtain ⟨g,f,c,hv',hc,_⟩:=s6.at (by omega)
 obtain ⟨rfl,rfl⟩:=sEq hv'
 obtain ⟨s,hs'⟩:∃ x,T[i]? = some x:=⟨_,aC hi⟩
 obtain ⟨h0,hsn⟩:=wM (v := .nilIface) (s6.inc cl j7.j) hs'
 have hsT:s ∈ snaps∨s=72057594037927935:=by
  have:=aJ hs'
  rw [hT] at this
  rcases ai.1 this with h | h
  ·exact .inr (h.trans htop)
  ·exact .inl h
 have u1:VOk Lv s:=o.lv.v (by decide) hsn f2
 have u2:VOk [wT snaps Lv] s:=o.v hsn f2
 have hseen:=o.seen hsT
 have hVl2:=u2.vl
 have hVk2:=u2.vk
 obtain ⟨V2,hV2⟩:∃ V,V=rV [wT snaps Lv] s none none:=⟨_,rfl⟩
 rw [← hV2] at hVl2 hVk2 hseen
 refine dU @hi' @h0 ?_
 refine pI hv6 u1 j7.j fun d9 w9 v9 g9 s9 => ?_
 have i9:=j7.trans g9
 rw [hseen] at s9
 obtain ⟨a9,c9,rfl⟩:=s9.form
 refine al ?_
 refine pI (st.inc jW.mono g9.i) u2 i9.j fun d11 w11 v11 g11 s11 => ?_
 have i11:=i9.trans g11
 rw [← hV2] at s11
 obtain ⟨a11,c11,rfl⟩:=s11.form
 have hsl:∀ x ∈ (eK V2).map cJ,x.ks.length≤2147483647:=fun x hx=>by
  obtain ⟨y,hy,rfl⟩:=bX.1 hx
  rw [pD,ak]
  have:=hVk2 y (aN.1 hy).1
  omega
 have hsn2:((eK V2).map cJ).length≤2147483647:=by
  rw [ak]
  have:(eK V2).length≤V2.length:=bF _ _
  omega
 refine al ?_
 refine tX ((s9.inc dY.mono g11.i).inc dY.mono i11.j) (s11.inc dY.mono i11.j) hsn2 hsl fun w12 x12 => ?_
 rw [aO rfl]
 refine al ?_
 refine hK2 _ _ (i+1) ?_ ⟨hi,x7.trans ((g9.trans g11).x.trans x12)⟩ (by omega)
 exact bJ
end
end Go.Proofs
end
section
namespace Go.E
open Go Go.Sort Go.Proofs Go.Proofs.Tryz
section
variable {H:Type} {enc:TypeId × Value→H} {w:World} {base:Nat} {spare:Nat→Bool} {held:Bool} {fuel:Nat} {cs:List Value} {x:DataW H × List MemPlace}
theorem kt {α:Type} [Inhabited α] {R:gJ α} {t e:TypeId} {sz:Nat} (ht:prog.underlying t=some (.slice e)) (hsz:prog.cellsOf e=sz) (hp:0 < sz) (el:∀ n cs x,DataW.trod enc prog w base spare held n e cs=some x→∃ y,R w cs y) (h:DataW.trod enc prog w base spare held fuel t cs=some x):∃ v l,cs=[v]∧Sl R sz w v l:=by
 rcases Go.Deep.open_slice ht h with ⟨rfl,_⟩ | ⟨a,len,cap,m,n,D,Pl,rfl,_,hl,_,hm,_,hx⟩
 ·exact ⟨_,[],rfl,rfl,rfl⟩
 ·have hlm:len≤m:=by rw [hm]; split <;> omega
  have hx:∀ i,i < len→∃ y,∃ cs',w.cells? base (a.add (i * sz)) sz=some cs'∧R w cs' y:=fun i hi=>by
   obtain ⟨cs',h1,h2⟩:=hx i (by omega)
   obtain ⟨y,hy⟩:=el _ _ _ h2
   rw [hsz] at h1
   exact ⟨y,cs',h1,hy⟩
  obtain ⟨Y,hY⟩:=Go.Deep.choose_lt hx
  have hsp:0 < len→a.spot=none:=fun h0=>by
   obtain ⟨cs',h1,_⟩:=hY 0 h0
   obtain ⟨_,h2,h3⟩:=World.cells?_some h1
   have:=h3 0 hp
   rw [aC (by omega)] at this
   have:=World.cell?_spot this
   simpa [Addr.add] using this
  refine ⟨_,(List.range len).map Y,rfl,hsp,by simp,hl,fun i y hy => ?_⟩
  have hi:i < len:=by have:=(aQ.1 hy).1; simpa using this
  obtain ⟨cs',h1,h2⟩:=hY i hi
  obtain ⟨_,h4,h5⟩:=World.cells?_some h1
  have:Y i=y:=by simpa [bk,List.getElem?_range hi] using hy
  subst this
  refine ⟨cs',h4,fun j u hu => ?_,h2⟩
  have hj:=(aQ.1 hu).1
  have:=h5 j (by omega)
  rw [hu,iV (hsp (by omega)),iV rfl] at this
  exact this
theorem jg (h:DataW.trod enc prog w base spare held fuel 9 cs=some x):∃ l,cs=[str l]:=by
 obtain ⟨s,rfl,_⟩:=DataW.trod_string Tryz.underlying9 h
 exact ⟨s.data.toList,rfl⟩
theorem qZ (h:DataW.trod enc prog w base spare held fuel 23 cs=some x):∃ n:Nat,cs=[.int .u64 n]∧n < 18446744073709551616:=by
 obtain ⟨n,rfl,_,hw⟩:=DataW.trod_int Tryz.underlying23 h
 have hw:0≤n∧n≤18446744073709551615:=by simpa [Lit.wf,IntKind.min,IntKind.max,IntKind.bits,IntKind.signed] using hw
 have:0≤n∧n < 18446744073709551616:=by omega
 refine ⟨n.toNat,?_,by omega⟩
 rw [Int.toNat_of_nonneg this.1]
theorem zy (h:DataW.trod enc prog w base spare held fuel 88 cs=some x):∃ y,KE w cs y:=by
 obtain ⟨xs,n,_,_,hl,hlen,hf⟩:=DataW.trod_struct Tryz.underlying88 h
 rw [show prog.cellsOf 88=3 by kernel_rfl] at hl
 match cs,hl with
 | [c0,c1,c2],_ =>
  match xs,hlen with
  | [y0,y1,y2],_ =>
   have f0:DataW.trod enc prog w base spare held n 23 (([c0,c1,c2].drop 0).take (prog.cellsOf 23))=some y0:=hf 0 _ rfl
   have f1:DataW.trod enc prog w base spare held n 9 (([c0,c1,c2].drop 1).take (prog.cellsOf 9))=some y1:=hf 1 _ rfl
   have f2:DataW.trod enc prog w base spare held n 9 (([c0,c1,c2].drop 2).take (prog.cellsOf 9))=some y2:=hf 2 _ rfl
   rw [show prog.cellsOf 23=1 by kernel_rfl] at f0
   rw [show prog.cellsOf 9=1 by kernel_rfl] at f1 f2
   obtain ⟨a,ha,hw⟩:=qZ f0
   obtain ⟨b,hb⟩:=jg f1
   obtain ⟨c,hc⟩:=jg f2
   simp at ha hb hc
   subst ha hb hc
   exact ⟨⟨a,b,c⟩,rfl,hw⟩
theorem yR (h:DataW.trod enc prog w base spare held fuel 46 cs=some x):∃ y,dY w cs y:=by
 obtain ⟨xs,n,_,_,hl,hlen,hf⟩:=DataW.trod_struct Tryz.underlying46 h
 rw [show prog.cellsOf 46=3 by kernel_rfl] at hl
 match cs,hl with
 | [c0,c1,c2],_ =>
  match xs,hlen with
  | [y0,y1,y2],_ =>
   have f0:DataW.trod enc prog w base spare held n 9 (([c0,c1,c2].drop 0).take (prog.cellsOf 9))=some y0:=hf 0 _ rfl
   have f1:DataW.trod enc prog w base spare held n 9 (([c0,c1,c2].drop 1).take (prog.cellsOf 9))=some y1:=hf 1 _ rfl
   have f2:DataW.trod enc prog w base spare held n 44 (([c0,c1,c2].drop 2).take (prog.cellsOf 44))=some y2:=hf 2 _ rfl
   rw [show prog.cellsOf 44=1 by kernel_rfl] at f2
   rw [show prog.cellsOf 9=1 by kernel_rfl] at f0 f1
   obtain ⟨a,ha⟩:=jg f0
   obtain ⟨b,hb⟩:=jg f1
   obtain ⟨v,l,hv,hs⟩:=kt (R:=KE) (sz:=3) Tryz.underlying44 (by kernel_rfl) (by decide) (fun n cs x h=>zy h) f2
   simp at ha hb hv
   subst ha hb hv
   exact ⟨⟨a,b,l⟩,_,rfl,hs⟩
theorem tc (h:DataW.trod enc prog w base spare held fuel 28 cs=some x):∃ v l,cs=[v]∧Sl dY 3 w v l:=kt (sz:=3) Tryz.underlying28 (by kernel_rfl) (by decide) (fun n cs x h=>yR h) h
theorem sd (h:DataW.trod enc prog w base spare held fuel 22 cs=some x):∃ v l,cs=[v]∧Sl jW 1 w v l :=
 kt (sz:=1) Tryz.underlying22 (by kernel_rfl) (by decide) (fun n cs x h=>by obtain ⟨v,l,rfl,hs⟩:=tc h; exact ⟨l,v,rfl,hs⟩) h
end
theorem EZ {w w2:World} (x:bf w w2):RowKit.Below w.heap.size w w2:=⟨x.st.1,x.st.2.1,x.st.2.2,x.size,fun b hb=>x.block b hb fun _ h=>h⟩
end Go.E
end
section
namespace Go.E
open Go Go.Sort Go.Proofs
section
variable {H:Type} {enc:TypeId × Value→H} {w:World} {base:Nat} {spare:Nat→Bool} {held:Bool} {fuel:Nat} {cs:List Value} {x:DataW H × List MemPlace}
theorem wN (h:DataW.trod enc Tryz.prog w base spare held fuel 91 cs=some x):∃ v l,cs=[v]∧Sl wQ 1 w v l:=kt (sz:=1) Tryz.underlying91 (by kernel_rfl) (by decide) (fun n cs x h=>by
 obtain ⟨m,h3,h4⟩:=qZ h
 exact ⟨m,h3,h4⟩) h
end
end Go.E
end
