/- Parts of the proof: Xp. -/
import Derived.Test.YtjcbeinpkafjiaaGreatUXXo
set_option linter.all false
set_option maxRecDepth 10000
namespace Go.E
open Go Go.Sort Go.Proofs Go.Proofs.Tryz
def ansP (V:List Sp) (o:Option Int):An:=match o with
 | none=>⟨false,false,⟨[],[],[]⟩⟩
 | some p=>if inV V p then ⟨true,true,V[p.toNat]!⟩ else ⟨true,false,⟨[],[],[]⟩⟩
end Go.E
namespace Go.Proofs
open Go Go.E Go.Sort Go.Proofs.Tryz
section
variable {k:Kont} {d w:World}
theorem walk_run {v sv:Value} {V:List Sp} {steps:List (Nat × Bytes)} (hv:Sl SpE 3 d v V) (hs:Sl StE 2 d sv steps) (hl:V.length≤10000) (hsl:steps.length≤10000) (hw:Wf V) (hinc:Inc d w)
    (hk:∀ d2 w2 v2,Gr d w d2 w2→Sl AnE 5 d2 v2 ((wlk V (-2) false 0 steps).map (ansP V))→k v2 w2):callK prog 21 #[v,sv] k w:=by
 obtain ⟨ka,kc,rfl⟩:=hv.form
 obtain ⟨sa,sc,rfl⟩:=hs.form
 refine callZ [.tmp 4] func21 ?_
 refine goZ ?_
 obtain ⟨C,hC⟩:∃ C,C=w.heap.size:=⟨_,rfl⟩
 have hCo:Out d C:=by rw [hC]; exact hinc.out (Nat.le_refl _)
 obtain ⟨W,hW⟩:∃ W,W=w.alloc (.cells #[.int .i64 V.length,.int .i64 0,.bool false,.bool false,.bool false,.bool false] 177):=⟨_,rfl⟩
 have xW:Ext w W:=by rw [hW]; exact ext_alloc _
 have hcur:CurO W C V.length 0 false false false:=by
  rw [hW,hC]
  refine ⟨?_,?_,?_,?_,?_,?_,fun y => ?_⟩
  all_goals simp (disch:=first | exact dZ | fail) only [go_sem,↓reduceIte,Nat.reduceEqDiff,Nat.reduceAdd,cell_newN,frozen_newN]
  all_goals rfl
 rw [← hC,← hW]
 refine loopC (fun b:Nat × Value=>[(0,.slice ka V.length kc),(5,b.2),(6,.pointer (some ⟨C,0,none⟩)),(14,.slice sa steps.length sc),(15,.int .i64 steps.length),(16,.int .i64 b.1)])
  (fun b w'=>b.1≤steps.length∧∃ (outs:List (Option Int)) (p a:Int) (ok af be got:Bool) (last:Nat),wlk V (-2) false 0 steps=outs++wlk V p got last (steps.drop b.1)∧outs.length=b.1∧Rl a p ok af be got last∧(-(b.1:Int) - 1≤a∧a≤(V.length:Int)+b.1)∧CurO w' C V.length a ok af be∧LoopL AnE 5 103 d w d w' b.2 (outs.map (ansP V))∧b.2.ownBlock≠some C) (fun b _=>steps.length - b.1) (0,.slice none 0 0) (by kernel_rfl) ?_
  ⟨Nat.zero_le _,[],-2,0,false,false,false,false,0,rfl,rfl,⟨rfl,rfl,rfl,.inr ⟨rfl,by decide,by decide,by decide,by decide⟩⟩,by simp only; omega,hcur,(LoopL.nil hinc).ext AnE.mono xW,by simp [Value.ownBlock]⟩ ?_
 ·exact agZ
 rintro K2 e ⟨i,vo⟩ w1 ⟨i2,outs,p,a,ok,af,be,got,last,hwl,hol,hr,ha,hc,i3,hvC⟩ hK2
 simp only at i2 hwl hol ha i3 hvC
 rcases Nat.lt_or_ge i steps.length with hi | hi
 rotate_left
 ·have hi':¬ (i:Int) < steps.length:=by omega
  refine gY1 @hi' ?_
  obtain rfl:i=steps.length:=by omega
  rw [List.drop_length] at hwl
  have:wlk V p got last []=[]:=rfl
  rw [this,List.append_nil] at hwl
  obtain ⟨d2,g2,_,_,s2⟩:=i3.done AnE.mono
  exact hk d2 w1 vo g2 (by rw [hwl]; exact s2)
 have hi':(i:Int) < steps.length:=by omega
 obtain ⟨g,f,c,hv',hcc,hat⟩:=hs.at (by omega)
 obtain ⟨rfl,rfl⟩:sa=some ⟨g,f,none⟩∧sc=c:=by simpa using hv'
 obtain ⟨x,hx⟩:∃ x,steps[i]? = some x:=⟨_,List.getElem?_eq_getElem hi⟩
 obtain ⟨op,key⟩:=x
 obtain ⟨cs,_,hcs,rfl,hop⟩:=hat i _ hx
 simp only at hop
 have hdr:steps.drop i=(op,key) :: steps.drop (i+1):=by
  obtain ⟨_,h⟩:=List.getElem?_eq_some_iff.1 hx
  rw [List.drop_eq_getElem_cons hi,h]
 have h0:=i3.g.j _ _ _ (hcs 0 _ rfl)
 have h1:=i3.g.j _ _ _ (hcs 1 _ rfl)
 simp only [str,Nat.add_zero] at h0 h1
 obtain ⟨T,hT⟩:∃ T,T=w1.heap.size:=⟨_,rfl⟩
 obtain ⟨w2,hw2⟩:∃ w2,w2=(w1.alloc (.cells #[.int .u8 op,.string ⟨key.toArray⟩] 97)).alloc (.cells #[.bool false,.bool false,.string ByteArray.empty,.string ByteArray.empty,.slice none 0 0] 103):=⟨_,rfl⟩
 have x2:Ext w1 w2:=by rw [hw2]; exact (ext_alloc _).trans (ext_alloc _)
 have z2:w2.heap.size=T+2:=by rw [hw2,hT]; simp only [World.size_alloc]
 have e0:w2.cell? ⟨T,0,none⟩=some (.int .u8 op):=by rw [hw2,hT]; exact eY1 @cell_newN
 have e1:w2.cell? ⟨T,1,none⟩=some (.string ⟨key.toArray⟩):=by rw [hw2,hT]; exact eY1 @cell_newN
 have q0:w2.cell? ⟨T+1,0,none⟩=some (.bool false):=by rw [hw2,hT]; exact eY1 @cell_newN
 have q1:w2.cell? ⟨T+1,1,none⟩=some (.bool false):=by rw [hw2,hT]; exact eY1 @cell_newN
 have q2:w2.cell? ⟨T+1,2,none⟩=some (.string ByteArray.empty):=by rw [hw2,hT]; exact eY1 @cell_newN
 have q3:w2.cell? ⟨T+1,3,none⟩=some (.string ByteArray.empty):=by rw [hw2,hT]; exact eY1 @cell_newN
 have q4:w2.cell? ⟨T+1,4,none⟩=some (.slice none 0 0):=by rw [hw2,hT]; exact eY1 @cell_newN
 have fz2:∀ y,w2.frozen? ⟨T+1,y,none⟩=false:=fun y=>by rw [hw2,hT]; exact eY1 @frozen_newN
 refine gY3 @hi' @h0 @h1 ?_
 rw [← hT,← hw2]
 refine drawZ (sq [0,1] (.read 2 (sq [3,4] (.read 5 (sq [7,8] (.read 9 (.eff 6 [2,9] (.eff 10 [2] (.eff 11 [] (sq [12,13,14,15] (.eff 16 [] (sq [17] (.eff 18 [] .done))))))))))))) ?_
 refine gY2 @e0 @e1 ?_
 have x2d:=x2.trans (Ext.drew' (Ext.refl w2))
 refine seekGE_run (hv.inc SpE.mono (i3.g.j.trans x2d.inc)) (by omega) fun w3 x3 => ?_
 have y3:=(Ext.drew' (Ext.refl w2)).trans x3
 have e0:=y3.cell e0
 have e1:=y3.cell e1
 refine gY2 @e0 @e1 ?_
 refine seekLT_run (hv.inc SpE.mono (i3.g.j.trans (x2.trans y3).inc)) (by omega) hw fun w4 x4 => ?_
 have y4:=y3.trans x4
 have e0:=x4.cell e0
 refine gY1 @e0 ?_
 have x14:=x2.trans y4
 have hCw:=lt_of_cell hc.c0
 have hge:=thr_le (fun j=>decide (¬ key < V[j]!.e)) V.length
 have hlt2:=thr_le (fun j=>decide (V[j]!.s < key)) V.length
 have hgd:skGE V key=thr (fun j=>decide (¬ key < V[j]!.e)) V.length:=rfl
 have hld:skLT V key=(thr (fun j=>decide (V[j]!.s < key)) V.length:Int) - 1:=rfl
 have z4:=y4.size
 refine step_run (hc.keep x14 fun _ h=>h) hop (by omega) (by omega) (by omega) (by omega) (fun w5 hn x5 => ?_) fun w5 p2 iv ht hp2 hiv hc5 k5 => ?_
 ·have y5:=y4.trans x5
  have q0:=y5.cell q0
  have q1:=y5.cell q1
  have q2:=y5.cell q2
  have q3:=y5.cell q3
  have q4:=y5.cell q4
  have fz:∀ y,w5.frozen? ⟨T+1,y,none⟩=false:=fun y=>by rw [y5.frozen _ y (by omega)]; exact fz2 y
  obtain ⟨vo1,vo2,rfl,_⟩:=i3.form
  have htk:tkn op got last=false:=by
   cases h:tkn op got last with
   | false=>rfl
   | true=>exact absurd (hr.tk.1 h) hn
  have more:wlk V (-2) false 0 steps=(outs++[none])++wlk V p got last (steps.drop (i+1)):=by
   rw [hwl,hdr,List.append_assoc]
   congr 1
   show (if tkn op got last then _ else _)=_
   rw [htk]
   rfl
  have x15:=x14.trans x5
  have iA:=i3.ext AnE.mono (ext_set (ext_set x15 (b:=T+1) (o:=0) (v := .bool false) (by omega)) (b:=T+1) (o:=1) (v := .bool false) (by omega))
  have hcA:CurO ((w5.setCell ⟨T+1,0,none⟩ (.bool false)).setCell ⟨T+1,1,none⟩ (.bool false)) C V.length a ok af be:=(hc.keep x15 fun _ h=>h).keep (((Keep.refl (M:=fun b _=>b=T+1) w5).set fun _=>rfl).set fun _=>rfl) fun o h=>by omega
  refine gY6 @q0 @q1 @q2 @q3 @q4 @fz ?_
  obtain ⟨css,oo⟩:=iA.o
  refine appN (ansP V (none)) [.bool false,.bool false,.string ByteArray.empty,.string ByteArray.empty,.slice none 0 0] rw40 oo (by rw [show ansP V none=⟨false,false,⟨[],[],[]⟩⟩ from rfl]; exact ⟨_,rfl,Sl.nil⟩) rfl (.inl rfl) (by simp only [World.size_setCell]) rfl (by simp [Value.oneCell',str]) (by rw [List.length_map]; omega) iA.g.j fun v8 w8 o8 k8 n8 j8 _ => ?_
  have hvC8:v8.ownBlock≠some C:=fun h=>by
   rcases n8 C h with h | h
   ·exact hvC h
   ·have:=lt_of_cell hcA.c0; omega
  refine goZ ?_
  refine hK2 _ _ (i+1,v8) ?_ ⟨hi,outs++[none],p,a,ok,af,be,got,last,more,by simp [hol],hr,by omega,hcA.keep k8 fun _ h=>hvC h,?_,hvC8⟩ (by simp only; omega)
  ·exact agZ
  ·simp only [List.map_append,List.map_cons,List.map_nil]
   exact iA.more o8 k8 n8 j8
 ·have x05:=(i3.g.x.trans x14).tr k5 fun b o hb h=>by omega
  have hTC:T+1≠C:=by omega
  have q0:=k5.some (y4.cell q0) hTC
  have q1:=k5.some (y4.cell q1) hTC
  have q2:=k5.some (y4.cell q2) hTC
  have q3:=k5.some (y4.cell q3) hTC
  have q4:=k5.some (y4.cell q4) hTC
  have fz:∀ y,w5.frozen? ⟨T+1,y,none⟩=false:=fun y=>by rw [k5.frozen _ y (by omega),y4.frozen _ y (by omega)]; exact fz2 y
  have hpm:p2=mv V p op key:=by rw [hp2,hr.mvE ht]
  have more:wlk V (-2) false 0 steps=(outs++[some p2])++wlk V p2 iv op (steps.drop (i+1)):=by
   rw [hwl,hdr,List.append_assoc]
   congr 1
   show (if tkn op got last then _ else _)=_
   rw [hr.tk.2 ht,if_pos rfl,← hpm,hiv]
   rfl
  have hr2:Rl p2 p2 iv (!iv && decide (op=2∨op=4)) (!iv && decide (op=3∨op=5)) iv op:=⟨rfl,rfl,rfl,.inl rfl⟩
  have hp2b : -(((i+1:Nat):Int)) - 1≤p2∧p2≤(V.length:Int)+(i+1:Nat):=by
   rw [hp2]
   unfold stepN
   repeat' split
   all_goals omega
  have i5:=(i3.ext AnE.mono x14).mut k5 fun b o h=>by
   subst h
   exact ⟨by omega,hCo,hvC⟩
  have z5:=k5.size
  obtain ⟨vo1,vo2,rfl,_⟩:=i3.form
  have kT:∀ {w':World} {o:Nat} {v:Value},Keep (fun b _=>b=T+1) w5 w'→Keep (fun b _=>b=T+1) w5 (w'.setCell ⟨T+1,o,none⟩ v):=fun h=>h.set fun _=>rfl
  have hTo:Out d (T+1):=i3.g.j.out (by omega)
  have hTv:(Value.slice vo1 (outs.map (ansP V)).length vo2).ownBlock≠some (T+1):=fun h=>by
   obtain ⟨css,o⟩:=i3.o
   have:=(o.own.lt _ h).2
   omega
  have iT:∀ {w'},Keep (fun b _=>b=T+1) w5 w'→LoopL AnE 5 103 d w d w' (.slice vo1 (outs.map (ansP V)).length vo2) (outs.map (ansP V)):=fun kk=>i5.mut kk fun b o h=>by
   subst h
   exact ⟨by have:=i3.g.x.size; omega,hTo,hTv⟩
  have hcT:∀ {w'},Keep (fun b _=>b=T+1) w5 w'→CurO w' C V.length p2 iv (!iv && decide (op=2∨op=4)) (!iv && decide (op=3∨op=5)):=fun kk=>hc5.keep kk fun o h=>by omega
  refine gY6 @q0 @q1 @q2 @q3 @q4 @fz ?_
  cases iv with
  | false =>
   have hans:ansP V (some p2)=⟨true,false,⟨[],[],[]⟩⟩:=if_neg (by rw [show inV V p2=false from hiv.symm]; decide)
   have kk:=kT (o:=1) (v := .bool false) (kT (o:=0) (v := .bool true) (Keep.refl _ w5))
   have iA:=iT kk
   have hcA:=hcT kk
   refine gY6 @q0 @q1 @q2 @q3 @q4 @fz ?_
   obtain ⟨css,oo⟩:=iA.o
   refine appN (ansP V (some p2)) [.bool true,.bool false,.string ByteArray.empty,.string ByteArray.empty,.slice none 0 0] rw40 oo (by rw [hans]; exact ⟨_,rfl,Sl.nil⟩) rfl (.inl rfl) (by simp only [World.size_setCell]) rfl (by simp [Value.oneCell',str]) (by rw [List.length_map]; omega) iA.g.j fun v8 w8 o8 k8 n8 j8 _ => ?_
   have hvC8:v8.ownBlock≠some C:=fun h=>by
    rcases n8 C h with h | h
    ·exact hvC h
    ·have:=lt_of_cell hcA.c0; omega
   refine goZ ?_
   refine hK2 _ _ (i+1,v8) ?_ ⟨hi,outs++[some p2],p2,p2,_,_,_,false,op,more,by simp [hol],hr2,hp2b,hcA.keep k8 fun _ h=>hvC h,?_,hvC8⟩ (by simp only; omega)
   ·exact agZ
   ·simp only [List.map_append,List.map_cons,List.map_nil]
    exact iA.more o8 k8 n8 j8
  | true =>
   obtain ⟨hp0,hpV⟩:=of_decide_eq_true hiv.symm
   obtain ⟨j,rfl⟩:∃ j:Nat,p2=j:=⟨p2.toNat,by omega⟩
   have hj:j < V.length:=by omega
   have hans:ansP V (some (j:Int))=⟨true,true,V[j]!⟩:=if_pos (show inV V j=true from hiv.symm)
   obtain ⟨gv,fv,cv,hvv,hcv,hatv⟩:=hv.at (by omega)
   obtain ⟨rfl,rfl⟩:ka=some ⟨gv,fv,none⟩∧kc=cv:=by simpa using hvv
   obtain ⟨y,hy⟩:∃ y,V[j]? = some y:=⟨_,List.getElem?_eq_getElem hj⟩
   have hy2:V[j]! = y:=by rw [getElem!_pos V j hj]; rw [List.getElem?_eq_getElem hj] at hy; exact Option.some.inj hy
   rw [hy2] at hans
   obtain ⟨v0,v1,ya,yc,v2,hyk⟩:=cells_spe (hatv j y hy)
   have hgv:=lt_of_cell (i3.g.j _ _ _ v0)
   have v0:=i5.g.j _ _ _ v0
   have v1:=i5.g.j _ _ _ v1
   have v2:=i5.g.j _ _ _ v2
   have k2:=kT (o:=1) (v := .bool true) (kT (o:=0) (v := .bool true) (Keep.refl _ w5))
   have kk:=kT (o:=4) (v := .slice ya y.ks.length yc) (kT (o:=3) (v := .string ⟨y.e.toArray⟩) (kT (o:=2) (v := .string ⟨y.s.toArray⟩) k2))
   have iA:=iT kk
   have hcA:=hcT kk
   refine gY11 @q0 @q1 @q2 @q3 @q4 @fz @hc5.c1 @hpV @v0 @v1 @v2 ?_
   obtain ⟨css,oo⟩:=iA.o
   refine appN (ansP V (some (j:Int))) [.bool true,.bool true,.string ⟨y.s.toArray⟩,.string ⟨y.e.toArray⟩,.slice ya y.ks.length yc] rw40 oo (by rw [hans]; exact ⟨_,rfl,hyk⟩) rfl (.inl rfl) (by simp only [World.size_setCell]) rfl (by simp [Value.oneCell',str]) (by rw [List.length_map]; omega) iA.g.j fun v8 w8 o8 k8 n8 j8 _ => ?_
   have hvC8:v8.ownBlock≠some C:=fun h=>by
    rcases n8 C h with h | h
    ·exact hvC h
    ·have:=lt_of_cell hcA.c0; omega
   refine goZ ?_
   refine hK2 _ _ (i+1,v8) ?_ ⟨hi,outs++[some (j:Int)],j,j,_,_,_,true,op,more,by simp [hol],hr2,hp2b,hcA.keep k8 fun _ h=>hvC h,?_,hvC8⟩ (by simp only; omega)
   ·exact agZ
   ·simp only [List.map_append,List.map_cons,List.map_nil]
    exact iA.more o8 k8 n8 j8
end
end Go.Proofs
