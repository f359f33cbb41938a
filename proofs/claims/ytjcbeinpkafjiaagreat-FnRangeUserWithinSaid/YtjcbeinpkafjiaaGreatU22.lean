/- Parts of the proof: We, Wf, Wg, Xa. -/
import Derived.Test.YtjcbeinpkafjiaaGreatU21
set_option linter.all false
section
set_option maxRecDepth 10000
namespace Go.E
open Go Go.Sort Go.Proofs Go.Proofs.Tryz
open Classical in
theorem grAll {d w w2:World} (hi:Inc d w) (x:Ext w w2):∃ d2,Gr d w d2 w2∧∀ b o u,w.heap.size≤b→w2.cell? ⟨b,o,none⟩=some u→d2.cell? ⟨b,o,none⟩=some u:=by
 let D:Nat→Bool:=fun b=>decide (¬ Out d b∨w.heap.size≤b)
 have hD:∀ b o u,d.cell? ⟨b,o,none⟩=some u→D b=true:=fun b o u hu=>decide_eq_true (.inl fun ho=>by rw [ho o] at hu; simp at hu)
 refine ⟨only w2 D,⟨x,inc_only (hi.trans x.inc) D hD,only_inc w2 D,fun b hb ho=>only_out w2 D (decide_eq_false fun h=>h.elim (fun h=>h ho) fun h=>by omega)⟩,fun b o u hb hu => ?_⟩
 rw [only_cell,show D b=true from decide_eq_true (.inr hb),if_pos rfl]
 exact hu
theorem SlcOf.imp {α:Type} {R R2:World→Nat→Nat→α→Prop} {sz:Nat} {w:World} {v:Value} {l:List α} (h:SlcOf R sz w v l) (hi:∀ b o x,x ∈ l→R w b o x→R2 w b o x):SlcOf R2 sz w v l:=by
 unfold SlcOf at h ⊢
 split at h
 ·exact h
 ·exact ⟨h.1,h.2.1,h.2.2.1,fun i x hx=>hi _ _ _ (List.mem_of_getElem? hx) (h.2.2.2 i x hx)⟩
 ·exact h.elim
def KB:Elem K:=fun w cs x=>∃ a b,cs=[.int .u64 x.tr,a,b]∧x.tr < 18446744073709551616∧Bts w a x.suf∧Bts w b x.val
theorem KB.mono:MonoE KB:=fun _ _ _ _ hi ⟨a,b,h1,h2,h3,h4⟩=>⟨a,b,h1,h2,h3.inc hi,h4.inc hi⟩
def SB4:Elem Sp:=fun w cs x=>∃ a b v,cs=[a,b,v,.int .i8 0]∧isS a=true∧Bts w a x.s∧isS b=true∧Bts w b x.e∧Sl KB 3 w v x.ks
theorem SB4.mono:MonoE SB4:=fun _ _ _ _ hi ⟨a,b,v,h1,h2,h3,h4,h5,h6⟩=>⟨a,b,v,h1,h2,h3.inc hi,h4,h5.inc hi,h6.inc KB.mono hi⟩
theorem KB.key {w:World} {b o:Nat} {x:K} (h:AtC KB 3 w b o x):KeyC w b o x:=by
 obtain ⟨cs,_,hc,a,a2,rfl,h2,h3,h4⟩:=h
 exact ⟨hc 0 _ rfl,h2,⟨a,hc 1 _ rfl,h3⟩,a2,hc 2 _ rfl,h4⟩
theorem SB4.span {w:World} {b o:Nat} {x:Sp} (h:AtC SB4 4 w b o x):SpanC w b o x:=by
 obtain ⟨cs,_,hc,a,a2,v,rfl,h2,h3,h4,h5,h6⟩:=h
 exact ⟨⟨a,hc 0 _ rfl,h2,h3⟩,⟨a2,hc 1 _ rfl,h4,h5⟩,⟨v,hc 2 _ rfl,h6.imp fun _ _ _ _ h=>KB.key h⟩,hc 3 _ rfl⟩
def KLen (x:K):Prop:=x.suf.length≤4294967296∧x.val.length≤4294967296
def SLen (x:Sp):Prop:=x.s.length≤4294967296∧x.e.length≤4294967296∧x.ks.length < 1000000∧∀ k ∈ x.ks,KLen k
end Go.E
namespace Go.Proofs
open Go Go.E Go.Sort Go.Proofs.Tryz
section
variable {k:Kont} {d w:World}
theorem bytes_run {s:Bytes} {q:Kont} (hinc:Inc d w) (hs:s.length≤4294967296) (hk:∀ d2 w2 a n c,Gr d w d2 w2→Bts d2 (.slice (some a) n c) s→q (.slice (some a) n c) w2):stX prog 9 107 (.string ⟨s.toArray⟩) q w:=by
 unfold stX
 refine bytesE Tryz.underlying9 Tryz.underlying107 Tryz.underlying5 (by simp only [ByteArray.size,List.size_toArray]; omega) fun n c w2 h2 hn x2 _ => ?_
 obtain ⟨d2,g2,e2⟩:=grAll hinc x2
 have h3:Bts w2 (.slice (some ⟨w.heap.size,0,none⟩) n c) s:=h2
 exact hk d2 w2 _ n c g2 ⟨h3.1,h3.2.1,fun i v hv=>e2 _ _ _ (Nat.le_refl _) (h3.2.2 i v hv)⟩
theorem maybe_run {s:Bytes} (hinc:Inc d w) (hs:s.length≤4294967296) (hk:∀ d2 w2 v,Gr d w d2 w2→Bts d2 v s→k v w2):callK prog 126 #[.string ⟨s.toArray⟩] k w:=by
 refine callZ [.tmp 2] func126 ?_
 cases s with
 | nil =>
  refine goZ ?_
  exact hk d w _ (Gr.refl hinc) ⟨rfl,rfl⟩
 | cons a s =>
  have e:((⟨(a :: s).toArray⟩:ByteArray).toList == (⟨#[]⟩:ByteArray).toList)=false:=by rw [ByteArray.toList_mk,ByteArray.toList_mk]; rfl
  refine gY1 @e ?_
  refine bytes_run hinc hs fun d2 w2 a2 n c g2 h2 => ?_
  refine goZ ?_
  exact hk d2 w2 _ g2 h2
theorem spanKeys_run {v:Value} {l:List K} (hv:Sl KE 3 d v l) (hl:l.length < 1000000) (hlen:∀ x ∈ l,KLen x) (hinc:Inc d w) (hk:∀ d' w' v',Gr d w d' w'→Sl KB 3 d' v' l→k v' w'):callK prog 91 #[v] k w:=by
 obtain ⟨ka,kc,rfl⟩:=hv.form
 refine callZ [.tmp 2] func91 ?_
 refine goZ ?_
 refine loopC (fun b:Nat × Value=>[(3,b.2),(6,.slice ka l.length kc),(7,.int .i64 l.length),(8,.int .i64 b.1)])
  (fun b w'=>b.1≤l.length∧∃ d1,LoopL KB 3 256 d w d1 w' b.2 (l.take b.1)) (fun b _=>l.length - b.1) (0,.slice none 0 0) (by kernel_rfl) ?_ ⟨Nat.zero_le _,d,LoopL.nil hinc⟩ ?_
 ·exact agZ
 rintro K2 e ⟨i,v⟩ w1 ⟨i2,d1,i3⟩ hK2
 simp only at i2 i3
 rcases Nat.lt_or_ge i l.length with hi | hi
 rotate_left
 ·have hi':¬ (i:Int) < l.length:=by omega
  refine gY1 @hi' ?_
  obtain rfl:i=l.length:=by omega
  rw [List.take_length] at i3
  obtain ⟨d2,g2,_,_,s2⟩:=i3.done KB.mono
  exact hk d2 w1 v g2 s2
 have hi':(i:Int) < l.length:=by omega
 obtain ⟨g,f,c,hv',hc,hat⟩:=(hv.inc KE.mono i3.g.i).at (by omega)
 obtain ⟨rfl,rfl⟩:ka=some ⟨g,f,none⟩∧kc=c:=by simpa using hv'
 obtain ⟨x,hx⟩:∃ x,l[i]? = some x:=⟨_,List.getElem?_eq_getElem hi⟩
 obtain ⟨cs,_,hcs,hR⟩:=hat i x hx
 have hmem:=List.mem_of_getElem? hx
 obtain ⟨rfl,htr⟩:=hR
 have h0:w1.cell? ⟨g,f+i * 3,none⟩=some (.int .u64 x.tr):=i3.g.j _ _ _ (hcs 0 _ rfl)
 have h1:w1.cell? ⟨g,f+i * 3+1,none⟩=some (.string ⟨x.suf.toArray⟩):=i3.g.j _ _ _ (hcs 1 _ rfl)
 have h2:w1.cell? ⟨g,f+i * 3+2,none⟩=some (.string ⟨x.val.toArray⟩):=i3.g.j _ _ _ (hcs 2 _ rfl)
 refine gY4 @hi' @h0 @h1 @h2 ?_
 refine drawZ (sq [0,1] (.read 2 (sq [3] (.read 4 (sq [6] (.read 7 (.eff 5 [2,7] (.eff 8 [2] (sq [9] (.eff 10 [] (.eff 11 [] (sq [12] .done)))))))))))) ?_
 refine goZ ?_
 obtain ⟨sb,hsb⟩:∃ sb,sb=w1.heap.size:=⟨_,rfl⟩
 obtain ⟨w3,hw3⟩:∃ w3,w3=(w1.alloc (.cells #[.int .u64 x.tr,.string ⟨x.suf.toArray⟩,.string ⟨x.val.toArray⟩] 62)).drew:=⟨_,rfl⟩
 have x3:Ext w1 w3:=by rw [hw3]; exact Keep.drew (ext_alloc _)
 have p0:w3.cell? ⟨sb,0,none⟩=some (.int .u64 x.tr):=by rw [hw3,hsb]; exact eY1 @cell_newN
 have p1:w3.cell? ⟨sb,1,none⟩=some (.string ⟨x.suf.toArray⟩):=by rw [hw3,hsb]; exact eY1 @cell_newN
 have p2:w3.cell? ⟨sb,2,none⟩=some (.string ⟨x.val.toArray⟩):=by rw [hw3,hsb]; exact eY1 @cell_newN
 rw [← hw3,← hsb]
 have i4:=i3.ext KB.mono x3
 refine maybe_run i4.g.j (hlen x hmem).1 fun d4 w4 v4 g4 b4 => ?_
 have i5:=i4.call KB.mono g4
 obtain ⟨a4,c4,rfl⟩:=bts_slice b4
 have p0:=g4.x.cell p0
 have p1:=g4.x.cell p1
 have p2:=g4.x.cell p2
 refine gY3 @p0 @p1 @p2 ?_
 refine maybe_run i5.g.j (hlen x hmem).2 fun d5 w5 v5 g5 b5 => ?_
 have i6:=i5.call KB.mono g5
 obtain ⟨a5,c5,rfl⟩:=bts_slice b5
 have p0:=g5.x.cell p0
 have p1:=g5.x.cell p1
 have p2:=g5.x.cell p2
 obtain ⟨va,vcap,rfl,_⟩:=i6.form
 refine gY3 @p0 @p1 @p2 ?_
 obtain ⟨css,o6⟩:=i6.o
 refine appN x [.int .u64 x.tr,.slice a4 x.suf.length c4,.slice a5 x.val.length c5] rw110 o6 ⟨_,_,rfl,htr,b4.inc g5.i,b5⟩ rfl (.inl rfl) rfl rfl (by simp [Value.oneCell']) (by rw [take_len i2]; omega) i6.g.j fun v2 w2 o2 k2 n2 j2 _ => ?_
 refine gY3 @p0 @p1 @p2 ?_
 refine hK2 _ _ (i+1,v2) ?_ ⟨hi,d5,?_⟩ (by simp only; omega)
 ·exact agZ
 ·rw [take_more hx]
  exact i6.more o2 k2 n2 j2
theorem span_run {kv:Value} {x:Sp} (hv:Sl KE 3 d kv x.ks) (hl:SLen x) (hinc:Inc d w) (hk:∀ d' w' a b v',Gr d w d' w'→isS a=true→Bts d' a x.s→isS b=true→Bts d' b x.e→Sl KB 3 d' v' x.ks→k (.agg #[a,b,v',.int .i8 0]) w') :
    callK prog 84 #[.agg #[.string ⟨x.s.toArray⟩,.string ⟨x.e.toArray⟩,kv]] k w:=by
 obtain ⟨ka,kc,rfl⟩:=hv.form
 refine callZ [.cell 2 114] func84 ?_
 refine goZ ?_
 refine drawZ (sq [0] (.read 1 (sq [3] (.read 4 (sq [6] (.read 7 (.alt (.alt (.eff 2 [4,7] (.alt (.eff 5 [1,7] (.eff 8 [1,4] (sq [9] (.eff 10 [] .done)))) (.eff 8 [1,4] (.eff 5 [1,7] (sq [9] (.eff 10 [] .done)))))) (.eff 5 [1,7] (.alt (.eff 2 [4,7] (.eff 8 [1,4] (sq [9] (.eff 10 [] .done)))) (.eff 8 [1,4] (.eff 2 [4,7] (sq [9] (.eff 10 [] .done))))))) (.eff 8 [1,4] (.alt (.eff 2 [4,7] (.eff 5 [1,7] (sq [9] (.eff 10 [] .done)))) (.eff 5 [1,7] (.eff 2 [4,7] (sq [9] (.eff 10 [] .done))))))))))))) ?_
 refine goZ ?_
 obtain ⟨b,hb⟩:∃ b,b=w.heap.size:=⟨_,rfl⟩
 obtain ⟨w1,hw1⟩:∃ w1,w1=((w.alloc (.cells #[.string ⟨x.s.toArray⟩,.string ⟨x.e.toArray⟩,.slice ka x.ks.length kc] 56)).alloc (.cells #[.slice none 0 0,.slice none 0 0,.slice none 0 0,.int .i8 0] 114)).drew:=⟨_,rfl⟩
 rw [← hw1,← hb]
 have k1:Ext w w1:=by rw [hw1]; exact Keep.drew ((ext_alloc _).trans (ext_alloc _))
 have z1:w1.heap.size=w.heap.size+2:=by rw [hw1,World.size_drew,World.size_alloc,World.size_alloc]
 have a0:w1.cell? ⟨b,0,none⟩=some (.string ⟨x.s.toArray⟩):=by rw [hw1,hb]; exact eY1 @cell_newN
 have a1:w1.cell? ⟨b,1,none⟩=some (.string ⟨x.e.toArray⟩):=by rw [hw1,hb]; exact eY1 @cell_newN
 have a2:w1.cell? ⟨b,2,none⟩=some (.slice ka x.ks.length kc):=by rw [hw1,hb]; exact eY1 @cell_newN
 have b0:w1.cell? ⟨b+1,0,none⟩=some (.slice none 0 0):=by rw [hw1,hb]; exact eY1 @cell_newN
 have b1:w1.cell? ⟨b+1,1,none⟩=some (.slice none 0 0):=by rw [hw1,hb]; exact eY1 @cell_newN
 have b2:w1.cell? ⟨b+1,2,none⟩=some (.slice none 0 0):=by rw [hw1,hb]; exact eY1 @cell_newN
 have b3:w1.cell? ⟨b+1,3,none⟩=some (.int .i8 0):=by rw [hw1,hb]; exact eY1 @cell_newN
 have f1:∀ o,w1.frozen? ⟨b+1,o,none⟩=false:=fun o=>by rw [hw1,hb]; simp (disch:=first | exact dZ | fail) only [go_sem,↓reduceIte,Nat.reduceEqDiff,Nat.reduceAdd]
 have ob:Out d (b+1):=hinc.out (by omega)
 have t1:Gr d w1 d w1:=Gr.refl (hinc.trans k1.inc)
 refine ⟨⟨?_,?_⟩,?_⟩
 ·refine bytes_run t1.j hl.1 fun d2 w2 sa sn sc g2 hS => ?_
  have t2:=t1.trans g2
  have c0:=t2.x.cell a0
  have c1:=t2.x.cell a1
  have c2:=t2.x.cell a2
  refine gY3 @c0 @c1 @c2 ?_
  refine ⟨?_,?_⟩
  ·refine bytes_run t2.j hl.2.1 fun d3 w3 ea en ec g3 hE => ?_
   have t3:=t2.trans g3
   have hS:=hS.inc g3.i
   have c0:=t3.x.cell a0
   have c1:=t3.x.cell a1
   have c2:=t3.x.cell a2
   refine gY3 @c0 @c1 @c2 ?_
   refine spanKeys_run (hv.inc KE.mono t3.i) hl.2.2.1 hl.2.2.2 t3.j fun d4 w4 v4 g4 hQ => ?_
   obtain ⟨va,vc,rfl⟩:=hQ.form
   have t4:=t3.trans g4
   have hS:=hS.inc g4.i
   have hE:=hE.inc g4.i
   have c0:=t4.x.cell a0
   have c1:=t4.x.cell a1
   have c2:=t4.x.cell a2
   have b0:=t4.x.cell b0
   have b1:=t4.x.cell b1
   have b2:=t4.x.cell b2
   have b3:=t4.x.cell b3
   have f4:∀ o,w4.frozen? ⟨b+1,o,none⟩=false:=fun o=>by rw [t4.x.frozen _ o (by omega)]; exact f1 o
   refine gY8 @c0 @c1 @c2 @b0 @b1 @b2 @b3 @f4 ?_
   have k4:=k1.trans t4.x
   have ho:Out d4 (b+1):=t4.o _ (by omega) ob
   refine hk d4 _ _ _ _ ⟨ext_set (ext_set (ext_set (ext_set k4 (by omega)) (by omega)) (by omega)) (by omega),t4.i,?_,fun c hc ho=>t4.o c (Nat.lt_of_lt_of_le hc k1.size) ho⟩ rfl hS rfl hE hQ
   exact (((t4.j.set ho).set ho).set ho).set ho
  ·refine spanKeys_run (hv.inc KE.mono t2.i) hl.2.2.1 hl.2.2.2 t2.j fun d3 w3 v4 g3 hQ => ?_
   obtain ⟨va,vc,rfl⟩:=hQ.form
   have t3:=t2.trans g3
   have hS:=hS.inc g3.i
   have c0:=t3.x.cell a0
   have c1:=t3.x.cell a1
   have c2:=t3.x.cell a2
   refine gY3 @c0 @c1 @c2 ?_
   refine bytes_run t3.j hl.2.1 fun d4 w4 ea en ec g4 hE => ?_
   have t4:=t3.trans g4
   have hS:=hS.inc g4.i
   have hQ:=hQ.inc KB.mono g4.i
   have c0:=t4.x.cell a0
   have c1:=t4.x.cell a1
   have c2:=t4.x.cell a2
   have b0:=t4.x.cell b0
   have b1:=t4.x.cell b1
   have b2:=t4.x.cell b2
   have b3:=t4.x.cell b3
   have f4:∀ o,w4.frozen? ⟨b+1,o,none⟩=false:=fun o=>by rw [t4.x.frozen _ o (by omega)]; exact f1 o
   refine gY8 @c0 @c1 @c2 @b0 @b1 @b2 @b3 @f4 ?_
   have k4:=k1.trans t4.x
   have ho:Out d4 (b+1):=t4.o _ (by omega) ob
   refine hk d4 _ _ _ _ ⟨ext_set (ext_set (ext_set (ext_set k4 (by omega)) (by omega)) (by omega)) (by omega),t4.i,?_,fun c hc ho=>t4.o c (Nat.lt_of_lt_of_le hc k1.size) ho⟩ rfl hS rfl hE hQ
   exact (((t4.j.set ho).set ho).set ho).set ho
 ·refine bytes_run t1.j hl.2.1 fun d2 w2 ea en ec g2 hE => ?_
  have t2:=t1.trans g2
  have c0:=t2.x.cell a0
  have c1:=t2.x.cell a1
  have c2:=t2.x.cell a2
  refine gY3 @c0 @c1 @c2 ?_
  refine ⟨?_,?_⟩
  ·refine bytes_run t2.j hl.1 fun d3 w3 sa sn sc g3 hS => ?_
   have t3:=t2.trans g3
   have hE:=hE.inc g3.i
   have c0:=t3.x.cell a0
   have c1:=t3.x.cell a1
   have c2:=t3.x.cell a2
   refine gY3 @c0 @c1 @c2 ?_
   refine spanKeys_run (hv.inc KE.mono t3.i) hl.2.2.1 hl.2.2.2 t3.j fun d4 w4 v4 g4 hQ => ?_
   obtain ⟨va,vc,rfl⟩:=hQ.form
   have t4:=t3.trans g4
   have hE:=hE.inc g4.i
   have hS:=hS.inc g4.i
   have c0:=t4.x.cell a0
   have c1:=t4.x.cell a1
   have c2:=t4.x.cell a2
   have b0:=t4.x.cell b0
   have b1:=t4.x.cell b1
   have b2:=t4.x.cell b2
   have b3:=t4.x.cell b3
   have f4:∀ o,w4.frozen? ⟨b+1,o,none⟩=false:=fun o=>by rw [t4.x.frozen _ o (by omega)]; exact f1 o
   refine gY8 @c0 @c1 @c2 @b0 @b1 @b2 @b3 @f4 ?_
   have k4:=k1.trans t4.x
   have ho:Out d4 (b+1):=t4.o _ (by omega) ob
   refine hk d4 _ _ _ _ ⟨ext_set (ext_set (ext_set (ext_set k4 (by omega)) (by omega)) (by omega)) (by omega),t4.i,?_,fun c hc ho=>t4.o c (Nat.lt_of_lt_of_le hc k1.size) ho⟩ rfl hS rfl hE hQ
   exact (((t4.j.set ho).set ho).set ho).set ho
  ·refine spanKeys_run (hv.inc KE.mono t2.i) hl.2.2.1 hl.2.2.2 t2.j fun d3 w3 v4 g3 hQ => ?_
   obtain ⟨va,vc,rfl⟩:=hQ.form
   have t3:=t2.trans g3
   have hE:=hE.inc g3.i
   have c0:=t3.x.cell a0
   have c1:=t3.x.cell a1
   have c2:=t3.x.cell a2
   refine gY3 @c0 @c1 @c2 ?_
   refine bytes_run t3.j hl.1 fun d4 w4 sa sn sc g4 hS => ?_
   have t4:=t3.trans g4
   have hE:=hE.inc g4.i
   have hQ:=hQ.inc KB.mono g4.i
   have c0:=t4.x.cell a0
   have c1:=t4.x.cell a1
   have c2:=t4.x.cell a2
   have b0:=t4.x.cell b0
   have b1:=t4.x.cell b1
   have b2:=t4.x.cell b2
   have b3:=t4.x.cell b3
   have f4:∀ o,w4.frozen? ⟨b+1,o,none⟩=false:=fun o=>by rw [t4.x.frozen _ o (by omega)]; exact f1 o
   refine gY8 @c0 @c1 @c2 @b0 @b1 @b2 @b3 @f4 ?_
   have k4:=k1.trans t4.x
   have ho:Out d4 (b+1):=t4.o _ (by omega) ob
   refine hk d4 _ _ _ _ ⟨ext_set (ext_set (ext_set (ext_set k4 (by omega)) (by omega)) (by omega)) (by omega),t4.i,?_,fun c hc ho=>t4.o c (Nat.lt_of_lt_of_le hc k1.size) ho⟩ rfl hS rfl hE hQ
   exact (((t4.j.set ho).set ho).set ho).set ho
 ·refine spanKeys_run (hv.inc KE.mono t1.i) hl.2.2.1 hl.2.2.2 t1.j fun d2 w2 v4 g2 hQ => ?_
  obtain ⟨va,vc,rfl⟩:=hQ.form
  have t2:=t1.trans g2
  have c0:=t2.x.cell a0
  have c1:=t2.x.cell a1
  have c2:=t2.x.cell a2
  refine gY3 @c0 @c1 @c2 ?_
  refine ⟨?_,?_⟩
  ·refine bytes_run t2.j hl.1 fun d3 w3 sa sn sc g3 hS => ?_
   have t3:=t2.trans g3
   have hQ:=hQ.inc KB.mono g3.i
   have c0:=t3.x.cell a0
   have c1:=t3.x.cell a1
   have c2:=t3.x.cell a2
   refine gY3 @c0 @c1 @c2 ?_
   refine bytes_run t3.j hl.2.1 fun d4 w4 ea en ec g4 hE => ?_
   have t4:=t3.trans g4
   have hQ:=hQ.inc KB.mono g4.i
   have hS:=hS.inc g4.i
   have c0:=t4.x.cell a0
   have c1:=t4.x.cell a1
   have c2:=t4.x.cell a2
   have b0:=t4.x.cell b0
   have b1:=t4.x.cell b1
   have b2:=t4.x.cell b2
   have b3:=t4.x.cell b3
   have f4:∀ o,w4.frozen? ⟨b+1,o,none⟩=false:=fun o=>by rw [t4.x.frozen _ o (by omega)]; exact f1 o
   refine gY8 @c0 @c1 @c2 @b0 @b1 @b2 @b3 @f4 ?_
   have k4:=k1.trans t4.x
   have ho:Out d4 (b+1):=t4.o _ (by omega) ob
   refine hk d4 _ _ _ _ ⟨ext_set (ext_set (ext_set (ext_set k4 (by omega)) (by omega)) (by omega)) (by omega),t4.i,?_,fun c hc ho=>t4.o c (Nat.lt_of_lt_of_le hc k1.size) ho⟩ rfl hS rfl hE hQ
   exact (((t4.j.set ho).set ho).set ho).set ho
  ·refine bytes_run t2.j hl.2.1 fun d3 w3 ea en ec g3 hE => ?_
   have t3:=t2.trans g3
   have hQ:=hQ.inc KB.mono g3.i
   have c0:=t3.x.cell a0
   have c1:=t3.x.cell a1
   have c2:=t3.x.cell a2
   refine gY3 @c0 @c1 @c2 ?_
   refine bytes_run t3.j hl.1 fun d4 w4 sa sn sc g4 hS => ?_
   have t4:=t3.trans g4
   have hQ:=hQ.inc KB.mono g4.i
   have hE:=hE.inc g4.i
   have c0:=t4.x.cell a0
   have c1:=t4.x.cell a1
   have c2:=t4.x.cell a2
   have b0:=t4.x.cell b0
   have b1:=t4.x.cell b1
   have b2:=t4.x.cell b2
   have b3:=t4.x.cell b3
   have f4:∀ o,w4.frozen? ⟨b+1,o,none⟩=false:=fun o=>by rw [t4.x.frozen _ o (by omega)]; exact f1 o
   refine gY8 @c0 @c1 @c2 @b0 @b1 @b2 @b3 @f4 ?_
   have k4:=k1.trans t4.x
   have ho:Out d4 (b+1):=t4.o _ (by omega) ob
   refine hk d4 _ _ _ _ ⟨ext_set (ext_set (ext_set (ext_set k4 (by omega)) (by omega)) (by omega)) (by omega),t4.i,?_,fun c hc ho=>t4.o c (Nat.lt_of_lt_of_le hc k1.size) ho⟩ rfl hS rfl hE hQ
   exact (((t4.j.set ho).set ho).set ho).set ho
theorem spans_run {v:Value} {l:List Sp} (hv:Sl SpE 3 d v l) (hl:l.length < 1000000) (hlen:∀ x ∈ l,SLen x) (hinc:Inc d w) (hk:∀ d' w' v',Gr d w d' w'→Sl SB4 4 d' v' l→k v' w'):callK prog 86 #[v] k w:=by
 obtain ⟨ka,kc,rfl⟩:=hv.form
 refine callZ [.tmp 2] func86 ?_
 refine goZ ?_
 refine loopC (fun b:Nat × Value=>[(3,b.2),(6,.slice ka l.length kc),(7,.int .i64 l.length),(8,.int .i64 b.1)])
  (fun b w'=>b.1≤l.length∧∃ d1,LoopL SB4 4 114 d w d1 w' b.2 (l.take b.1)) (fun b _=>l.length - b.1) (0,.slice none 0 0) (by kernel_rfl) ?_ ⟨Nat.zero_le _,d,LoopL.nil hinc⟩ ?_
 ·exact agZ
 rintro K2 e ⟨i,v⟩ w1 ⟨i2,d1,i3⟩ hK2
 simp only at i2 i3
 rcases Nat.lt_or_ge i l.length with hi | hi
 rotate_left
 ·have hi':¬ (i:Int) < l.length:=by omega
  refine gY1 @hi' ?_
  obtain rfl:i=l.length:=by omega
  rw [List.take_length] at i3
  obtain ⟨d2,g2,_,_,s2⟩:=i3.done SB4.mono
  exact hk d2 w1 v g2 s2
 have hi':(i:Int) < l.length:=by omega
 obtain ⟨g,f,c,hv',hc,hat⟩:=(hv.inc SpE.mono i3.g.i).at (by omega)
 obtain ⟨rfl,rfl⟩:ka=some ⟨g,f,none⟩∧kc=c:=by simpa using hv'
 obtain ⟨x,hx⟩:∃ x,l[i]? = some x:=⟨_,List.getElem?_eq_getElem hi⟩
 obtain ⟨cs,_,hcs,hR⟩:=hat i x hx
 have hmem:=List.mem_of_getElem? hx
 obtain ⟨kv,rfl,hkv⟩:=hR
 obtain ⟨kva,kvc,rfl⟩:=hkv.form
 have h0:w1.cell? ⟨g,f+i * 3,none⟩=some (.string ⟨x.s.toArray⟩):=i3.g.j _ _ _ (hcs 0 _ rfl)
 have h1:w1.cell? ⟨g,f+i * 3+1,none⟩=some (.string ⟨x.e.toArray⟩):=i3.g.j _ _ _ (hcs 1 _ rfl)
 have h2:w1.cell? ⟨g,f+i * 3+2,none⟩=some (.slice kva x.ks.length kvc):=i3.g.j _ _ _ (hcs 2 _ rfl)
 refine gY4 @hi' @h0 @h1 @h2 ?_
 have x3:Ext w1 (w1.alloc (.cells #[.string ⟨x.s.toArray⟩,.string ⟨x.e.toArray⟩,.slice kva x.ks.length kvc] 56)):=ext_alloc _
 have i4:=i3.ext SB4.mono x3
 refine span_run hkv (hlen x hmem) i4.g.j fun d4 w4 sa ea v4 g4 s1 s2 s3 s4 s5 => ?_
 have i5:=i4.call SB4.mono g4
 obtain ⟨sa',sc',rfl⟩:=bts_slice s2
 obtain ⟨ea',ec',rfl⟩:=bts_slice s4
 obtain ⟨va,vcap,rfl,_⟩:=i5.form
 obtain ⟨k4,c4,rfl⟩:=s5.form
 refine goZ ?_
 obtain ⟨css,o5⟩:=i5.o
 refine appN x [.slice sa' x.s.length sc',.slice ea' x.e.length ec',.slice k4 x.ks.length c4,.int .i8 0] rw195 o5 ⟨_,_,_,rfl,s1,s2,s3,s4,s5⟩ rfl (.inl rfl) rfl rfl (by simp [Value.oneCell']) (by rw [take_len i2]; omega) i5.g.j fun v2 w2 o2 k2 n2 j2 _ => ?_
 refine goZ ?_
 refine hK2 _ _ (i+1,v2) ?_ ⟨hi,d4,?_⟩ (by simp only; omega)
 ·exact agZ
 ·rw [take_more hx]
  exact i5.more o2 k2 n2 j2
end
end Go.Proofs
end
section
set_option maxRecDepth 10000
namespace Go.E
open Go Go.Sort Go.Proofs Go.Proofs.Tryz
def LvE:Elem (List Sp):=fun w cs x=>∃ v,cs=[v]∧Sl SpE 3 w v x
theorem LvE.mono:MonoE LvE:=fun _ _ _ _ hi ⟨v,h1,h2⟩=>⟨v,h1,h2.inc SpE.mono hi⟩
def ItE:Elem Lvl:=fun _ cs x=>cs=[.iface 233 (.pointer (some ⟨x.I,0,none⟩))]
theorem ItE.mono:MonoE ItE:=fun _ _ _ _ _ h=>h
structure ItsAt (n:Nat) (d w:World) (Ls:List Lvl):Prop where
 at_:∀ x ∈ Ls,IterAt w x.I x.b x.o x.L.length (-1)∧SpansAt d x.b x.o x.L∧Out d x.I∧n≤x.I∧x.I < w.heap.size
 ne:Ls.Pairwise fun x y=>x.I≠y.I
theorem ItsAt.keep {n:Nat} {d d2 w w2:World} {Ls:List Lvl} {M:Nat→Nat→Prop} (h:ItsAt n d w Ls) (hk:Keep M w w2) (hm:∀ x ∈ Ls,∀ o,¬ M x.I o) (hi:Inc d d2) (ho:∀ b,Out d b→(∃ x ∈ Ls,x.I=b)→Out d2 b):ItsAt n d2 w2 Ls where
 at_ x hx:=by
  obtain ⟨a1,a2,a3,a4,a5⟩:=h.at_ x hx
  exact ⟨a1.keep hk (hm x hx),a2.inc hi,ho _ a3 ⟨x,hx,rfl⟩,a4,Nat.lt_of_lt_of_le a5 hk.size⟩
 ne:=h.ne
def cmpr:Obj := .cells #[.func (.func 102) #[] #[],.func (.func 103) #[] #[],.func (.func 104) #[] #[],.nilFunc,.func (.func 106) #[] #[],.nilFunc,.func (.func 108) #[] #[],.func (.func 109) #[] #[],
 .string ⟨#[108,101,118,101,108,100,98,46,66,121,116,101,119,105,115,101,67,111,109,112,97,114,97,116,111,114]⟩] 208
end Go.E
namespace Go.Proofs
open Go Go.E Go.Sort Go.Proofs.Tryz
section
variable {k:Kont} {d w:World}
theorem DefaultComparer_run (hk:k (.pointer (some ⟨w.heap.size,0,none⟩)) (w.alloc cmpr)):callK prog 66 #[] k w:=by
 refine callZ [.tmp 0] func66 ?_
 refine goZ ?_
 exact hk
theorem NewIter_run {a:Option Addr} {n c:Nat} (hk:k (.pointer (some ⟨w.heap.size,0,none⟩)) (w.alloc (.cells #[.func (.func 102) #[] #[],.slice a n c,.int .i64 (-1)] 261))):callK prog 110 #[.func (.func 102) #[] #[],.slice a n c] k w:=by
 refine callZ [.tmp 4] func110 ?_
 refine goZ ?_
 refine callZ [] func134 ?_
 refine goZ ?_
 exact hk
theorem fragments_run {v:Value} {l:List (List Sp)} (hv:Sl LvE 1 d v l) (hl:l.length < 1000000) (hlen:∀ x ∈ l,x.length < 1000000∧∀ s ∈ x,SLen s) (hinc:Inc d w)
    (hk:∀ d' w' v' Ls,Gr d w d' w'→Sl ItE 1 d' v' Ls→ItsAt w.heap.size d' w' Ls→Ls.map Lvl.L=l→k v' w'):callK prog 68 #[v] k w:=by
 obtain ⟨ka,kc,rfl⟩:=hv.form
 refine callZ [.tmp 2] func68 ?_
 refine goZ ?_
 refine loopC (fun b:Nat × Value=>[(3,b.2),(6,.slice ka l.length kc),(7,.int .i64 l.length),(8,.int .i64 b.1)])
  (fun b w'=>b.1≤l.length∧∃ d1 Ls,LoopL ItE 1 118 d w d1 w' b.2 Ls∧ItsAt w.heap.size d1 w' Ls∧Ls.map Lvl.L=l.take b.1∧∀ x ∈ Ls,b.2.ownBlock≠some x.I) (fun b _=>l.length - b.1) (0,.slice none 0 0) (by kernel_rfl) ?_ ⟨Nat.zero_le _,d,[],LoopL.nil hinc,⟨by simp,.nil⟩,rfl,by simp⟩ ?_
 ·exact agZ
 rintro K2 e ⟨i,v⟩ w1 ⟨i2,d1,Ls,i3,it,hm,hne⟩ hK2
 simp only at i2 i3 hm hne
 have hLs:Ls.length=i:=by
  have:=congrArg List.length hm
  rwa [List.length_map,take_len i2] at this
 rcases Nat.lt_or_ge i l.length with hi | hi
 rotate_left
 ·have hi':¬ (i:Int) < l.length:=by omega
  refine gY1 @hi' ?_
  obtain rfl:i=l.length:=by omega
  rw [List.take_length] at hm
  obtain ⟨d2,g2,i2,o2,s2⟩:=i3.done ItE.mono
  exact hk d2 w1 v Ls g2 s2 (it.keep (Ext.refl w1) (fun _ _ _ h=>h) i2 fun b h1 h2=>o2 b h1 fun h=>by obtain ⟨x,hx,rfl⟩:=h2; exact hne x hx h) hm
 have hi':(i:Int) < l.length:=by omega
 obtain ⟨g,f,c,hv',hc,hat⟩:=(hv.inc LvE.mono i3.g.i).at (by omega)
 obtain ⟨rfl,rfl⟩:ka=some ⟨g,f,none⟩∧kc=c:=by simpa using hv'
 obtain ⟨x,hx⟩:∃ x,l[i]? = some x:=⟨_,List.getElem?_eq_getElem hi⟩
 obtain ⟨cs,_,hcs,u,rfl,hu⟩:=hat i _ hx
 have hmem:=List.mem_of_getElem? hx
 obtain ⟨ua,uc,rfl⟩:=hu.form
 have h0:w1.cell? ⟨g,f+i * 1,none⟩=some (.slice ua x.length uc):=i3.g.j _ _ _ (hcs 0 _ rfl)
 refine gY2 @hi' @h0 ?_
 refine drawZ (sq [0,5] (.eff 1 [] (sq [2,3] (.read 4 (.eff 6 [4] (.eff 7 [] (sq [8] (.eff 9 [] (.eff 10 [] (sq [11] .done)))))))))) ?_
 refine goZ ?_
 refine DefaultComparer_run ?_
 obtain ⟨w3,hw3⟩:∃ w3,w3=w1.drew.alloc cmpr:=⟨_,rfl⟩
 have x3:Ext w1 w3:=by rw [hw3]; exact (Keep.refl _ w1).drew.trans (ext_alloc _)
 have p0:w3.cell? ⟨w1.heap.size,0,none⟩=some (.func (.func 102) #[] #[]):=by rw [hw3]; unfold cmpr; exact eY1 @cell_newN
 rw [← hw3]
 refine gY1 @p0 ?_
 have i4:=i3.ext ItE.mono x3
 refine spans_run hu (hlen x hmem).1 (hlen x hmem).2 i4.g.j fun d4 w4 v4 g4 s4 => ?_
 have i5:=i4.call ItE.mono g4
 have p0:=g4.x.cell p0
 obtain ⟨pa,pc,rfl⟩:=s4.form
 obtain ⟨pb,po,hpa⟩:∃ b o,SpansAt d4 b o x∧(0 < x.length→pa=some ⟨b,o,none⟩):=by
  rcases Nat.eq_zero_or_pos x.length with h | h
  ·exact ⟨0,0,fun j hj=>by omega,fun h'=>by omega⟩
  ·obtain ⟨b,o,c',e,_,hat4⟩:=s4.at h
   refine ⟨b,o,fun j hj => ?_,fun _=>by simpa using (Value.slice.inj e).1⟩
   have:=hat4 j _ (List.getElem?_eq_getElem hj)
   rw [getElem!_pos x j hj]
   exact SB4.span this
 refine gY1 @p0 ?_
 refine NewIter_run ?_
 obtain ⟨I,hI⟩:∃ I,I=w4.heap.size:=⟨_,rfl⟩
 obtain ⟨w6,hw6⟩:∃ w6,w6=w4.alloc (.cells #[.func (.func 102) #[] #[],.slice pa x.length pc,.int .i64 (-1)] 261):=⟨_,rfl⟩
 have x6:Ext w4 w6:=by rw [hw6]; exact ext_alloc _
 have z6:w6.heap.size=I+1:=by rw [hw6,World.size_alloc,hI]
 have q0:w6.cell? ⟨I,0,none⟩=some (.func (.func 102) #[] #[]):=by rw [hw6,hI]; exact eY1 @cell_newN
 have q1:w6.cell? ⟨I,1,none⟩=some (.slice pa x.length pc):=by rw [hw6,hI]; exact eY1 @cell_newN
 have q2:w6.cell? ⟨I,2,none⟩=some (.int .i64 (-1)):=by rw [hw6,hI]; exact eY1 @cell_newN
 have f6:∀ y,w6.frozen? ⟨I,y,none⟩=false:=fun y=>by rw [hw6,hI]; simp (disch:=first | exact dZ | fail) only [go_sem,↓reduceIte,Nat.reduceEqDiff,Nat.reduceAdd]
 rw [← hw6,← hI]
 have i7:=i5.ext ItE.mono x6
 obtain ⟨va,vcap,rfl,_⟩:=i7.form
 have p0:=x6.cell p0
 refine gY1 @p0 ?_
 obtain ⟨css,o7⟩:=i7.o
 have hsz:w.heap.size≤w4.heap.size:=i5.g.x.size
 have it7:ItsAt w.heap.size d4 w6 Ls:=it.keep (M:=fun _ _=>False) (x3.trans (g4.x.trans x6)) (fun _ _ _ h=>h) g4.i fun b h1 ⟨y,hy,e⟩=>g4.o b (by have:=(it.at_ y hy).2.2.2.2; have:=x3.size; omega) h1
 have oI:Out d4 I:=i5.g.j.out (by omega)
 refine appN (⟨I,pb,po,x⟩:Lvl) [.iface 233 (.pointer (some ⟨I,0,none⟩))] rw173 o7 rfl rfl (.inl rfl) rfl rfl (by simp [Value.oneCell']) (by rw [hLs]; omega) i7.g.j fun v2 w2 o2 k2 n2 j2 _ => ?_
 refine gY1 @p0 ?_
 have hown:∀ y ∈ Ls,y.I < w6.heap.size∧y.I≠I:=fun y hy=>by
  have:=(it.at_ y hy).2.2.2.2
  have:=x3.size
  have:=g4.x.size
  omega
 have oI2:(Value.slice va Ls.length vcap).ownBlock≠some I:=fun h=>by
  have:=(o7.own.lt _ h).2
  obtain ⟨_,o5⟩:=i5.o
  have:=(o5.own.lt _ h).2
  omega
 refine hK2 _ _ (i+1,v2) ?_ ⟨hi,d4,Ls++[⟨I,pb,po,x⟩],i7.more o2 k2 n2 j2,?_,?_,?_⟩ (by simp only; omega)
 ·exact agZ
 ·have it8:=it7.keep (w2:=w2) k2 (fun y hy o h=>hne y hy h) (Inc.refl d4) fun b h _=>h
  refine ⟨fun y hy => ?_,List.pairwise_append.2 ⟨it8.ne,List.pairwise_singleton _ _,fun y hy z hz => ?_⟩⟩
  ·rcases List.mem_append.1 hy with hy | hy
   ·exact it8.at_ y hy
   ·obtain rfl:=List.mem_singleton.1 hy
    refine ⟨⟨k2.some q0 fun h=>oI2 h,⟨pa,pc,k2.some q1 fun h=>oI2 h,hpa.2⟩,k2.some q2 fun h=>oI2 h,fun y=>by rw [k2.frozen I y (by omega)]; exact f6 y⟩,hpa.1,oI,by simp only; omega,by have:=k2.size; simp only; omega⟩
  ·rw [List.mem_singleton.1 hz]
   exact (hown y hy).2
 ·rw [List.map_append,hm,take_more hx]
  rfl
 ·intro y hy h
  rcases n2 _ h with h | h
  ·rcases List.mem_append.1 hy with hy | hy
   ·exact hne y hy h
   ·obtain rfl:=List.mem_singleton.1 hy
    exact oI2 h
  ·rcases List.mem_append.1 hy with hy | hy
   ·have:=(hown y hy).1; omega
   ·obtain rfl:=List.mem_singleton.1 hy
    simp only at h
    omega
end
end Go.Proofs
end
section
set_option maxRecDepth 10000
namespace Go.E
open Go Go.Sort Go.Proofs Go.Proofs.Tryz
theorem stA_many {b o:Nat} {k:Kont} (l:List Value) (i:Nat) {w:World} (hc:∀ j,i≤j→j < i+l.length→∃ u,w.cell? ⟨b,o+j,none⟩=some u) (hf:∀ y,w.frozen? ⟨b,y,none⟩=false) (h1:∀ u ∈ l,u.oneCell'=true)
    (hk:∀ w',(∀ j u,l[j]? = some u→w'.cell? ⟨b,o+i+j,none⟩=some u)→Keep (fun c x=>c=b∧o+i≤x∧x < o+i+l.length) w w'→k undef w'):stA ⟨b,o,none⟩ i l k w:=by
 induction l generalizing i w with
 | nil =>
  rw [stA_nil]
  exact hk w (by simp) (Keep.refl _ w)
 | cons v l ih =>
  rw [stA_cons]
  have ea:(⟨b,o,none⟩:Addr).add i=⟨b,o+i,none⟩:=by cases i <;> rfl
  rw [ea]
  obtain ⟨u,hu⟩:=hc i (Nat.le_refl _) (by simp only [List.length_cons]; omega)
  rw [hu,hf]
  unfold stN
  rw [ea]
  refine ⟨⟨rfl,rfl,h1 v List.mem_cons_self⟩,ih (i+1) (fun j h2 h3 => ?_) (fun y=>by rw [World.frozen?_setCell]; exact hf y) (fun x hx=>h1 x (List.mem_cons_of_mem _ hx)) fun w' hw' k'=>hk w' (fun j x hx => ?_) ?_⟩
  ·obtain ⟨x,hx⟩:=hc j (by omega) (by simp only [List.length_cons]; omega)
   exact ⟨x,by show (w.setCell ⟨b,o+i,none⟩ v).cell? _=_; rw [cell_off (by omega)]; exact hx⟩
  ·cases j with
   | zero =>
    simp only [List.getElem?_cons_zero,Option.some.injEq] at hx
    subst hx
    refine k'.some (b:=b) (o:=o+i+0) ?_ (by omega)
    show (w.setCell ⟨b,o+i,none⟩ v).cell? ⟨b,o+i,none⟩=_
    rw [cell_self,hu]
    rfl
   | succ j =>
    rw [List.getElem?_cons_succ] at hx
    have:=hw' j x hx
    rwa [show o+(i+1)+j=o+i+(j+1) by omega] at this
  ·refine Keep.trans (keep_set (o:=o+i) ⟨rfl,Nat.le_refl _,by simp only [List.length_cons]; omega⟩) (k'.mono fun c x _ h => ?_)
   simp only [List.length_cons]
   omega
theorem stAgg {b o:Nat} {k:Kont} {v:Value} {l:List Value} {w:World} (hc:∀ j,j < l.length+1→∃ u,w.cell? ⟨b,o+j,none⟩=some u) (hf:∀ y,w.frozen? ⟨b,y,none⟩=false) (h1:∀ u ∈ v :: l,u.oneCell'=true)
    (hk:∀ w',(∀ j u,(v :: l)[j]? = some u→w'.cell? ⟨b,o+j,none⟩=some u)→Keep (fun c x=>c=b∧o≤x∧x < o+(l.length+1)) w w'→k undef w'):stN (w.cell? ⟨b,o,none⟩) (w.frozen? ⟨b,o,none⟩) v ⟨b,o,none⟩ 0 l k w:=by
 have:=stA_many (k:=k) (b:=b) (o:=o) (v :: l) 0 (w:=w) (fun j _ h=>hc j (by simpa using h)) hf h1 fun w' a c=>hk w' a c
 rwa [stA_cons] at this
theorem OB.inc {d d2:World} {v:Value} {b:Option Bytes} (h:OB d v b) (hi:Inc d d2):OB d2 v b:=by
 rcases h with h | ⟨l,a,n,c,h1,h2,h3⟩
 ·exact .inl h
 ·exact .inr ⟨l,a,n,c,h1,h2,h3.inc hi⟩
def bdO (key:Bytes) (has:Bool):Option Bytes:=if has then some key else none
end Go.E
namespace Go.Proofs
open Go Go.E Go.Sort Go.Proofs.Tryz
section
variable {k:Kont} {d w:World}
theorem boundBytes_run {key:Bytes} {has:Bool} (hinc:Inc d w) (hl:key.length≤4294967296) (hk:∀ d2 w2 v,Gr d w d2 w2→OB d2 v (bdO key has)→k v w2):callK prog 67 #[.agg #[.string ⟨key.toArray⟩,.bool has]] k w:=by
 refine callZ [.tmp 2] func67 ?_
 refine goZ ?_
 have x1:Ext w (w.alloc (.cells #[.string ⟨key.toArray⟩,.bool has] 37)):=ext_alloc _
 cases has with
 | false =>
  refine gY1 @cell_newN ?_
  exact hk d _ _ (Gr.ext hinc x1) (.inl ⟨rfl,rfl⟩)
 | true =>
  refine gY1 @cell_newN ?_
  refine bytes_run (hinc.trans x1.inc) hl fun d2 w2 a n c g2 h2 => ?_
  refine goZ ?_
  exact hk d2 w2 _ ((Gr.ext hinc x1).trans g2) (.inr ⟨key,a,n,c,rfl,rfl,h2⟩)
theorem comparer_run (hinc:Inc d w) (hk:∀ d2 w2 C,Gr d w d2 w2→w.heap.size≤C→d2.cell? ⟨C,0,none⟩=some (.func (.func 102) #[] #[])→d2.cell? ⟨C,1,none⟩=some (.func (.func 103) #[] #[])→d2.cell? ⟨C,5,none⟩=some .nilFunc→k (.pointer (some ⟨C,0,none⟩)) w2):callK prog 66 #[] k w:=by
 refine callZ [.tmp 0] func66 ?_
 refine goZ ?_
 generalize hO:Obj.cells _ _=O
 have x2:Ext w (w.alloc O):=ext_alloc _
 obtain ⟨d2,g2,e2⟩:=grAll hinc x2
 have c0:(w.alloc O).cell? ⟨w.heap.size,0,none⟩=some (.func (.func 102) #[] #[]):=by rw [← hO]; exact eY1 @cell_newN
 have c1:(w.alloc O).cell? ⟨w.heap.size,1,none⟩=some (.func (.func 103) #[] #[]):=by rw [← hO]; exact eY1 @cell_newN
 have c5:(w.alloc O).cell? ⟨w.heap.size,5,none⟩=some .nilFunc:=by rw [← hO]; exact eY1 @cell_newN
 exact hk d2 _ _ g2 (Nat.le_refl _) (e2 _ _ _ (Nat.le_refl _) c0) (e2 _ _ _ (Nat.le_refl _) c1) (e2 _ _ _ (Nat.le_refl _) c5)
end
end Go.Proofs
end
section
set_option maxRecDepth 10000
namespace Go.E
open Go Go.Sort Go.Proofs Go.Proofs.Tryz
def Chk (P:Prop) (k:Kont) (w:World):Prop:=∀ b w',Ext w w'→(b=true→P)→k (.bool b) w'
theorem Chk.no {P:Prop} {k:Kont} {w w':World} (h:Chk P k w) (x:Ext w w'):k (.bool false) w':=h false w' x fun h=>by cases h
theorem Chk.yes {P:Prop} {k:Kont} {w w':World} (h:Chk P k w) (x:Ext w w') (p:P):k (.bool true) w':=h true w' x fun _=>p
theorem all_more {α:Type} {P:α→Prop} {l:List α} {i:Nat} {x:α} (h:∀ y ∈ l.take i,P y) (hx:l[i]? = some x) (hp:P x):∀ y ∈ l.take (i+1),P y:=by
 rw [take_more hx]
 intro y hy
 rcases List.mem_append.1 hy with hy | hy
 ·exact h y hy
 ·rw [List.mem_singleton.1 hy]; exact hp
def KFit (x:K):Prop:=x.suf.length≤2147483647∧x.val.length≤2147483647
def SFit (x:Sp):Prop:=x.s.length≤2147483647∧x.e.length≤2147483647∧x.ks.length≤2147483647∧∀ y ∈ x.ks,KFit y
end Go.E
namespace Go.Proofs
open Go Go.E Go.Sort Go.Proofs.Tryz
section
variable {k:Kont} {w:World}
theorem fits7_run {x:K} (hk:Chk (KFit x) k w):callK prog 142 #[.agg #[.int .u64 x.tr,.string ⟨x.suf.toArray⟩,.string ⟨x.val.toArray⟩]] k w:=by
 refine callZ [.tmp 2] func142 ?_
 by_cases h1:2147483647 < (x.suf.length:Int)
 ·refine gY2 @cell_newN @h1 ?_
  exact hk.no (ext_alloc _)
 by_cases h2:2147483647 < (x.val.length:Int)
 ·refine gY3 @cell_newN @h1 @h2 ?_
  exact hk.no (ext_alloc _)
 refine gY3 @cell_newN @h1 @h2 ?_
 exact hk.yes (ext_alloc _) ⟨by omega,by omega⟩
theorem fits6_run {v:Value} {l:List K} (hv:Sl KE 3 w v l) (hk:Chk (l.length≤2147483647∧∀ x ∈ l,KFit x) k w):callK prog 127 #[v] k w:=by
 obtain ⟨ka,kc,rfl⟩:=hv.form
 refine callZ [.tmp 2] func127 ?_
 by_cases hz:2147483647 < (l.length:Int)
 ·refine gY1 @hz ?_
  exact hk.no (Ext.refl _)
 refine gY1 @hz ?_
 refine loopC (fun i:Nat=>[(2,.bool false),(8,.slice ka l.length kc),(8+1,.int .i64 l.length),(8+2,.int .i64 i)])
  (fun i w'=>i≤l.length∧Ext w w'∧∀ x ∈ l.take i,KFit x) (fun i _=>l.length - i) 0 (by kernel_rfl) ?_ ⟨Nat.zero_le _,Ext.refl _,by simp⟩ ?_
 ·exact agZ
 rintro K2 e i w1 ⟨i2,i3,i4⟩ hK2
 rcases Nat.lt_or_ge i l.length with hi | hi
 rotate_left
 ·have hi':¬ (i:Int) < l.length:=by omega
  obtain rfl:i=l.length:=by omega
  rw [List.take_length] at i4
  refine gY1 @hi' ?_
  exact hk.yes i3 ⟨by omega,i4⟩
 have hi':(i:Int) < l.length:=by omega
 obtain ⟨g,f,c,hv',hc,hat⟩:=(hv.inc KE.mono i3.inc).at (by omega)
 obtain ⟨rfl,rfl⟩:ka=some ⟨g,f,none⟩∧kc=c:=by simpa using hv'
 obtain ⟨x,hx⟩:∃ x,l[i]? = some x:=⟨_,List.getElem?_eq_getElem hi⟩
 obtain ⟨cs,_,hcs,hR⟩:=hat i x hx
 obtain ⟨rfl,htr⟩:=hR
 have h0:w1.cell? ⟨g,f+i * 3,none⟩=some (.int .u64 x.tr):=hcs 0 _ rfl
 have h1:w1.cell? ⟨g,f+i * 3+1,none⟩=some (.string ⟨x.suf.toArray⟩):=hcs 1 _ rfl
 have h2:w1.cell? ⟨g,f+i * 3+2,none⟩=some (.string ⟨x.val.toArray⟩):=hcs 2 _ rfl
 refine gY5 @hi' @h0 @h1 @h2 @cell_newN ?_
 refine fits7_run fun b w2 x2 hb => ?_
 have x3:=i3.trans (Ext.trans (ext_alloc _) x2)
 cases b with
 | false =>
  refine goZ ?_
  exact hk.no (x3)
 | true =>
  refine goZ ?_
  refine hK2 _ _ (i+1) ?_ ⟨hi,x3,all_more i4 hx (hb rfl)⟩ (by omega)
  exact agZ
theorem fits5_run {kv:Value} {x:Sp} (hv:Sl KE 3 w kv x.ks) (hk:Chk (SFit x) k w):callK prog 93 #[.agg #[.string ⟨x.s.toArray⟩,.string ⟨x.e.toArray⟩,kv]] k w:=by
 obtain ⟨ka,kc,rfl⟩:=hv.form
 refine callZ [.tmp 2] func93 ?_
 by_cases h1:2147483647 < (x.s.length:Int)
 ·refine gY2 @cell_newN @h1 ?_
  exact hk.no (ext_alloc _)
 by_cases h2:2147483647 < (x.e.length:Int)
 ·refine gY3 @cell_newN @h1 @h2 ?_
  exact hk.no (ext_alloc _)
 refine gY3 @cell_newN @h1 @h2 ?_
 refine fits6_run (hv.inc KE.mono (ext_alloc _).inc) fun b w2 x2 hb => ?_
 have x3:=(ext_alloc _).trans x2
 cases b with
 | false =>
  refine goZ ?_
  exact hk.no x3
 | true =>
  refine goZ ?_
  exact hk.yes x3 ⟨by omega,by omega,hb rfl⟩
theorem fits4_run {v:Value} {l:List Sp} (hv:Sl SpE 3 w v l) (hk:Chk (l.length≤2147483647∧∀ x ∈ l,SFit x) k w):callK prog 55 #[v] k w:=by
 obtain ⟨ka,kc,rfl⟩:=hv.form
 refine callZ [.tmp 2] func55 ?_
 by_cases hz:2147483647 < (l.length:Int)
 ·refine gY1 @hz ?_
  exact hk.no (Ext.refl _)
 refine gY1 @hz ?_
 refine loopC (fun i:Nat=>[(2,.bool false),(8,.slice ka l.length kc),(8+1,.int .i64 l.length),(8+2,.int .i64 i)])
  (fun i w'=>i≤l.length∧Ext w w'∧∀ x ∈ l.take i,SFit x) (fun i _=>l.length - i) 0 (by kernel_rfl) ?_ ⟨Nat.zero_le _,Ext.refl _,by simp⟩ ?_
 ·exact agZ
 rintro K2 e i w1 ⟨i2,i3,i4⟩ hK2
 rcases Nat.lt_or_ge i l.length with hi | hi
 rotate_left
 ·have hi':¬ (i:Int) < l.length:=by omega
  obtain rfl:i=l.length:=by omega
  rw [List.take_length] at i4
  refine gY1 @hi' ?_
  exact hk.yes i3 ⟨by omega,i4⟩
 have hi':(i:Int) < l.length:=by omega
 obtain ⟨g,f,c,hv',hc,hat⟩:=(hv.inc SpE.mono i3.inc).at (by omega)
 obtain ⟨rfl,rfl⟩:ka=some ⟨g,f,none⟩∧kc=c:=by simpa using hv'
 obtain ⟨x,hx⟩:∃ x,l[i]? = some x:=⟨_,List.getElem?_eq_getElem hi⟩
 obtain ⟨cs,_,hcs,hR⟩:=hat i x hx
 obtain ⟨kv,rfl,hkv⟩:=hR
 obtain ⟨kva,kvc,rfl⟩:=hkv.form
 have h0:w1.cell? ⟨g,f+i * 3,none⟩=some (.string ⟨x.s.toArray⟩):=hcs 0 _ rfl
 have h1:w1.cell? ⟨g,f+i * 3+1,none⟩=some (.string ⟨x.e.toArray⟩):=hcs 1 _ rfl
 have h2:w1.cell? ⟨g,f+i * 3+2,none⟩=some (.slice kva x.ks.length kvc):=hcs 2 _ rfl
 refine gY5 @hi' @h0 @h1 @h2 @cell_newN ?_
 refine fits5_run (hkv.inc KE.mono (ext_alloc _).inc) fun b w2 x2 hb => ?_
 have x3:=i3.trans (Ext.trans (ext_alloc _) x2)
 cases b with
 | false =>
  refine goZ ?_
  exact hk.no (x3)
 | true =>
  refine goZ ?_
  refine hK2 _ _ (i+1) ?_ ⟨hi,x3,all_more i4 hx (hb rfl)⟩ (by omega)
  exact agZ
theorem fits3_run {v:Value} {l:List (List Sp)} (hv:Sl LvE 1 w v l) (hk:Chk (l.length≤2147483647∧∀ x ∈ l,x.length≤2147483647∧∀ y ∈ x,SFit y) k w):callK prog 13 #[v] k w:=by
 obtain ⟨ka,kc,rfl⟩:=hv.form
 refine callZ [.tmp 2] func13 ?_
 by_cases hz:2147483647 < (l.length:Int)
 ·refine gY1 @hz ?_
  exact hk.no (Ext.refl _)
 refine gY1 @hz ?_
 refine loopC (fun i:Nat=>[(2,.bool false),(8,.slice ka l.length kc),(8+1,.int .i64 l.length),(8+2,.int .i64 i)])
  (fun i w'=>i≤l.length∧Ext w w'∧∀ x ∈ l.take i,x.length≤2147483647∧∀ y ∈ x,SFit y) (fun i _=>l.length - i) 0 (by kernel_rfl) ?_ ⟨Nat.zero_le _,Ext.refl _,by simp⟩ ?_
 ·exact agZ
 rintro K2 e i w1 ⟨i2,i3,i4⟩ hK2
 rcases Nat.lt_or_ge i l.length with hi | hi
 rotate_left
 ·have hi':¬ (i:Int) < l.length:=by omega
  obtain rfl:i=l.length:=by omega
  rw [List.take_length] at i4
  refine gY1 @hi' ?_
  exact hk.yes i3 ⟨by omega,i4⟩
 have hi':(i:Int) < l.length:=by omega
 obtain ⟨g,f,c,hv',hc,hat⟩:=(hv.inc LvE.mono i3.inc).at (by omega)
 obtain ⟨rfl,rfl⟩:ka=some ⟨g,f,none⟩∧kc=c:=by simpa using hv'
 obtain ⟨x,hx⟩:∃ x,l[i]? = some x:=⟨_,List.getElem?_eq_getElem hi⟩
 obtain ⟨cs,_,hcs,hR⟩:=hat i x hx
 obtain ⟨kv,rfl,hkv⟩:=hR
 obtain ⟨kva,kvc,rfl⟩:=hkv.form
 have h0:w1.cell? ⟨g,f+i * 1,none⟩=some (.slice kva x.length kvc):=hcs 0 _ rfl
 refine gY2 @hi' @h0 ?_
 refine fits4_run hkv fun b w2 x2 hb => ?_
 have x3:=i3.trans x2
 cases b with
 | false =>
  refine goZ ?_
  exact hk.no (x3)
 | true =>
  refine goZ ?_
  refine hK2 _ _ (i+1) ?_ ⟨hi,x3,all_more i4 hx (hb rfl)⟩ (by omega)
  exact agZ
theorem fits9_run {x:Nat × Bytes} (hk:Chk (x.2.length≤2147483647) k w):callK prog 56 #[.agg #[.int .u8 x.1,.string ⟨x.2.toArray⟩]] k w:=by
 refine callZ [.tmp 2] func56 ?_
 by_cases h1:2147483647 < (x.2.length:Int)
 ·refine gY2 @cell_newN @h1 ?_
  exact hk.no (ext_alloc _)
 refine gY2 @cell_newN @h1 ?_
 exact hk.yes (ext_alloc _) (by omega)
theorem fits8_run {v:Value} {l:List (Nat × Bytes)} (hv:Sl StE 2 w v l) (hk:Chk (l.length≤2147483647∧∀ x ∈ l,x.2.length≤2147483647) k w):callK prog 14 #[v] k w:=by
 obtain ⟨ka,kc,rfl⟩:=hv.form
 refine callZ [.tmp 2] func14 ?_
 by_cases hz:2147483647 < (l.length:Int)
 ·refine gY1 @hz ?_
  exact hk.no (Ext.refl _)
 refine gY1 @hz ?_
 refine loopC (fun i:Nat=>[(2,.bool false),(8,.slice ka l.length kc),(8+1,.int .i64 l.length),(8+2,.int .i64 i)])
  (fun i w'=>i≤l.length∧Ext w w'∧∀ x ∈ l.take i,x.2.length≤2147483647) (fun i _=>l.length - i) 0 (by kernel_rfl) ?_ ⟨Nat.zero_le _,Ext.refl _,by simp⟩ ?_
 ·exact agZ
 rintro K2 e i w1 ⟨i2,i3,i4⟩ hK2
 rcases Nat.lt_or_ge i l.length with hi | hi
 rotate_left
 ·have hi':¬ (i:Int) < l.length:=by omega
  obtain rfl:i=l.length:=by omega
  rw [List.take_length] at i4
  refine gY1 @hi' ?_
  exact hk.yes i3 ⟨by omega,i4⟩
 have hi':(i:Int) < l.length:=by omega
 obtain ⟨g,f,c,hv',hc,hat⟩:=(hv.inc StE.mono i3.inc).at (by omega)
 obtain ⟨rfl,rfl⟩:ka=some ⟨g,f,none⟩∧kc=c:=by simpa using hv'
 obtain ⟨x,hx⟩:∃ x,l[i]? = some x:=⟨_,List.getElem?_eq_getElem hi⟩
 obtain ⟨cs,_,hcs,hR⟩:=hat i x hx
 obtain ⟨rfl,htr⟩:=hR
 have h0:w1.cell? ⟨g,f+i * 2,none⟩=some (.int .u8 x.1):=hcs 0 _ rfl
 have h1:w1.cell? ⟨g,f+i * 2+1,none⟩=some (.string ⟨x.2.toArray⟩):=hcs 1 _ rfl
 refine gY4 @hi' @h0 @h1 @cell_newN ?_
 refine fits9_run fun b w2 x2 hb => ?_
 have x3:=i3.trans (Ext.trans (ext_alloc _) x2)
 cases b with
 | false =>
  refine goZ ?_
  exact hk.no (x3)
 | true =>
  refine goZ ?_
  refine hK2 _ _ (i+1) ?_ ⟨hi,x3,all_more i4 hx (hb rfl)⟩ (by omega)
  exact agZ
theorem fits10_run {key:Bytes} {has:Bool} (hk:Chk (key.length≤2147483647) k w):callK prog 39 #[.agg #[.string ⟨key.toArray⟩,.bool has]] k w:=by
 refine callZ [.tmp 2] func39 ?_
 by_cases h1:2147483647 < (key.length:Int)
 ·refine gY2 @cell_newN @h1 ?_
  exact hk.no (ext_alloc _)
 refine gY2 @cell_newN @h1 ?_
 exact hk.yes (ext_alloc _) (by omega)
end
end Go.Proofs
end
