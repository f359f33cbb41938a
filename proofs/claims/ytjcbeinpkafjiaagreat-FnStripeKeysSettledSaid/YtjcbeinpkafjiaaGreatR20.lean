/- Parts of the proof: Kf, We, Wf. -/
import Derived.Test.YtjcbeinpkafjiaaGreatR18
import Derived.Test.YtjcbeinpkafjiaaGreatR19
set_option linter.all false
set_option maxRecDepth 10000
section
namespace Go.E
open Go Go.Sort Go.Proofs Go.Proofs.Tryz
theorem Cd.flt {a:List K} (h:Cd a) (p:K→Bool):Cd (a.filter p):=⟨h.dist.sublist List.filter_sublist,fun x hx=>h.kind x (aN.1 hx).1⟩
def nJ (ks:List K):List K:=mB (zf 18446744073709551615 ks)
def ef (s:Nat) (x:K):Bool:=decide (x.tr / 256 < s)
def eH:List Nat→List K→List K
 | [],ks=>(nJ ks).filter rS
 | s :: ss,ks=>(if (ks.filter (ef s)).isEmpty then (nJ (ks.filter fun x => !ef s x)).filter rS else nJ (ks.filter fun x => !ef s x))++eH ss (ks.filter (ef s))
theorem wE:nJ []=[]:=by
 have h:zf 18446744073709551615 []=[]:=by simp [zf,Uf,tX]
 unfold nJ
 rw [h]
 exact ao.1 (by rw [(ku []).length_eq]; rfl)
theorem sR:∀ ss,eH ss []=[]
 | []=>by unfold eH; rw [wE]; rfl
 | s :: ss=>by unfold eH; simp only [List.filter_nil,wE,sR ss]; rfl
theorem ED {l:List KR} {r:List KR} {R:List KR} {ks:List K} (hd:DK l) (hc:CoR 18446744073709551615 l r) (hR:R.map KR.k=mB ((r++(fy 18446744073709551615 l).toList).map KR.k)) (hks:(l.map KR.k).Perm ks) (h:Cd ks) (h9:∀ x ∈ ks,an x.tr=19→x.suf=[]):R.map KR.k=nJ ks:=by
 rw [hR,I8 hd hc hks h h9]; rfl
theorem EE (R:List KR):(R.filter fun x=>rS x.k).map KR.k=(R.map KR.k).filter rS:=by
 rw [List.filter_map]; rfl
theorem HD {s m:Nat} {L:List KR} (hd:DK L) (hm:m≤L.length) (h1:∀ i x,i < m→L[i]? = some x→ef s x.k=false) (h2:∀ x,L[m]? = some x→ef s x.k=true) :
    L.take m=L.filter (fun x => !ef s x.k)∧L.drop m=L.filter fun x=>ef s x.k:=by
 have a1:∀ x ∈ L.take m,ef s x.k=false:=fun x hx=>by
  obtain ⟨i,hi,rfl⟩:=aV hx
  rw [ar] at hi
  refine h1 i _ (by omega) ?_
  rw [List.getElem_take,aC]
 have a2:∀ x ∈ L.drop m,ef s x.k=true:=fun x hx=>by
  obtain ⟨i,hi,rfl⟩:=aV hx
  rw [List.length_drop] at hi
  have h0:=h2 _ (aC (by omega:m < L.length))
  rw [List.getElem_drop]
  rcases bB i with h | h
  ·subst h; exact h0
  ·have:=(bA.1 hd m (m+i) (by omega) (by omega) (by omega)).1
   unfold ef at h0 ⊢
   rw [decide_eq_true_eq] at h0 ⊢
   have:=Nat.div_le_div_right (c:=256) this
   omega
 conv=>enter [1,2]; rw [← dU m L]
 conv=>enter [2,2]; rw [← dU m L]
 rw [List.filter_append,List.filter_append]
 refine ⟨?_,?_⟩
 ·rw [List.filter_eq_self.2 (fun x hx=>by rw [a1 x hx]; rfl),List.filter_eq_nil_iff.2 (fun x hx=>by rw [a2 x hx]; simp),au]
 ·rw [List.filter_eq_nil_iff.2 (fun x hx=>by rw [a1 x hx]; simp),List.filter_eq_self.2 (fun x hx=>a2 x hx),List.nil_append]
def Cj:gN Nat:=fun _ cs x=>cs=[.int .u64 x]∧x < 18446744073709551616
theorem dJ:gi Cj:=fun _ _ _ _ _ h=>h
end Go.E
namespace Go.Proofs
open Go Go.E Go.Sort Go.Proofs.Tryz
section
variable {q:Value→Prop}
theorem KM {g len cap lo hi:Nat} (h1:lo≤hi) (h2:hi≤cap) (h3:lo < cap):dW prog 110 (.slice (some ⟨g,0,none⟩) len cap) (some (.int .i64 lo)) (some (.int .i64 hi)) none q=q (.slice (some ⟨g,lo * 3,none⟩) (hi - lo) (cap - lo)):=by
 rw [fj Tryz.es110 rfl rfl (by omega) (by simp [bd]; omega) (by simp [bd]; omega) (by simp [bd]) (by simp)]
 have:¬ ((cap:Int)=lo):=by omega
 simp [bd,this]
 rw [dm rfl,Nat.zero_add]
theorem Lh {g len cap lo:Nat} (h1:lo≤len) (h2:len≤cap) (h3:lo < cap):dW prog 110 (.slice (some ⟨g,0,none⟩) len cap) (some (.int .i64 lo)) none none q=q (.slice (some ⟨g,lo * 3,none⟩) (len - lo) (cap - lo)):=by
 rw [fj Tryz.es110 rfl rfl (by omega) (by simp [bd]; omega) (by simp [bd]; omega) (by simp [bd]) (by simp)]
 have:¬ ((cap:Int)=lo):=by omega
 simp [bd,this]
 rw [dm rfl,Nat.zero_add]
end
section
variable {k:aq} {d w:World}
theorem GM {g n cap m c u:Nat} {cc R:List KR} {q:aq} (o:w.ownsRow 0 256 3 (.slice (some ⟨g,0,none⟩) n cap) n (flat cc)) (hR:∀ i,i < R.length→cc[u+i]? = R[i]?) (hg:∀ x ∈ R,x.good d) (hm:m=R.length) (hn:cc.length=n) (hr:u+m≤cap)
    (hk:∀ w',w'.ownsRow 0 256 3 (.slice (some ⟨g,0,none⟩) n cap) n (flat cc)→Keep (fun b _=>b=g) w w'→q (.slice (some ⟨g,0,none⟩) (u+m) cap) w') :
    pe prog #[110,110] 110 #[.slice (some ⟨g,0,none⟩) u cap,.slice (some ⟨g,u * 3,none⟩) m c] q w:=by
 subst hm
 have hf:∀ i v,(flat R)[i]? = some v→(flat cc)[u * 3+i]? = some v:=fun i v hv=>by
  have hlt:=(aP.1 hv).1
  rw [fq] at hlt
  have e:R[i / 3]? = some R[i / 3]:=aC (by omega)
  obtain ⟨a1,a2,a3⟩:=dz e
  obtain ⟨b1,b2,b3⟩:=dz ((hR (i / 3) (by omega)).trans e)
  rcases (by omega:i=i / 3 * 3∨i=i / 3 * 3+1∨i=i / 3 * 3+2) with h | h | h
  ·rw [show u * 3+i=(u+i / 3) * 3 by omega,b1,← a1,← h,hv]
  ·rw [show u * 3+i=(u+i / 3) * 3+1 by omega,b2,← a2,← h,hv]
  ·rw [show u * 3+i=(u+i / 3) * 3+2 by omega,b3,← a3,← h,hv]
 have e:=ov (P:=prog) (k:=q) (w:=w) (by_:=56) (t:=110) (ty:=110) (news:=flat R) (m:=R.length) (c:=c) (cap:=cap) (b:=g) (off:=0) (n:=u) (a:=⟨g,u * 3,none⟩) rw110 (fq R) (fun j v hj=>by
     rw [dm rfl]; exact av o (hf j v hj)) (kj hg) hr (fun j hj=>by
     have:=hf j _ (aC hj)
     rw [Nat.zero_add]
     exact ⟨_,av o this⟩) (fun x=>cS o rfl x)
 rw [show pe prog #[110,110] 110 #[.slice (some ⟨g,0,none⟩) u cap,.slice (some ⟨g,u * 3,none⟩) R.length c] q w=pe prog [110,110].toArray 110 [.slice (some ⟨g,0,none⟩) u cap,.slice (some ⟨g,u * 3,none⟩) R.length c].toArray q w from rfl,e]
 exact hk _ (wD o fun i v hv=>by rw [Nat.zero_add]; exact hf i v hv) (nG fun _=>rfl)
set_option maxHeartbeats 4000000 in
theorem zm {pb po Hb XB SB QB LB AB cap sn sc en ec:Nat} {sv:Value} {snaps:List Nat} {l:List KR} {ks:List K} {ka sa ea:Option Addr}
    (dX:d.cell? ⟨XB,0,none⟩=some (.func (.func 136) #[] #[.pointer (some ⟨LB,0,none⟩),.pointer (some ⟨AB,0,none⟩)])) (dA:d.cell? ⟨AB,0,none⟩=some (.bool true)) (dL:d.cell? ⟨LB,0,none⟩=some (.slice none 0 0))
    (dS:d.cell? ⟨SB,0,none⟩=some sv) (hS:Sl Cj 1 d sv snaps) (hSl:snaps.length < 1000000) (dQ:d.cell? ⟨QB,0,none⟩=some (.func (.func 103) #[] #[]))
    (q6:w.cell? ⟨pb,po,none⟩=some (.slice sa sn sc)) (q7:w.cell? ⟨pb,po+1,none⟩=some (.slice ea en ec)) (q8:w.cell? ⟨pb,po+2,none⟩=some (.slice ka l.length cap)) (q9:w.cell? ⟨pb,po+3,none⟩=some (.int .i8 0))
    (hkey:KOwn d w Hb 0 (.slice ka l.length cap) l) (fP:∀ x,w.frozen? ⟨pb,x,none⟩=false) (hinc:bz d w) (oP:cq d pb) (oH:cq d Hb) (nPH:Hb≠pb)
    (hv:∀ g,(Value.slice ka l.length cap).ownBlock=some g→g≠pb∧g≠Hb∧cq d g) (hdk:DK l) (hl:l.length < 100000) (hp:(l.map KR.k).Perm ks) (hcd:Cd ks) (h9:∀ x ∈ ks,an x.tr=19→x.suf=[]) (h55:∀ x ∈ ks,x.tr / 256 < 36028797018963968)
    (hq:∀ w' c R,w'.cell? ⟨pb,po,none⟩=some (.slice sa sn sc)→w'.cell? ⟨pb,po+1,none⟩=some (.slice ea en ec)→w'.cell? ⟨pb,po+2,none⟩=some (.slice ka R.length cap)→w'.cell? ⟨pb,po+3,none⟩=some (.int .i8 0) →
     KOwn d w' Hb 0 (.slice ka l.length cap) c→c.length=l.length→c.take R.length=R→R.map KR.k=eH snaps.reverse ks→Keep (fun b x=>b=pb∧po≤x∧x≤po+3∨(Value.slice ka l.length cap).ownBlock=some b) w w'→k .nilIface w') :
    aX prog 144 #[.func (.func 102) #[] #[],.agg [.slice sa sn sc,.slice ea en ec,.slice ka l.length cap,.int .i8 0].toArray,.pointer (some ⟨pb,po,none⟩),.pointer (some ⟨XB,0,none⟩),.pointer (some ⟨SB,0,none⟩),.pointer (some ⟨QB,0,none⟩)] k w:=by
 have hPs:=aE q6
 have z0:(0:Int).toNat=0:=rfl
 have zc:(0:Int)≤(cap:Int):=by omega
 obtain ⟨sva,svc,rfl⟩:∃ a c,sv = .slice a snaps.length c:=by
  unfold Sl fI at hS
  split at hS
  ·obtain ⟨rfl,rfl⟩:=hS; exact ⟨_,_,rfl⟩
  ·obtain ⟨_,rfl,_⟩:=hS; exact ⟨_,_,rfl⟩
  ·exact hS.elim
 have wS:=hinc _ _ _ dS
 refine ai [.tmp 9] func144 ?_
 have nS:SB≠pb:=fun h=>by rw [h,oP 0] at dS; simp at dS
 have hSs:=aE wS
 obtain ⟨P,hP⟩:∃ P,P=w.heap.size:=⟨_,rfl⟩
 simp (disch:=first | exact dZ | fail) only [go_sem,q6,q7,q8,fP,sD Tryz.es110,z0,zc,aA,wS]
 obtain ⟨w1,hw1⟩:∃ w1,w1=((((w.setCell ⟨pb,po,none⟩ (.slice sa sn sc)).setCell ⟨pb,po+1,none⟩ (.slice ea en ec)).setCell ⟨pb,po+2,none⟩ (.slice ka 0 cap)).alloc (.cells #[.slice sa sn sc,.slice ea en ec,.slice ka l.length cap,.int .i8 0] 114)):=⟨_,rfl⟩
 rw [← hw1,← hP]
 have kb1:Keep (fun b x=>b=pb∧po≤x∧x≤po+3∨(Value.slice ka l.length cap).ownBlock=some b) w w1:=by
  rw [hw1]
  exact (((Keep.refl _ w).set (fun _ => .inl ⟨rfl,by omega,by omega⟩)).set (fun _ => .inl ⟨rfl,by omega,by omega⟩)).set (fun _ => .inl ⟨rfl,by omega,by omega⟩) |>.alloc _
 have p6:w1.cell? ⟨pb,po,none⟩=some (.slice sa sn sc):=by rw [hw1]; exact bb @q6
 have p7:w1.cell? ⟨pb,po+1,none⟩=some (.slice ea en ec):=by rw [hw1]; exact bb @q7
 have p8:w1.cell? ⟨pb,po+2,none⟩=some (.slice ka 0 cap):=by rw [hw1]; exact bb @q8
 have p9:w1.cell? ⟨pb,po+3,none⟩=some (.int .i8 0):=by rw [hw1]; exact bb @q9
 have s0:w1.cell? ⟨P,0,none⟩=some (.slice sa sn sc):=by rw [hw1,hP]; exact bb @aA
 have s1:w1.cell? ⟨P,1,none⟩=some (.slice ea en ec):=by rw [hw1,hP]; exact bb @aA
 have s2:w1.cell? ⟨P,2,none⟩=some (.slice ka l.length cap):=by rw [hw1,hP]; exact bb @aA
 have hPn:P≠pb:=by omega
 have hvP:∀ g,(Value.slice ka l.length cap).ownBlock=some g→g≠P∧g≠pb∧g≠Hb∧cq d g∧g < w.heap.size:=fun g hg=>by
  have h1:=(hkey.own.lt g hg).2
  have h2:=hv g hg
  exact ⟨by omega,h2.1,h2.2.1,h2.2.2,h1⟩
 have oP':cq d P:=hinc.out (by omega)
 have hHs:=aE hkey.hd
 have k01:Keep (fun b x=>b=pb∧po≤x∧x≤po+2) w w1:=by
  rw [hw1]
  exact (((Keep.refl _ w).set (fun _=>⟨rfl,by omega,by omega⟩)).set (fun _=>⟨rfl,by omega,by omega⟩)).set (fun _=>⟨rfl,by omega,by omega⟩) |>.alloc _
 have o1:w1.ownsRow 0 256 3 (.slice ka l.length cap) l.length (flat l):=aZ hkey.own k01 fun g hg o h=>(hv g hg).1 h.1
 have hd1:w1.cell? ⟨Hb,0,none⟩=some (.slice ka l.length cap):=k01.some hkey.hd fun h=>nPH h.1
 have i1:bz d w1:=hinc.keep k01 fun b o h=>by rw [h.1]; exact oP _
 have fP1:∀ x,w1.frozen? ⟨pb,x,none⟩=false:=fun x=>by rw [k01.frozen pb x hPs]; exact fP x
 have hPs1:P < w1.heap.size:=aE s0
 obtain ⟨M,hM⟩:∃ M:Nat→Nat→Prop,M=fun b x=>b=pb∧x=po+2∨(Value.slice ka l.length cap).ownBlock=some b:=⟨_,rfl⟩
 have hMP:∀ x,¬ M P x:=fun x h=>by
  rw [hM] at h
  rcases h with h | h
  ·exact hPn h.1
  ·exact (hvP _ h).1 rfl
 have hMd:∀ b x,M b x→d.cell? ⟨b,x,none⟩=none:=fun b x h=>by
  rw [hM] at h
  rcases h with ⟨rfl,rfl⟩ | h
  ·exact oP _
  ·exact (hvP _ h).2.2.2.1 _
 have hMH:∀ x,¬ M Hb x:=fun x h=>by
  rw [hM] at h
  rcases h with h | h
  ·exact nPH h.1
  ·exact (hvP _ h).2.2.1 rfl
 have hMp:∀ x,x≠po+2→¬ M pb x:=fun x hx h=>by
  rw [hM] at h
  rcases h with h | h
  ·exact hx h.2
  ·exact (hvP _ h).2.1 rfl
 have hcapl:l.length≤cap:=by
  rcases cY hkey.own with ⟨e,h,_⟩ | ⟨_,_,e,h,_⟩
  ·omega
  ·simp only [aW] at e; omega
 have hkn:0 < l.length→∃ g,ka=some ⟨g,0,none⟩:=fun h0=>by
  rcases cY hkey.own with ⟨_,h,_⟩ | ⟨g,_,e,_,_⟩
  ·omega
  ·simp only [aW] at e; exact ⟨g,e.1⟩
 have hSat:∀ (i x:Nat),snaps[i]? = some x→∃ b o,sva=some ⟨b,o,none⟩∧d.cell? ⟨b,o+i,none⟩=some (.int .u64 x)∧x < 18446744073709551616:=fun i x hx=>by
  have hlt:=(aP.1 hx).1
  unfold Sl fI at hS
  split at hS
  ·rename_i e
   obtain ⟨_,rfl⟩:=hS
   simp at hlt
  ·rename_i a n c e
   simp only [aW] at e
   obtain ⟨rfl,rfl,rfl⟩:=e
   obtain ⟨b,o,st⟩:=a
   obtain ⟨h1,h2,_,h4⟩:=hS
   have hs:st=none:=h1 (by omega)
   subst hs
   obtain ⟨cs,e1,e2,e3,e4⟩:=h4 i x hx
   refine ⟨b,o,rfl,?_,e4⟩
   have:=e2 0 (.int .u64 x) (by rw [e3]; rfl)
   simpa using this
  ·exact hS.elim
 refine bO (fun x:Nat × Nat × Nat=>[(0,.func (.func 102) #[] #[]),(2,.pointer (some ⟨pb,po,none⟩)),(4,.pointer (some ⟨SB,0,none⟩)),(5,.pointer (some ⟨QB,0,none⟩)),(7,.pointer (some ⟨P,0,none⟩)),(10,.func (.func 145) #[] #[.pointer (some ⟨XB,0,none⟩),.pointer (some ⟨P,0,none⟩)]),(11,.int .i64 ((x.1:Int) - 1)),(12,.int .i64 x.2.1),(13,.int .i64 x.2.2)])
  (fun x w'=>∃ c acc kr,w'.ownsRow 0 256 3 (.slice ka l.length cap) l.length (flat c)∧(∀ y ∈ c,y.good d)∧Con c l 0 x.2.1 acc∧x.2.2=acc.length∧x.2.1≤l.length∧x.1≤snaps.length∧w'.cell? ⟨pb,po+2,none⟩=some (.slice ka acc.length cap) ∧
   eH snaps.reverse ks=acc.map KR.k++eH (snaps.take x.1).reverse kr∧((l.drop x.2.1).map KR.k).Perm kr∧Cd kr∧(∀ y ∈ kr,an y.tr=19→y.suf=[])∧(∀ y ∈ kr,y.tr / 256 < 36028797018963968)∧Keep M w1 w')
  (fun x _=>x.1) (snaps.length,0,0) (by kernel_rfl) ?_ ⟨l,[],ks,o1,hkey.good,Con.refl (aQ _),rfl,aQ _,aD _,p8,by rw [aT]; rfl,hp,hcd,h9,h55,Keep.refl _ w1⟩ ?_
 ·exact bE
 rintro K e1 ⟨r,j,u⟩ w2 ⟨c,acc,kr,j1,j2,j3,j4,j5,j6,j7,j8,j9,j10,j11,j12,j13⟩ hK
 simp only at j3 j4 j5 j6 j8 j9
 subst j4
 have hcn:c.length=l.length:=j3.len
 have w1P:P < w2.heap.size:=aI hPs1 j13.size
 have t0:=j13.some s0 (hMP 0)
 have t1:=j13.some s1 (hMP 1)
 have t2:=j13.some s2 (hMP 2)
 have i2:bz d w2:=i1.keep j13 hMd
 have uS:=i2 _ _ _ dS
 have uQ:=i2 _ _ _ dQ
 have fP2:∀ x,w2.frozen? ⟨pb,x,none⟩=false:=fun x=>by rw [j13.frozen pb x (aE p6)]; exact fP1 x
 have hle:=j3.le
 by_cases hr:r=0
 ·subst hr
  have e0:(((0:Nat):Int) - 1) = -1:=rfl
  have e1':¬ (0:Int) ≤ -1:=by decide
  rw [List.take_zero,List.reverse_nil] at j8
  have hfin:∀ w6 c6 (R6:List KR),w6.ownsRow 0 256 3 (.slice ka l.length cap) l.length (flat c6)→(∀ y ∈ c6,y.good d)→Con c6 l 0 l.length R6→w6.cell? ⟨pb,po+2,none⟩=some (.slice ka R6.length cap)→R6.map KR.k=eH snaps.reverse ks→Keep M w1 w6→k .nilIface w6:=fun w6 c6 R6 a1 a2 a3 a4 a5 a6=>by
   have hw:=a3.win
   rw [List.drop_zero] at hw
   have hcl:=a3.len
   refine hq w6 c6 R6 (a6.some p6 (hMp _ (by omega))) (a6.some p7 (hMp _ (by omega))) a4 (a6.some p9 (hMp _ (by omega))) ⟨a6.some hd1 (hMH 0),by rw [hcl]; exact a1,a2⟩ hcl hw a5 (kb1.trans (a6.mono fun b x _ h => ?_))
   rw [hM] at h
   rcases h with ⟨h1,h2⟩ | h
   ·exact .inl ⟨h1,by omega,by omega⟩
   ·exact .inr h
  by_cases hj:j < l.length
  ·have hj':(j:Int) < l.length:=by omega
   obtain ⟨g,rfl⟩:=hkn (by omega)
   have hpb3:=aE j7
   have hP3:=aE t0
   have hQ3:=aE uQ
   obtain ⟨D,hD⟩:∃ D,D=w2.heap.size:=⟨_,rfl⟩
   refine fW @e0 @e1' @t2 @hj' ?_
   refine ay (sq [0,1,2] (.read 3 (sq [4,5,6,7] (.read 8 (sq [9,10] (.eff 11 [3,8] (.eff 12 [] .done))))))) ?_
   simp (disch:=first | exact dZ | fail) only [go_sem,j7,KM (lo:=acc.length) (hi:=cap) (len:=acc.length) (cap:=cap) (g:=g) (by omega) (aD _) (by omega),aA]
   refine ay (sq [0] (.read 1 (sq [2] (.read 3 (sq [4,5] (.eff 6 [] (sq [7] .done))))))) ?_
   simp (disch:=first | exact dZ | fail) only [go_sem,uQ,t2,aA,Lh (lo:=j) (len:=l.length) (cap:=cap) (g:=g) (by omega) hcapl (by omega)]
   obtain ⟨l2,hl2⟩:∃ l2,l2=l.drop j:=⟨_,rfl⟩
   have hl2n:l2.length=l.length - j:=by rw [hl2,List.length_drop]
   have hDs:=hdk.sublist (List.drop_sublist j l)
   rw [← hl2] at j9 hDs
   have hcl2:∀ i,i < l2.length→c[j+i]? = l2[i]? := fun i hi=>by
    rw [j3.at (by omega),hl2,List.getElem?_drop]
   obtain ⟨W,hW⟩:∃ W,W=(w2.alloc (.cells #[.slice (some ⟨g,acc.length * 3,none⟩) (cap - acc.length) (cap - acc.length)] 110)).drew.drew:=⟨_,rfl⟩
   have xW:bY w2 W:=by rw [hW]; exact (aL _).drew.drew
   have cD:W.cell? ⟨D,0,none⟩=some (.slice (some ⟨g,acc.length * 3,none⟩) (cap - acc.length) (cap - acc.length)):=by
    rw [hW,hD]
    show (w2.alloc _).cell? _=_
    exact bb @aA
   have fD:∀ y,W.frozen? ⟨D,y,none⟩=false:=fun y=>by
    rw [hW,hD]
    exact dO (aD _) (Nat.lt_succ_self _)
   have oW:=aZ j1 xW fun _ _ _ h=>h
   have iW:bz d W:=i2.trans xW.inc
   obtain ⟨hgP,hgp,hgH,hgO,hgl⟩:=hvP g rfl
   have hgDn:D≠g:=by have:=j13.size; have:=k01.size; omega
   have oD:cq d D:=i2.out (by omega)
   rw [← hD,← hW,← hl2n]
   refine nH (d:=d) (u:=acc.length) (s:=j) cD fD oD rfl rfl oW hcn hgDn hgO (by omega) (by omega) (by omega) hcl2 j2 iW hDs hl fun w4 c4 R rr h4 o4 con4 g4 hcr hRm kk4 => ?_
   have hjl:j+l2.length=l.length:=by omega
   rw [hjl] at con4
   have hR:R.map KR.k=nJ kr:=ED hDs hcr hRm j9 j10 j11
   have k24:Keep (fun b _=>b=g) w2 w4:=xW.keep.tr kk4 fun b o hb hm=>by
    rcases hm with ⟨h,_⟩ | h
    ·omega
    ·exact h
   have i4:bz d w4:=i2.keep k24 fun b o h=>by rw [h]; exact hgO o
   have y1:=i4 _ _ _ dQ
   have y2:=k24.some t2 (Ne.symm hgP)
   have y0:=k24.some t0 (Ne.symm hgP)
   have y3:=k24.some t1 (Ne.symm hgP)
   have nX:XB≠g:=fun h=>by rw [h,hgO 0] at dX; simp at dX
   have nA:AB≠g:=fun h=>by rw [h,hgO 0] at dA; simp at dA
   have nL:LB≠g:=fun h=>by rw [h,hgO 0] at dL; simp at dL
   have fD4:w4.frozen? ⟨D,0,none⟩=false:=by rw [kk4.frozen D 0 (aE cD)]; exact fD 0
   have hRle:=con4.le
   refine eI @y1 @y2 @h4 ?_
   refine sQ (d:=d) (i4 _ _ _ dX) (i4 _ _ _ dA) (i4 _ _ _ dL) y0 y3 o4 con4 hcn rfl (by omega) g4 nX nA nL (Ne.symm hgP) hl fun w5 c5 o5 con5 g5 kk5 => ?_
   have h5:=kk5.some h4 hgDn
   have fD5:w5.frozen? ⟨D,0,none⟩=false:=by rw [kk5.frozen D 0 (aE h4)]; exact fD4
   have k25:=k24.trans kk5
   have y7:=k25.some j7 (Ne.symm hgp)
   have hpb5:=aE y7
   have hD5:=aE h5
   have fP5:∀ x,w5.frozen? ⟨pb,x,none⟩=false:=fun x=>by rw [k25.frozen pb x hpb3]; exact fP2 x
   have hDpb:D≠pb:=by omega
   obtain ⟨R2,hR2⟩:∃ R2,R2=R.filter fun x=>rS x.k:=⟨_,rfl⟩
   rw [← hR2] at con5
   have con6:=j3.cat con5 j5
   have hR2le:=con5.le
   refine dV @h5 @fD5 ?_
   rw [← hR2]
   obtain ⟨w6,hw6⟩:∃ w6,w6=w5.setCell ⟨D,0,none⟩ (.slice (some ⟨g,acc.length * 3,none⟩) R2.length (cap - acc.length)):=⟨_,rfl⟩
   rw [← hw6]
   have k56:Keep (fun b o=>b=D∧o=0) w5 w6:=by rw [hw6]; exact bR ⟨rfl,rfl⟩
   have h6:w6.cell? ⟨D,0,none⟩=some (.slice (some ⟨g,acc.length * 3,none⟩) R2.length (cap - acc.length)):=by rw [hw6]; exact bb @h5
   have x7:=k56.some y7 fun h=>hDpb h.1.symm
   have o6:=aZ o5 k56 fun g' hg' o h=>by
    simp only [Value.ownBlock,aK] at hg'
    exact hgDn (h.1.symm.trans hg'.symm)
   have fP6:∀ x,w6.frozen? ⟨pb,x,none⟩=false:=fun x=>by rw [k56.frozen pb x hpb5]; exact fP5 x
   have hpb6:=aE x7
   refine bf @h6 ?_
   refine ay (sq [0,1,2,3] (.read 4 (.read 5 (.eff 6 [] (sq [7,8] (.eff 9 [] .done)))))) ?_
   refine dV @x7 @h6 ?_
   refine GM (d:=d) (w:=w6.drew) (cc:=c5) (R:=R2) o6.drew (fun i hi=>con5.get hi) (fun x hx => ?_) rfl (con5.len.trans hcn) (by omega) fun w7 o7 kk7 => ?_
   ·obtain ⟨i,hi,rfl⟩:=aV hx
    refine g5 _ (aJ (i:=acc.length+i) ?_)
    rw [con5.get hi,aC hi]
   have k67:Keep (fun b _=>b=g) w6 w7:=(Keep.refl _ w6).drew.trans kk7
   have n7:=k67.some x7 (Ne.symm hgp)
   have nD:=k67.some h6 hgDn
   have fP7:∀ x,w7.frozen? ⟨pb,x,none⟩=false:=fun x=>by rw [k67.frozen pb x hpb6]; exact fP6 x
   have kM:∀ {a b:World},Keep (fun b _=>b=g) a b→Keep M a b:=fun h=>h.mono fun b o _ e=>by rw [hM,e]; exact .inr rfl
   refine eI @n7 @nD @fP7 ?_
   refine hfin _ c5 (acc++R2) (aZ o7 (bR (M:=fun b o=>b=pb∧o=po+2) ⟨rfl,rfl⟩) fun g' hg' o h => ?_) g5 con6 ?_ ?_ ((((j13.trans (kM k25)).tr k56 fun b o hb hm => ?_).trans (kM k67)).set (fun _=>by rw [hM]; exact .inl ⟨rfl,rfl⟩))
   ·simp only [Value.ownBlock,aK] at hg'
    exact hgp (hg'.symm ▸ h.1)
   ·rw [aM]; exact bb @n7
   ·rw [j8,bC,hR2,EE,hR]; rfl
   ·have:=j13.size; omega
  ·have hj':¬ (j:Int) < l.length:=by omega
   obtain rfl:j=l.length:=by omega
   have hkr:kr=[]:=by
    rw [List.drop_length] at j9
    exact (List.Perm.nil_eq j9).symm
   rw [hkr,sR,au] at j8
   refine fW @e0 @e1' @t2 @hj' ?_
   exact hfin w2 c acc j1 j2 j3 j7 j8.symm j13
 ·obtain ⟨r,rfl⟩:∃ r',r=r'+1:=⟨r - 1,by omega⟩
  have er:((r+1:Nat):Int) - 1=r:=by omega
  have hr0:(0:Int)≤r:=by omega
  obtain ⟨s,hs⟩:∃ s,snaps[r]? = some s:=⟨snaps[r],aC (by omega)⟩
  obtain ⟨sb,so,rfl,dsr,hs64⟩:=hSat r s hs
  have usr:w2.cell? ⟨sb,so+r * 1,none⟩=some (.int .u64 s):=by rw [Nat.mul_one]; exact i2 _ _ _ dsr
  have er2:((r:Nat):Int).toNat=r:=rfl
  refine dV @er @hr0 ?_
  refine gm (fun z:Nat=>[(0,.func (.func 102) #[] #[]),(2,.pointer (some ⟨pb,po,none⟩)),(4,.pointer (some ⟨SB,0,none⟩)),(5,.pointer (some ⟨QB,0,none⟩)),(7,.pointer (some ⟨P,0,none⟩)),(10,.func (.func 145) #[] #[.pointer (some ⟨XB,0,none⟩),.pointer (some ⟨P,0,none⟩)]),(11,.int .i64 (r:Nat)),(12,.int .i64 z),(13,.int .i64 acc.length),(14,.int .i64 j)]) (fun z w'=>bY w2 w'∧j≤z∧z≤l.length∧(∀ i x,j≤i→i < z→l[i]? = some x→ef s x.k=false)∧∀ x,l[z]? = some x→ef s x.k=true) (by kernel_rfl) (fun K2 hK2 => ?_) ?_
  ·refine bO (fun z:Nat=>[(0,.func (.func 102) #[] #[]),(2,.pointer (some ⟨pb,po,none⟩)),(4,.pointer (some ⟨SB,0,none⟩)),(5,.pointer (some ⟨QB,0,none⟩)),(7,.pointer (some ⟨P,0,none⟩)),(10,.func (.func 145) #[] #[.pointer (some ⟨XB,0,none⟩),.pointer (some ⟨P,0,none⟩)]),(11,.int .i64 (r:Nat)),(12,.int .i64 z),(13,.int .i64 acc.length),(14,.int .i64 j)])
     (fun z w'=>bY w2 w'∧j≤z∧z≤l.length∧∀ i x,j≤i→i < z→l[i]? = some x→ef s x.k=false)
     (fun z _=>l.length - z) j (by kernel_rfl) ?_ ⟨bY.refl w2,aD _,j5,fun i x h1 h2=>by omega⟩ ?_
   ·exact bE
   rintro K3 e3 z w3 ⟨x3,z1,z2,z3⟩ hK3
   have v0:=x3.cell t0
   have v1:=x3.cell t1
   have v2:=x3.cell t2
   have vS:=x3.cell uS
   have vQ:=x3.cell uQ
   have vsr:=x3.cell usr
   have v7:=x3.cell j7
   have o3:=aZ j1 x3 (fun _ _ _ h=>h)
   by_cases hz:z < l.length
   ·have hz':(z:Int) < l.length:=by omega
    obtain ⟨g,rfl⟩:=hkn (by omega)
    obtain ⟨x,hx⟩:∃ x,l[z]? = some x:=⟨l[z],aC hz⟩
    have hg:=hkey.good x (aJ hx)
    have hcx:c[z]? = some x:=by rw [j3.at z1,hx]
    obtain ⟨a,na,b,nb,q1,q2⟩:=hg.form
    have hxv:x.v = .agg [.int .u64 x.k.tr,.slice a x.k.suf.length na,.slice b x.k.val.length nb].toArray:=by unfold KR.v; rw [q1,q2]
    obtain ⟨f1,f2,f3⟩:=dz hcx
    have c1:=av o3 f1
    have c2:=av o3 f2
    have c3:=av o3 f3
    rw [q1] at c2
    rw [q2] at c3
    have hrn:(r:Int) < snaps.length:=by omega
    refine al ?_
    refine ay (sq [0,1] (.read 2 (sq [3,4,5,6] (.read 7 (sq [8,9] (.read 10 (.read 12 (sq [13,14] (.read 15 (.eff 11 [12,15] (.eff 16 [] (sq [17,18] .done)))))))))))) ?_
    refine xT @v2 @hz' @c1 @c2 @c3 @vS @vsr @hrn @hr0 ?_
    rw [← hxv]
    refine sI hg fun w4 x4 => ?_
    have x34:bY w2 w4:=(x3.drew).trans x4
    have h5:x.k.tr / 256 < 36028797018963968:=h55 _ (hp.mem_iff.1 (List.mem_map_of_mem (aJ hx)))
    have y1:=x34.cell usr
    have y2:=x34.cell uS
    refine dV @y1 @y2 ?_
    refine yF h5 ?_
    by_cases ho:x.k.tr / 256 < s
    ·rw [aO ho]
     refine al ?_
     refine hK2 _ _ z ?_ ⟨x34,z1,z2,z3,fun y hy => ?_⟩
     ·exact bE
     ·rw [hx] at hy
      simp only [aK] at hy
      subst hy; exact aO ho
    ·rw [aF ho]
     refine al ?_
     refine hK3 _ _ (z+1) ?_ ⟨x34,by omega,by omega,fun i y h1 h2 hy => ?_⟩ (by omega)
     ·exact bE
     ·by_cases hi:i=z
      ·subst hi
       rw [hx] at hy
       simp only [aK] at hy
       subst hy; exact aF ho
      ·exact z3 i y h1 (by omega) hy
   ·have hz':¬ (z:Int) < l.length:=by omega
    refine al ?_
    refine ay (sq [0,1] (.read 2 (sq [3,4,5,6] (.read 7 (sq [8,9] (.read 10 (.read 12 (sq [13,14] (.read 15 (.eff 11 [12,15] (.eff 16 [] (sq [17,18] .done)))))))))))) ?_
    refine dV @v2 @hz' ?_
    refine hK2 _ _ z ?_ ⟨x3.drew,z1,z2,z3,fun y hy => ?_⟩
    ·exact bE
    ·rw [List.getElem?_eq_none (by omega)] at hy; simp at hy
  rintro e2 z w3 ⟨x3,z1,z2,z3,z4⟩
  have v0:=x3.cell t0
  have v1:=x3.cell t1
  have v2:=x3.cell t2
  have vQ:=x3.cell uQ
  have v7:=x3.cell j7
  have o3:=aZ j1 x3 (fun _ _ _ h=>h)
  have i3:=i2.trans x3.inc
  have fP3:∀ x,w3.frozen? ⟨pb,x,none⟩=false:=fun x=>by rw [x3.frozen pb x (aE j7)]; exact fP2 x
  have hDs:=hdk.sublist (List.drop_sublist j l)
  obtain ⟨cu1,cu2⟩:=HD (s:=s) (m:=z - j) hDs (by rw [List.length_drop]; omega) (fun i x h1 h2=>by
   rw [List.getElem?_drop] at h2
   exact z3 (j+i) x (by omega) (by omega) h2) (fun x h=>by
   rw [List.getElem?_drop,show j+(z - j)=z by omega] at h
   exact z4 x h)
  rw [List.drop_drop,show j+(z - j)=z by omega] at cu2
  have hA:(((l.drop j).take (z - j)).map KR.k).Perm (kr.filter fun x => !ef s x):=by
   rw [cu1]
   have:=j9.filter fun x => !ef s x
   rwa [List.filter_map] at this
  have hB:((l.drop z).map KR.k).Perm (kr.filter (ef s)):=by
   rw [cu2]
   have:=j9.filter (ef s)
   rwa [List.filter_map] at this
  have hcA:Cd (kr.filter fun x => !ef s x):=j10.flt _
  have hcB:Cd (kr.filter (ef s)):=j10.flt _
  have hrev:(snaps.take (r+1)).reverse=s :: (snaps.take r).reverse:=by
   rw [List.take_add_one,hs]
   simp
  rw [hrev] at j8
  have hBe:(kr.filter (ef s)).isEmpty=decide (z=l.length):=by
   rw [bJ,List.isEmpty_iff,decide_eq_true_eq,← ao,← hB.length_eq]
   simp only [ah,List.length_drop]
   omega
  have hj8:eH snaps.reverse ks=acc.map KR.k++((if z=l.length then (nJ (kr.filter fun x => !ef s x)).filter rS else nJ (kr.filter fun x => !ef s x))++eH (snaps.take r).reverse (kr.filter (ef s))):=by
   rw [j8]
   congr 1
   conv=>lhs; unfold eH
   rw [hBe]
   simp only [decide_eq_true_eq]
  by_cases hjz:j < z
  ·have hjz':(j:Int) < z:=by omega
   obtain ⟨g,rfl⟩:=hkn (by omega)
   have hzc:z≤cap:=by omega
   have hpb3:=aE v7
   have hP3:=aE v0
   have hQ3:=aE vQ
   obtain ⟨D,hD⟩:∃ D,D=w3.heap.size:=⟨_,rfl⟩
   refine bf @hjz' ?_
   refine ay (sq [0,1,2] (.read 3 (sq [4,5,6,7] (.read 8 (sq [9,10] (.eff 11 [3,8] (.eff 12 [] .done))))))) ?_
   simp (disch:=first | exact dZ | fail) only [go_sem,v7,KM (lo:=acc.length) (hi:=cap) (len:=acc.length) (cap:=cap) (g:=g) (by omega) (aD _) (by omega),aA]
   refine ay (sq [0] (.read 1 (sq [2] (.read 3 (sq [4,5,6] (.eff 7 [] (sq [8] .done))))))) ?_
   simp (disch:=first | exact dZ | fail) only [go_sem,vQ,v2,aA,KM (lo:=j) (hi:=z) (len:=l.length) (cap:=cap) (g:=g) (by omega) hzc (by omega)]
   obtain ⟨l2,hl2⟩:∃ l2,l2=(l.drop j).take (z - j):=⟨_,rfl⟩
   have hl2n:l2.length=z - j:=by rw [hl2,ar,List.length_drop]; omega
   rw [← hl2] at hA
   have hcl2:∀ i,i < l2.length→c[j+i]? = l2[i]? := fun i hi=>by
    rw [j3.at (by omega),hl2,List.getElem?_take,if_pos (by omega),List.getElem?_drop]
   obtain ⟨W,hW⟩:∃ W,W=(w3.alloc (.cells #[.slice (some ⟨g,acc.length * 3,none⟩) (cap - acc.length) (cap - acc.length)] 110)).drew.drew:=⟨_,rfl⟩
   have xW:bY w3 W:=by rw [hW]; exact (aL _).drew.drew
   have cD:W.cell? ⟨D,0,none⟩=some (.slice (some ⟨g,acc.length * 3,none⟩) (cap - acc.length) (cap - acc.length)):=by
    rw [hW,hD]
    show (w3.alloc _).cell? _=_
    exact bb @aA
   have fD:∀ y,W.frozen? ⟨D,y,none⟩=false:=fun y=>by
    rw [hW,hD]
    exact dO (aD _) (Nat.lt_succ_self _)
   have oW:=aZ o3 xW fun _ _ _ h=>h
   have iW:bz d W:=i3.trans xW.inc
   obtain ⟨hgP,hgp,hgH,hgO,hgl⟩:=hvP g rfl
   have hgDn:D≠g:=by have:=aE v7; have:=j13.size; have:=x3.size; have:=k01.size; omega
   have oD:cq d D:=i3.out (by omega)
   rw [← hD,← hW,← hl2n]
   refine nH (d:=d) (u:=acc.length) (s:=j) cD fD oD rfl rfl oW hcn hgDn hgO (by omega) (by omega) (by omega) hcl2 j2 iW (by rw [hl2]; exact hDs.sublist (List.take_sublist _ _)) hl fun w4 c4 R rr h4 o4 con4 g4 hcr hRm kk4 => ?_
   have hjl:j+l2.length=z:=by omega
   rw [hjl] at con4
   have hR:R.map KR.k=nJ (kr.filter fun x => !ef s x):=ED (by rw [hl2]; exact hDs.sublist (List.take_sublist _ _)) hcr hRm hA hcA fun y hy=>j11 y (aN.1 hy).1
   have k34:Keep (fun b _=>b=g) w3 w4:=xW.keep.tr kk4 fun b o hb hm=>by
    rcases hm with ⟨h,_⟩ | h
    ·omega
    ·exact h
   have i4:bz d w4:=i3.keep k34 fun b o h=>by rw [h]; exact hgO o
   have y1:=i4 _ _ _ dQ
   have y2:=k34.some v2 (Ne.symm hgP)
   have y0:=k34.some v0 (Ne.symm hgP)
   have y3:=k34.some v1 (Ne.symm hgP)
   have y7:=k34.some v7 (Ne.symm hgp)
   have nX:XB≠g:=fun h=>by rw [h,hgO 0] at dX; simp at dX
   have nA:AB≠g:=fun h=>by rw [h,hgO 0] at dA; simp at dA
   have nL:LB≠g:=fun h=>by rw [h,hgO 0] at dL; simp at dL
   have fD4:w4.frozen? ⟨D,0,none⟩=false:=by rw [kk4.frozen D 0 (aE cD)]; exact fD 0
   refine dV @y1 @y2 ?_
   refine rC (fun _:List KR=>[(0,.func (.func 102) #[] #[]),(2,.pointer (some ⟨pb,po,none⟩)),(4,.pointer (some ⟨SB,0,none⟩)),(5,.pointer (some ⟨QB,0,none⟩)),(7,.pointer (some ⟨P,0,none⟩)),(10,.func (.func 145) #[] #[.pointer (some ⟨XB,0,none⟩),.pointer (some ⟨P,0,none⟩)]),(11,.int .i64 (r:Nat)),(12,.int .i64 z),(13,.int .i64 acc.length),(15,.pointer (some ⟨D,0,none⟩))])
    (fun R2 w'=>∃ c5,w'.ownsRow 0 256 3 (.slice (some ⟨g,0,none⟩) l.length cap) l.length (flat c5)∧(∀ y ∈ c5,y.good d)∧Con c5 c acc.length z R2∧w'.cell? ⟨D,0,none⟩=some (.slice (some ⟨g,acc.length * 3,none⟩) R2.length (cap - acc.length))∧R2.map KR.k=(if z=l.length then (nJ (kr.filter fun x => !ef s x)).filter rS else nJ (kr.filter fun x => !ef s x))∧Keep (fun b _=>b=g) w3 w') (by kernel_rfl) (by kernel_rfl) (fun K2 hK2 => ?_) ?_
   ·have hRle:=con4.le
    by_cases hzl:z=l.length
    ·have hzb:((z:Int) == l.length)=true:=by rw [hzl]; exact beq_self_eq_true _
     refine dV @hzb @h4 ?_
     refine sQ (d:=d) (i4 _ _ _ dX) (i4 _ _ _ dA) (i4 _ _ _ dL) y0 y3 o4 con4 hcn rfl (by omega) g4 nX nA nL (Ne.symm hgP) hl fun w5 c5 o5 con5 g5 kk5 => ?_
     have h5:=kk5.some h4 hgDn
     have fD5:w5.frozen? ⟨D,0,none⟩=false:=by rw [kk5.frozen D 0 (aE h4)]; exact fD4
     refine dV @h5 @fD5 ?_
     refine hK2 _ _ (R.filter fun x=>rS x.k) ?_ ⟨c5,aZ o5 (bR (M:=fun b _=>b=D) rfl) fun g' hg' o h => ?_,g5,con5,?_,?_,(k34.trans kk5).set (fun h=>by omega)⟩
     ·exact bE
     ·simp only [Value.ownBlock,aK] at hg'
      exact hgDn (h.symm.trans hg'.symm)
     ·exact bb @h5
     ·rw [if_pos hzl,EE,hR]
    ·have hzb:((z:Int) == l.length)=false:=by rw [beq_eq_false_iff_ne]; omega
     refine bf @hzb ?_
     refine hK2 _ _ R ?_ ⟨c4,o4,g4,con4,h4,by rw [if_neg hzl]; exact hR,k34⟩
     exact bE
   ·rintro e5 R2 w5 ⟨c5,o5,g5,con5,h5,hR2,k35⟩
    have hRle:=con5.le
    have hRtn:=con5.tn
    have y7:=k35.some v7 (Ne.symm hgp)
    have hpb5:=aE y7
    have fP5:∀ x,w5.frozen? ⟨pb,x,none⟩=false:=fun x=>by rw [k35.frozen pb x hpb3]; exact fP3 x
    have con6:=j3.cat con5 z1
    refine bf @h5 ?_
    refine ay (sq [0,1,2,3] (.read 4 (.read 5 (.eff 6 [] (sq [7,8] (.eff 9 [] .done)))))) ?_
    refine dV @y7 @h5 ?_
    refine GM (d:=d) (w:=w5.drew) (cc:=c5) (R:=R2) o5.drew (fun i hi=>con5.get hi) (fun x hx => ?_) rfl (con5.len.trans hcn) (by omega) fun w6 o6 kk6 => ?_
    ·obtain ⟨i,hi,rfl⟩:=aV hx
     refine g5 _ (aJ (i:=acc.length+i) ?_)
     rw [con5.get hi,aC hi]
    have k56:Keep (fun b _=>b=g) w5 w6:=(Keep.refl _ w5).drew.trans kk6
    have n7:=k56.some y7 (Ne.symm hgp)
    have nD:=k56.some h5 hgDn
    have fP6:∀ x,w6.frozen? ⟨pb,x,none⟩=false:=fun x=>by rw [k56.frozen pb x hpb5]; exact fP5 x
    have kM:∀ {a b:World},Keep (fun b _=>b=g) a b→Keep M a b:=fun h=>h.mono fun b o _ e=>by rw [hM,e]; exact .inr rfl
    refine fW @n7 @nD @fP6 @er ?_
    refine hK _ _ (r,z,acc.length+R2.length) ?_ ⟨c5,acc++R2,kr.filter (ef s),aZ o6 (bR (M:=fun b o=>b=pb∧o=po+2) ⟨rfl,rfl⟩) fun g' hg' o h => ?_,g5,con6,by simp,z2,by simp only; omega,?_,?_,hB,hcB,fun y hy=>j11 y (aN.1 hy).1,fun y hy=>j12 y (aN.1 hy).1,(((j13.trans x3.keep).trans (kM k35)).trans (kM k56)).set (fun _=>by rw [hM]; exact .inl ⟨rfl,rfl⟩)⟩ (by simp only; omega)
    ·exact bE
    ·simp only [Value.ownBlock,aK] at hg'
     exact hgp (hg'.symm ▸ h.1)
    ·rw [aM]; exact bb @n7
    ·rw [hj8,bC,hR2,bt]
  ·have hjz':¬ (j:Int) < z:=by omega
   obtain rfl:z=j:=by omega
   have hA0:(kr.filter fun x => !ef s x)=[]:=by
    rw [Nat.sub_self,List.take_zero] at hA
    exact (List.Perm.nil_eq hA).symm
   rw [hA0,wE] at hj8
   refine bf @hjz' ?_
   refine hK _ _ (r,z,acc.length) ?_ ⟨c,acc,kr.filter (ef s),o3,j2,j3,rfl,z2,by simp only; omega,v7,?_,hB,hcB,fun y hy=>j11 y ((aN.1 hy).1),fun y hy=>j12 y ((aN.1 hy).1),j13.trans x3.keep⟩ (by simp only; omega)
   ·exact bE
   ·rw [hj8]; split <;> rfl
end
end Go.Proofs
end
section
namespace Go.E
open Go Go.Sort Go.Proofs Go.Proofs.Tryz
open Classical in
theorem nN {d w w2:World} (hi:bz d w) (x:bY w w2):∃ d2,Gr d w d2 w2∧∀ b o u,w.heap.size≤b→w2.cell? ⟨b,o,none⟩=some u→d2.cell? ⟨b,o,none⟩=some u:=by
 let D:Nat→Bool:=fun b=>decide (¬ cq d b∨w.heap.size≤b)
 have hD:∀ b o u,d.cell? ⟨b,o,none⟩=some u→D b=true:=fun b o u hu=>aO (.inl fun ho=>by rw [ho o] at hu; simp at hu)
 refine ⟨only w2 D,⟨x,sC (hi.trans x.inc) D hD,sA w2 D,fun b hb ho=>sB w2 D (aF fun h=>h.elim (fun h=>h ho) fun h=>by omega)⟩,fun b o u hb hu => ?_⟩
 rw [jK,show D b=true from aO (.inr hb),if_pos rfl]
 exact hu
theorem fI.imp {α:Type} {R R2:World→Nat→Nat→α→Prop} {sz:Nat} {w:World} {v:Value} {l:List α} (h:fI R sz w v l) (hi:∀ b o x,x ∈ l→R w b o x→R2 w b o x):fI R2 sz w v l:=by
 unfold fI at h ⊢
 split at h
 ·exact h
 ·exact ⟨h.1,h.2.1,h.2.2.1,fun i x hx=>hi _ _ _ (aJ hx) (h.2.2.2 i x hx)⟩
 ·exact h.elim
def KB:gN K:=fun w cs x=>∃ a b,cs=[.int .u64 x.tr,a,b]∧x.tr < 18446744073709551616∧fV w a x.suf∧fV w b x.val
theorem KB.mono:gi KB:=fun _ _ _ _ hi ⟨a,b,h1,h2,h3,h4⟩=>⟨a,b,h1,h2,h3.inc hi,h4.inc hi⟩
def E2:gN Sp:=fun w cs x=>∃ a b v,cs=[a,b,v,.int .i8 0]∧rK a=true∧fV w a x.s∧rK b=true∧fV w b x.e∧Sl KB 3 w v x.ks
theorem E2.mono:gi E2:=fun _ _ _ _ hi ⟨a,b,v,h1,h2,h3,h4,h5,h6⟩=>⟨a,b,v,h1,h2,h3.inc hi,h4,h5.inc hi,h6.inc KB.mono hi⟩
theorem KB.key {w:World} {b o:Nat} {x:K} (h:Fb KB 3 w b o x):mh w b o x:=by
 obtain ⟨cs,_,hc,a,a2,rfl,h2,h3,h4⟩:=h
 exact ⟨hc 0 _ rfl,h2,⟨a,hc 1 _ rfl,h3⟩,a2,hc 2 _ rfl,h4⟩
theorem E2.span {w:World} {b o:Nat} {x:Sp} (h:Fb E2 4 w b o x):xY w b o x:=by
 obtain ⟨cs,_,hc,a,a2,v,rfl,h2,h3,h4,h5,h6⟩:=h
 exact ⟨⟨a,hc 0 _ rfl,h2,h3⟩,⟨a2,hc 1 _ rfl,h4,h5⟩,⟨v,hc 2 _ rfl,h6.imp fun _ _ _ _ h=>KB.key h⟩,hc 3 _ rfl⟩
def B8 (x:K):Prop:=x.suf.length≤4294967296∧x.val.length≤4294967296
def EF (x:Sp):Prop:=x.s.length≤4294967296∧x.e.length≤4294967296∧x.ks.length < 1000000∧∀ k ∈ x.ks,B8 k
end Go.E
namespace Go.Proofs
open Go Go.E Go.Sort Go.Proofs.Tryz
section
variable {k:aq} {d w:World}
theorem eO {s:Bytes} {q:aq} (hinc:bz d w) (hs:s.length≤4294967296) (hk:∀ d2 w2 a n c,Gr d w d2 w2→fV d2 (.slice (some a) n c) s→q (.slice (some a) n c) w2):H0 prog 9 107 (.string ⟨s.toArray⟩) q w:=by
 unfold H0
 refine zI Tryz.underlying9 Tryz.underlying107 Tryz.underlying5 (by simp only [ByteArray.size,List.size_toArray]; omega) fun n c w2 h2 hn x2 _ => ?_
 obtain ⟨d2,g2,e2⟩:=nN hinc x2
 have h3:fV w2 (.slice (some ⟨w.heap.size,0,none⟩) n c) s:=h2
 exact hk d2 w2 _ n c g2 ⟨h3.1,h3.2.1,fun i v hv=>e2 _ _ _ (aD _) (h3.2.2 i v hv)⟩
theorem uj {s:Bytes} (hinc:bz d w) (hs:s.length≤4294967296) (hk:∀ d2 w2 v,Gr d w d2 w2→fV d2 v s→k v w2):aX prog 126 #[.string ⟨s.toArray⟩] k w:=by
 refine ai [.tmp 2] func126 ?_
 cases s with
 | nil =>
  refine al ?_
  exact hk d w _ (Gr.refl hinc) ⟨rfl,rfl⟩
 | cons a s =>
  have e:((⟨(a :: s).toArray⟩:ByteArray).toList == (⟨#[]⟩:ByteArray).toList)=false:=by rw [ByteArray.toList_mk,ByteArray.toList_mk]; rfl
  refine bf @e ?_
  refine eO hinc hs fun d2 w2 a2 n c g2 h2 => ?_
  refine al ?_
  exact hk d2 w2 _ g2 h2
theorem ta {v:Value} {l:List K} (hv:Sl KE 3 d v l) (hl:l.length < 1000000) (hlen:∀ x ∈ l,B8 x) (hinc:bz d w) (hk:∀ d' w' v',LoopL KB 3 256 d w d' w' v' l→k v' w'):aX prog 91 #[v] k w:=by
 obtain ⟨ka,kc,rfl⟩:=hv.form
 refine ai [.tmp 2] func91 ?_
 refine al ?_
 refine bO (fun b:Nat × Value=>[(3,b.2),(6,.slice ka l.length kc),(7,.int .i64 l.length),(8,.int .i64 b.1)])
  (fun b w'=>b.1≤l.length∧∃ d1,LoopL KB 3 256 d w d1 w' b.2 (l.take b.1)) (fun b _=>l.length - b.1) (0,.slice none 0 0) (by kernel_rfl) ?_ ⟨aQ _,d,LoopL.nil hinc⟩ ?_
 ·exact bE
 rintro K2 e ⟨i,v⟩ w1 ⟨i2,d1,i3⟩ hK2
 simp only at i2 i3
 rcases aH i l.length with hi | hi
 rotate_left
 ·have hi':¬ (i:Int) < l.length:=by omega
  refine bf @hi' ?_
  obtain rfl:i=l.length:=by omega
  rw [aT] at i3
  exact hk d1 w1 v i3
 have hi':(i:Int) < l.length:=by omega
 obtain ⟨g,f,c,hv',hc,hat⟩:=(hv.inc KE.mono i3.g.i).at (by omega)
 obtain ⟨rfl,rfl⟩:=sEq hv'
 obtain ⟨x,hx⟩:=gEl hi
 obtain ⟨cs,_,hcs,hR⟩:=hat i x hx
 have hmem:=aJ hx
 obtain ⟨rfl,htr⟩:=hR
 have h0:w1.cell? ⟨g,f+i * 3,none⟩=some (.int .u64 x.tr):=i3.g.j _ _ _ (hcs 0 _ rfl)
 have h1:w1.cell? ⟨g,f+i * 3+1,none⟩=some (.string ⟨x.suf.toArray⟩):=i3.g.j _ _ _ (hcs 1 _ rfl)
 have h2:w1.cell? ⟨g,f+i * 3+2,none⟩=some (.string ⟨x.val.toArray⟩):=i3.g.j _ _ _ (hcs 2 _ rfl)
 refine fW @hi' @h0 @h1 @h2 ?_
 refine ay (sq [0,1] (.read 2 (sq [3] (.read 4 (sq [6] (.read 7 (.eff 5 [2,7] (.eff 8 [2] (sq [9] (.eff 10 [] (.eff 11 [] (sq [12] .done)))))))))))) ?_
 refine al ?_
 obtain ⟨sb,hsb⟩:∃ sb,sb=w1.heap.size:=⟨_,rfl⟩
 obtain ⟨w3,hw3⟩:∃ w3,w3=(w1.alloc (.cells #[.int .u64 x.tr,.string ⟨x.suf.toArray⟩,.string ⟨x.val.toArray⟩] 62)).drew:=⟨_,rfl⟩
 have x3:bY w1 w3:=by rw [hw3]; exact Keep.drew (aL _)
 have p0:w3.cell? ⟨sb,0,none⟩=some (.int .u64 x.tr):=by rw [hw3,hsb]; exact bb @aA
 have p1:w3.cell? ⟨sb,1,none⟩=some (.string ⟨x.suf.toArray⟩):=by rw [hw3,hsb]; exact bb @aA
 have p2:w3.cell? ⟨sb,2,none⟩=some (.string ⟨x.val.toArray⟩):=by rw [hw3,hsb]; exact bb @aA
 rw [← hw3,← hsb]
 have i4:=i3.ext KB.mono x3
 refine uj i4.g.j (hlen x hmem).1 fun d4 w4 v4 g4 b4 => ?_
 have i5:=i4.call KB.mono g4
 obtain ⟨a4,c4,rfl⟩:=bI b4
 have p0:=g4.x.cell p0
 have p1:=g4.x.cell p1
 have p2:=g4.x.cell p2
 refine eI @p0 @p1 @p2 ?_
 refine uj i5.g.j (hlen x hmem).2 fun d5 w5 v5 g5 b5 => ?_
 have i6:=i5.call KB.mono g5
 obtain ⟨a5,c5,rfl⟩:=bI b5
 have p0:=g5.x.cell p0
 have p1:=g5.x.cell p1
 have p2:=g5.x.cell p2
 obtain ⟨va,vcap,rfl,_⟩:=i6.form
 refine eI @p0 @p1 @p2 ?_
 obtain ⟨css,o6⟩:=i6.o
 refine jI x [.int .u64 x.tr,.slice a4 x.suf.length c4,.slice a5 x.val.length c5] rw110 o6 ⟨_,_,rfl,htr,b4.inc g5.i,b5⟩ rfl (.inl rfl) rfl rfl (by simp [Value.oneCell']) (by rw [dB i2]; omega) i6.g.j fun v2 w2 o2 k2 n2 j2 _ => ?_
 refine eI @p0 @p1 @p2 ?_
 refine hK2 _ _ (i+1,v2) ?_ ⟨hi,d5,?_⟩ (by simp only; omega)
 ·exact bE
 ·rw [bn hx]
  exact i6.more o2 k2 n2 j2
theorem hZ {v:Value} {l:List K} (hv:Sl KE 3 d v l) (hl:l.length < 1000000) (hlen:∀ x ∈ l,B8 x) (hinc:bz d w) (hk:∀ d' w' v',Gr d w d' w'→Sl KB 3 d' v' l→k v' w'):aX prog 91 #[v] k w :=
 ta hv hl hlen hinc fun d1 w1 v i3=>by
  obtain ⟨d2,g2,_,_,s2⟩:=i3.done KB.mono
  exact hk d2 w1 v g2 s2
theorem EG {kv:Value} {x:Sp} (hv:Sl KE 3 d kv x.ks) (hl:EF x) (hinc:bz d w) (hk:∀ d' w' a b v',Gr d w d' w'→rK a=true→fV d' a x.s→rK b=true→fV d' b x.e→Sl KB 3 d' v' x.ks→k (.agg #[a,b,v',.int .i8 0]) w') :
    aX prog 84 #[.agg #[.string ⟨x.s.toArray⟩,.string ⟨x.e.toArray⟩,kv]] k w:=by
 obtain ⟨ka,kc,rfl⟩:=hv.form
 refine ai [.cell 2 114] func84 ?_
 refine al ?_
 refine ay (sq [0] (.read 1 (sq [3] (.read 4 (sq [6] (.read 7 (.alt (.alt (.eff 2 [4,7] (.alt (.eff 5 [1,7] (.eff 8 [1,4] (sq [9] (.eff 10 [] .done)))) (.eff 8 [1,4] (.eff 5 [1,7] (sq [9] (.eff 10 [] .done)))))) (.eff 5 [1,7] (.alt (.eff 2 [4,7] (.eff 8 [1,4] (sq [9] (.eff 10 [] .done)))) (.eff 8 [1,4] (.eff 2 [4,7] (sq [9] (.eff 10 [] .done))))))) (.eff 8 [1,4] (.alt (.eff 2 [4,7] (.eff 5 [1,7] (sq [9] (.eff 10 [] .done)))) (.eff 5 [1,7] (.eff 2 [4,7] (sq [9] (.eff 10 [] .done))))))))))))) ?_
 refine al ?_
 obtain ⟨b,hb⟩:∃ b,b=w.heap.size:=⟨_,rfl⟩
 obtain ⟨w1,hw1⟩:∃ w1,w1=((w.alloc (.cells #[.string ⟨x.s.toArray⟩,.string ⟨x.e.toArray⟩,.slice ka x.ks.length kc] 56)).alloc (.cells #[.slice none 0 0,.slice none 0 0,.slice none 0 0,.int .i8 0] 114)).drew:=⟨_,rfl⟩
 rw [← hw1,← hb]
 have k1:bY w w1:=by rw [hw1]; exact Keep.drew ((aL _).trans (aL _))
 have z1:w1.heap.size=w.heap.size+2:=by rw [hw1,World.size_drew,World.size_alloc,World.size_alloc]
 have a0:w1.cell? ⟨b,0,none⟩=some (.string ⟨x.s.toArray⟩):=by rw [hw1,hb]; exact bb @aA
 have a1:w1.cell? ⟨b,1,none⟩=some (.string ⟨x.e.toArray⟩):=by rw [hw1,hb]; exact bb @aA
 have a2:w1.cell? ⟨b,2,none⟩=some (.slice ka x.ks.length kc):=by rw [hw1,hb]; exact bb @aA
 have b0:w1.cell? ⟨b+1,0,none⟩=some (.slice none 0 0):=by rw [hw1,hb]; exact bb @aA
 have b1:w1.cell? ⟨b+1,1,none⟩=some (.slice none 0 0):=by rw [hw1,hb]; exact bb @aA
 have b2:w1.cell? ⟨b+1,2,none⟩=some (.slice none 0 0):=by rw [hw1,hb]; exact bb @aA
 have b3:w1.cell? ⟨b+1,3,none⟩=some (.int .i8 0):=by rw [hw1,hb]; exact bb @aA
 have f1:∀ o,w1.frozen? ⟨b+1,o,none⟩=false:=fun o=>by rw [hw1,hb]; simp (disch:=first | exact dZ | fail) only [go_sem]
 have ob:cq d (b+1):=hinc.out (by omega)
 have t1:Gr d w1 d w1:=Gr.refl (hinc.trans k1.inc)
 refine ⟨⟨?_,?_⟩,?_⟩
 ·refine eO t1.j hl.1 fun d2 w2 sa sn sc g2 hS => ?_
  have t2:=t1.trans g2
  have c0:=t2.x.cell a0
  have c1:=t2.x.cell a1
  have c2:=t2.x.cell a2
  refine eI @c0 @c1 @c2 ?_
  refine ⟨?_,?_⟩
  ·refine eO t2.j hl.2.1 fun d3 w3 ea en ec g3 hE => ?_
   have t3:=t2.trans g3
   have hS:=hS.inc g3.i
   have c0:=t3.x.cell a0
   have c1:=t3.x.cell a1
   have c2:=t3.x.cell a2
   refine eI @c0 @c1 @c2 ?_
   refine hZ (hv.inc KE.mono t3.i) hl.2.2.1 hl.2.2.2 t3.j fun d4 w4 v4 g4 hQ => ?_
   obtain ⟨va,vc,rfl⟩:=hQ.form
   have t4:=t3.trans g4
   have hS:=hS.inc g4.i
   have hE:=hE.inc g4.i
   have c0:=t4.x.cell a0
   have c1:=t4.x.cell a1
   have c2:=t4.x.cell a2
   have b0:=t4.x.cell b0
   have b1:=t4.x.cell b1
   have b2:=t4.x.cell b2
   have b3:=t4.x.cell b3
   have f4:∀ o,w4.frozen? ⟨b+1,o,none⟩=false:=fun o=>by rw [t4.x.frozen _ o (by omega)]; exact f1 o
   refine xS @c0 @c1 @c2 @b0 @b1 @b2 @b3 @f4 ?_
   have k4:=k1.trans t4.x
   have ho:cq d4 (b+1):=t4.o _ (by omega) ob
   refine hk d4 _ _ _ _ ⟨bX (bX (bX (bX k4 (by omega)) (by omega)) (by omega)) (by omega),t4.i,?_,fun c hc ho=>t4.o c (aI hc k1.size) ho⟩ rfl hS rfl hE hQ
   exact (((t4.j.set ho).set ho).set ho).set ho
  ·refine hZ (hv.inc KE.mono t2.i) hl.2.2.1 hl.2.2.2 t2.j fun d3 w3 v4 g3 hQ => ?_
   obtain ⟨va,vc,rfl⟩:=hQ.form
   have t3:=t2.trans g3
   have hS:=hS.inc g3.i
   have c0:=t3.x.cell a0
   have c1:=t3.x.cell a1
   have c2:=t3.x.cell a2
   refine eI @c0 @c1 @c2 ?_
   refine eO t3.j hl.2.1 fun d4 w4 ea en ec g4 hE => ?_
   have t4:=t3.trans g4
   have hS:=hS.inc g4.i
   have hQ:=hQ.inc KB.mono g4.i
   have c0:=t4.x.cell a0
   have c1:=t4.x.cell a1
   have c2:=t4.x.cell a2
   have b0:=t4.x.cell b0
   have b1:=t4.x.cell b1
   have b2:=t4.x.cell b2
   have b3:=t4.x.cell b3
   have f4:∀ o,w4.frozen? ⟨b+1,o,none⟩=false:=fun o=>by rw [t4.x.frozen _ o (by omega)]; exact f1 o
   refine xS @c0 @c1 @c2 @b0 @b1 @b2 @b3 @f4 ?_
   have k4:=k1.trans t4.x
   have ho:cq d4 (b+1):=t4.o _ (by omega) ob
   refine hk d4 _ _ _ _ ⟨bX (bX (bX (bX k4 (by omega)) (by omega)) (by omega)) (by omega),t4.i,?_,fun c hc ho=>t4.o c (aI hc k1.size) ho⟩ rfl hS rfl hE hQ
   exact (((t4.j.set ho).set ho).set ho).set ho
 ·refine eO t1.j hl.2.1 fun d2 w2 ea en ec g2 hE => ?_
  have t2:=t1.trans g2
  have c0:=t2.x.cell a0
  have c1:=t2.x.cell a1
  have c2:=t2.x.cell a2
  refine eI @c0 @c1 @c2 ?_
  refine ⟨?_,?_⟩
  ·refine eO t2.j hl.1 fun d3 w3 sa sn sc g3 hS => ?_
   have t3:=t2.trans g3
   have hE:=hE.inc g3.i
   have c0:=t3.x.cell a0
   have c1:=t3.x.cell a1
   have c2:=t3.x.cell a2
   refine eI @c0 @c1 @c2 ?_
   refine hZ (hv.inc KE.mono t3.i) hl.2.2.1 hl.2.2.2 t3.j fun d4 w4 v4 g4 hQ => ?_
   obtain ⟨va,vc,rfl⟩:=hQ.form
   have t4:=t3.trans g4
   have hE:=hE.inc g4.i
   have hS:=hS.inc g4.i
   have c0:=t4.x.cell a0
   have c1:=t4.x.cell a1
   have c2:=t4.x.cell a2
   have b0:=t4.x.cell b0
   have b1:=t4.x.cell b1
   have b2:=t4.x.cell b2
   have b3:=t4.x.cell b3
   have f4:∀ o,w4.frozen? ⟨b+1,o,none⟩=false:=fun o=>by rw [t4.x.frozen _ o (by omega)]; exact f1 o
   refine xS @c0 @c1 @c2 @b0 @b1 @b2 @b3 @f4 ?_
   have k4:=k1.trans t4.x
   have ho:cq d4 (b+1):=t4.o _ (by omega) ob
   refine hk d4 _ _ _ _ ⟨bX (bX (bX (bX k4 (by omega)) (by omega)) (by omega)) (by omega),t4.i,?_,fun c hc ho=>t4.o c (aI hc k1.size) ho⟩ rfl hS rfl hE hQ
   exact (((t4.j.set ho).set ho).set ho).set ho
  ·refine hZ (hv.inc KE.mono t2.i) hl.2.2.1 hl.2.2.2 t2.j fun d3 w3 v4 g3 hQ => ?_
   obtain ⟨va,vc,rfl⟩:=hQ.form
   have t3:=t2.trans g3
   have hE:=hE.inc g3.i
   have c0:=t3.x.cell a0
   have c1:=t3.x.cell a1
   have c2:=t3.x.cell a2
   refine eI @c0 @c1 @c2 ?_
   refine eO t3.j hl.1 fun d4 w4 sa sn sc g4 hS => ?_
   have t4:=t3.trans g4
   have hE:=hE.inc g4.i
   have hQ:=hQ.inc KB.mono g4.i
   have c0:=t4.x.cell a0
   have c1:=t4.x.cell a1
   have c2:=t4.x.cell a2
   have b0:=t4.x.cell b0
   have b1:=t4.x.cell b1
   have b2:=t4.x.cell b2
   have b3:=t4.x.cell b3
   have f4:∀ o,w4.frozen? ⟨b+1,o,none⟩=false:=fun o=>by rw [t4.x.frozen _ o (by omega)]; exact f1 o
   refine xS @c0 @c1 @c2 @b0 @b1 @b2 @b3 @f4 ?_
   have k4:=k1.trans t4.x
   have ho:cq d4 (b+1):=t4.o _ (by omega) ob
   refine hk d4 _ _ _ _ ⟨bX (bX (bX (bX k4 (by omega)) (by omega)) (by omega)) (by omega),t4.i,?_,fun c hc ho=>t4.o c (aI hc k1.size) ho⟩ rfl hS rfl hE hQ
   exact (((t4.j.set ho).set ho).set ho).set ho
 ·refine hZ (hv.inc KE.mono t1.i) hl.2.2.1 hl.2.2.2 t1.j fun d2 w2 v4 g2 hQ => ?_
  obtain ⟨va,vc,rfl⟩:=hQ.form
  have t2:=t1.trans g2
  have c0:=t2.x.cell a0
  have c1:=t2.x.cell a1
  have c2:=t2.x.cell a2
  refine eI @c0 @c1 @c2 ?_
  refine ⟨?_,?_⟩
  ·refine eO t2.j hl.1 fun d3 w3 sa sn sc g3 hS => ?_
   have t3:=t2.trans g3
   have hQ:=hQ.inc KB.mono g3.i
   have c0:=t3.x.cell a0
   have c1:=t3.x.cell a1
   have c2:=t3.x.cell a2
   refine eI @c0 @c1 @c2 ?_
   refine eO t3.j hl.2.1 fun d4 w4 ea en ec g4 hE => ?_
   have t4:=t3.trans g4
   have hQ:=hQ.inc KB.mono g4.i
   have hS:=hS.inc g4.i
   have c0:=t4.x.cell a0
   have c1:=t4.x.cell a1
   have c2:=t4.x.cell a2
   have b0:=t4.x.cell b0
   have b1:=t4.x.cell b1
   have b2:=t4.x.cell b2
   have b3:=t4.x.cell b3
   have f4:∀ o,w4.frozen? ⟨b+1,o,none⟩=false:=fun o=>by rw [t4.x.frozen _ o (by omega)]; exact f1 o
   refine xS @c0 @c1 @c2 @b0 @b1 @b2 @b3 @f4 ?_
   have k4:=k1.trans t4.x
   have ho:cq d4 (b+1):=t4.o _ (by omega) ob
   refine hk d4 _ _ _ _ ⟨bX (bX (bX (bX k4 (by omega)) (by omega)) (by omega)) (by omega),t4.i,?_,fun c hc ho=>t4.o c (aI hc k1.size) ho⟩ rfl hS rfl hE hQ
   exact (((t4.j.set ho).set ho).set ho).set ho
  ·refine eO t2.j hl.2.1 fun d3 w3 ea en ec g3 hE => ?_
   have t3:=t2.trans g3
   have hQ:=hQ.inc KB.mono g3.i
   have c0:=t3.x.cell a0
   have c1:=t3.x.cell a1
   have c2:=t3.x.cell a2
   refine eI @c0 @c1 @c2 ?_
   refine eO t3.j hl.1 fun d4 w4 sa sn sc g4 hS => ?_
   have t4:=t3.trans g4
   have hQ:=hQ.inc KB.mono g4.i
   have hE:=hE.inc g4.i
   have c0:=t4.x.cell a0
   have c1:=t4.x.cell a1
   have c2:=t4.x.cell a2
   have b0:=t4.x.cell b0
   have b1:=t4.x.cell b1
   have b2:=t4.x.cell b2
   have b3:=t4.x.cell b3
   have f4:∀ o,w4.frozen? ⟨b+1,o,none⟩=false:=fun o=>by rw [t4.x.frozen _ o (by omega)]; exact f1 o
   refine xS @c0 @c1 @c2 @b0 @b1 @b2 @b3 @f4 ?_
   have k4:=k1.trans t4.x
   have ho:cq d4 (b+1):=t4.o _ (by omega) ob
   refine hk d4 _ _ _ _ ⟨bX (bX (bX (bX k4 (by omega)) (by omega)) (by omega)) (by omega),t4.i,?_,fun c hc ho=>t4.o c (aI hc k1.size) ho⟩ rfl hS rfl hE hQ
   exact (((t4.j.set ho).set ho).set ho).set ho
theorem B9 {v:Value} {l:List Sp} (hv:Sl dY 3 d v l) (hl:l.length < 1000000) (hlen:∀ x ∈ l,EF x) (hinc:bz d w) (hk:∀ d' w' v',Gr d w d' w'→Sl E2 4 d' v' l→k v' w'):aX prog 86 #[v] k w:=by
 obtain ⟨ka,kc,rfl⟩:=hv.form
 refine ai [.tmp 2] func86 ?_
 refine al ?_
 refine bO (fun b:Nat × Value=>[(3,b.2),(6,.slice ka l.length kc),(7,.int .i64 l.length),(8,.int .i64 b.1)])
  (fun b w'=>b.1≤l.length∧∃ d1,LoopL E2 4 114 d w d1 w' b.2 (l.take b.1)) (fun b _=>l.length - b.1) (0,.slice none 0 0) (by kernel_rfl) ?_ ⟨aQ _,d,LoopL.nil hinc⟩ ?_
 ·exact bE
 rintro K2 e ⟨i,v⟩ w1 ⟨i2,d1,i3⟩ hK2
 simp only at i2 i3
 rcases aH i l.length with hi | hi
 rotate_left
 ·have hi':¬ (i:Int) < l.length:=by omega
  refine bf @hi' ?_
  obtain rfl:i=l.length:=by omega
  rw [aT] at i3
  obtain ⟨d2,g2,_,_,s2⟩:=i3.done E2.mono
  exact hk d2 w1 v g2 s2
 have hi':(i:Int) < l.length:=by omega
 obtain ⟨g,f,c,hv',hc,hat⟩:=(hv.inc dY.mono i3.g.i).at (by omega)
 obtain ⟨rfl,rfl⟩:=sEq hv'
 obtain ⟨x,hx⟩:=gEl hi
 obtain ⟨cs,_,hcs,hR⟩:=hat i x hx
 have hmem:=aJ hx
 obtain ⟨kv,rfl,hkv⟩:=hR
 obtain ⟨kva,kvc,rfl⟩:=hkv.form
 have h0:w1.cell? ⟨g,f+i * 3,none⟩=some (.string ⟨x.s.toArray⟩):=i3.g.j _ _ _ (hcs 0 _ rfl)
 have h1:w1.cell? ⟨g,f+i * 3+1,none⟩=some (.string ⟨x.e.toArray⟩):=i3.g.j _ _ _ (hcs 1 _ rfl)
 have h2:w1.cell? ⟨g,f+i * 3+2,none⟩=some (.slice kva x.ks.length kvc):=i3.g.j _ _ _ (hcs 2 _ rfl)
 refine fW @hi' @h0 @h1 @h2 ?_
 have x3:bY w1 (w1.alloc (.cells #[.string ⟨x.s.toArray⟩,.string ⟨x.e.toArray⟩,.slice kva x.ks.length kvc] 56)):=aL _
 have i4:=i3.ext E2.mono x3
 refine EG hkv (hlen x hmem) i4.g.j fun d4 w4 sa ea v4 g4 s1 s2 s3 s4 s5 => ?_
 have i5:=i4.call E2.mono g4
 obtain ⟨sa',sc',rfl⟩:=bI s2
 obtain ⟨ea',ec',rfl⟩:=bI s4
 obtain ⟨va,vcap,rfl,_⟩:=i5.form
 obtain ⟨k4,c4,rfl⟩:=s5.form
 refine al ?_
 obtain ⟨css,o5⟩:=i5.o
 refine jI x [.slice sa' x.s.length sc',.slice ea' x.e.length ec',.slice k4 x.ks.length c4,.int .i8 0] rw195 o5 ⟨_,_,_,rfl,s1,s2,s3,s4,s5⟩ rfl (.inl rfl) rfl rfl (by simp [Value.oneCell']) (by rw [dB i2]; omega) i5.g.j fun v2 w2 o2 k2 n2 j2 _ => ?_
 refine al ?_
 refine hK2 _ _ (i+1,v2) ?_ ⟨hi,d4,?_⟩ (by simp only; omega)
 ·exact bE
 ·rw [bn hx]
  exact i5.more o2 k2 n2 j2
end
end Go.Proofs
end
section
namespace Go.E
open Go Go.Sort Go.Proofs Go.Proofs.Tryz
def jx:gN (List Sp):=fun w cs x=>∃ v,cs=[v]∧Sl dY 3 w v x
theorem jx.mono:gi jx:=fun _ _ _ _ hi ⟨v,h1,h2⟩=>⟨v,h1,h2.inc dY.mono hi⟩
def CA:gN Lvl:=fun _ cs x=>cs=[.iface 233 (.pointer (some ⟨x.I,0,none⟩))]
theorem CA.mono:gi CA:=fun _ _ _ _ _ h=>h
structure ItsAt (n:Nat) (d w:World) (Ls:List Lvl):Prop where
 at_:∀ x ∈ Ls,IterAt w x.I x.b x.o x.L.length (-1)∧jf d x.b x.o x.L∧cq d x.I∧n≤x.I∧x.I < w.heap.size
 ne:Ls.Pairwise fun x y=>x.I≠y.I
theorem ItsAt.keep {n:Nat} {d d2 w w2:World} {Ls:List Lvl} {M:Nat→Nat→Prop} (h:ItsAt n d w Ls) (hk:Keep M w w2) (hm:∀ x ∈ Ls,∀ o,¬ M x.I o) (hi:bz d d2) (ho:∀ b,cq d b→(∃ x ∈ Ls,x.I=b)→cq d2 b):ItsAt n d2 w2 Ls where
 at_ x hx:=by
  obtain ⟨a1,a2,a3,a4,a5⟩:=h.at_ x hx
  exact ⟨a1.keep hk (hm x hx),a2.inc hi,ho _ a3 ⟨x,hx,rfl⟩,a4,aI a5 hk.size⟩
 ne:=h.ne
def Fg:Obj := .cells #[.func (.func 102) #[] #[],.func (.func 103) #[] #[],.func (.func 104) #[] #[],.nilFunc,.func (.func 106) #[] #[],.nilFunc,.func (.func 108) #[] #[],.func (.func 109) #[] #[],
 .string ⟨#[108,101,118,101,108,100,98,46,66,121,116,101,119,105,115,101,67,111,109,112,97,114,97,116,111,114]⟩] 208
end Go.E
namespace Go.Proofs
open Go Go.E Go.Sort Go.Proofs.Tryz
section
variable {k:aq} {d w:World}
theorem mj (hk:k (.pointer (some ⟨w.heap.size,0,none⟩)) (w.alloc Fg)):aX prog 66 #[] k w:=by
 refine ai [.tmp 0] func66 ?_
 refine al ?_
 exact hk
theorem yG {a:Option Addr} {n c:Nat} (hk:k (.pointer (some ⟨w.heap.size,0,none⟩)) (w.alloc (.cells #[.func (.func 102) #[] #[],.slice a n c,.int .i64 (-1)] 261))):aX prog 110 #[.func (.func 102) #[] #[],.slice a n c] k w:=by
 refine ai [.tmp 4] func110 ?_
 refine al ?_
 refine ai [] func134 ?_
 refine al ?_
 exact hk
theorem df {v:Value} {l:List (List Sp)} (hv:Sl jx 1 d v l) (hl:l.length < 1000000) (hlen:∀ x ∈ l,x.length < 1000000∧∀ s ∈ x,EF s) (hinc:bz d w)
    (hk:∀ d' w' v' Ls,Gr d w d' w'→Sl CA 1 d' v' Ls→ItsAt w.heap.size d' w' Ls→Ls.map Lvl.L=l→k v' w'):aX prog 68 #[v] k w:=by
 obtain ⟨ka,kc,rfl⟩:=hv.form
 refine ai [.tmp 2] func68 ?_
 refine al ?_
 refine bO (fun b:Nat × Value=>[(3,b.2),(6,.slice ka l.length kc),(7,.int .i64 l.length),(8,.int .i64 b.1)])
  (fun b w'=>b.1≤l.length∧∃ d1 Ls,LoopL CA 1 118 d w d1 w' b.2 Ls∧ItsAt w.heap.size d1 w' Ls∧Ls.map Lvl.L=l.take b.1∧∀ x ∈ Ls,b.2.ownBlock≠some x.I) (fun b _=>l.length - b.1) (0,.slice none 0 0) (by kernel_rfl) ?_ ⟨aQ _,d,[],LoopL.nil hinc,⟨by simp,.nil⟩,rfl,by simp⟩ ?_
 ·exact bE
 rintro K2 e ⟨i,v⟩ w1 ⟨i2,d1,Ls,i3,it,hm,hne⟩ hK2
 simp only at i2 i3 hm hne
 have hLs:Ls.length=i:=by
  have:=congrArg List.length hm
  rwa [ah,dB i2] at this
 rcases aH i l.length with hi | hi
 rotate_left
 ·have hi':¬ (i:Int) < l.length:=by omega
  refine bf @hi' ?_
  obtain rfl:i=l.length:=by omega
  rw [aT] at hm
  obtain ⟨d2,g2,i2,o2,s2⟩:=i3.done CA.mono
  exact hk d2 w1 v Ls g2 s2 (it.keep (bY.refl w1) (fun _ _ _ h=>h) i2 fun b h1 h2=>o2 b h1 fun h=>by obtain ⟨x,hx,rfl⟩:=h2; exact hne x hx h) hm
 have hi':(i:Int) < l.length:=by omega
 obtain ⟨g,f,c,hv',hc,hat⟩:=(hv.inc jx.mono i3.g.i).at (by omega)
 obtain ⟨rfl,rfl⟩:=sEq hv'
 obtain ⟨x,hx⟩:=gEl hi
 obtain ⟨cs,_,hcs,u,rfl,hu⟩:=hat i _ hx
 have hmem:=aJ hx
 obtain ⟨ua,uc,rfl⟩:=hu.form
 have h0:w1.cell? ⟨g,f+i * 1,none⟩=some (.slice ua x.length uc):=i3.g.j _ _ _ (hcs 0 _ rfl)
 refine dV @hi' @h0 ?_
 refine ay (sq [0,5] (.eff 1 [] (sq [2,3] (.read 4 (.eff 6 [4] (.eff 7 [] (sq [8] (.eff 9 [] (.eff 10 [] (sq [11] .done)))))))))) ?_
 refine al ?_
 refine mj ?_
 obtain ⟨w3,hw3⟩:∃ w3,w3=w1.drew.alloc Fg:=⟨_,rfl⟩
 have x3:bY w1 w3:=by rw [hw3]; exact (Keep.refl _ w1).drew.trans (aL _)
 have p0:w3.cell? ⟨w1.heap.size,0,none⟩=some (.func (.func 102) #[] #[]):=by rw [hw3]; unfold Fg; exact bb @aA
 rw [← hw3]
 refine bf @p0 ?_
 have i4:=i3.ext CA.mono x3
 refine B9 hu (hlen x hmem).1 (hlen x hmem).2 i4.g.j fun d4 w4 v4 g4 s4 => ?_
 have i5:=i4.call CA.mono g4
 have p0:=g4.x.cell p0
 obtain ⟨pa,pc,rfl⟩:=s4.form
 obtain ⟨pb,po,hpa⟩:∃ b o,jf d4 b o x∧(0 < x.length→pa=some ⟨b,o,none⟩):=by
  rcases bB x.length with h | h
  ·exact ⟨0,0,fun j hj=>by omega,fun h'=>by omega⟩
  ·obtain ⟨b,o,c',e,_,hat4⟩:=s4.at h
   refine ⟨b,o,fun j hj => ?_,fun _=>by simpa using (Value.slice.inj e).1⟩
   have:=hat4 j _ (aC hj)
   rw [aG x j hj]
   exact E2.span this
 refine bf @p0 ?_
 refine yG ?_
 obtain ⟨I,hI⟩:∃ I,I=w4.heap.size:=⟨_,rfl⟩
 obtain ⟨w6,hw6⟩:∃ w6,w6=w4.alloc (.cells #[.func (.func 102) #[] #[],.slice pa x.length pc,.int .i64 (-1)] 261):=⟨_,rfl⟩
 have x6:bY w4 w6:=by rw [hw6]; exact aL _
 have z6:w6.heap.size=I+1:=by rw [hw6,World.size_alloc,hI]
 have q0:w6.cell? ⟨I,0,none⟩=some (.func (.func 102) #[] #[]):=by rw [hw6,hI]; exact bb @aA
 have q1:w6.cell? ⟨I,1,none⟩=some (.slice pa x.length pc):=by rw [hw6,hI]; exact bb @aA
 have q2:w6.cell? ⟨I,2,none⟩=some (.int .i64 (-1)):=by rw [hw6,hI]; exact bb @aA
 have f6:∀ y,w6.frozen? ⟨I,y,none⟩=false:=fun y=>by rw [hw6,hI]; simp (disch:=first | exact dZ | fail) only [go_sem]
 rw [← hw6,← hI]
 have i7:=i5.ext CA.mono x6
 obtain ⟨va,vcap,rfl,_⟩:=i7.form
 have p0:=x6.cell p0
 refine bf @p0 ?_
 obtain ⟨css,o7⟩:=i7.o
 have hsz:w.heap.size≤w4.heap.size:=i5.g.x.size
 have it7:ItsAt w.heap.size d4 w6 Ls:=it.keep (M:=fun _ _=>False) (x3.trans (g4.x.trans x6)) (fun _ _ _ h=>h) g4.i fun b h1 ⟨y,hy,e⟩=>g4.o b (by have:=(it.at_ y hy).2.2.2.2; have:=x3.size; omega) h1
 have oI:cq d4 I:=i5.g.j.out (by omega)
 refine jI (⟨I,pb,po,x⟩:Lvl) [.iface 233 (.pointer (some ⟨I,0,none⟩))] rw173 o7 rfl rfl (.inl rfl) rfl rfl (by simp [Value.oneCell']) (by rw [hLs]; omega) i7.g.j fun v2 w2 o2 k2 n2 j2 _ => ?_
 refine bf @p0 ?_
 have hown:∀ y ∈ Ls,y.I < w6.heap.size∧y.I≠I:=fun y hy=>by
  have:=(it.at_ y hy).2.2.2.2
  have:=x3.size
  have:=g4.x.size
  omega
 have oI2:(Value.slice va Ls.length vcap).ownBlock≠some I:=fun h=>by
  have:=(o7.own.lt _ h).2
  obtain ⟨_,o5⟩:=i5.o
  have:=(o5.own.lt _ h).2
  omega
 refine hK2 _ _ (i+1,v2) ?_ ⟨hi,d4,Ls++[⟨I,pb,po,x⟩],i7.more o2 k2 n2 j2,?_,?_,?_⟩ (by simp only; omega)
 ·exact bE
 ·have it8:=it7.keep (w2:=w2) k2 (fun y hy o h=>hne y hy h) (bz.refl d4) fun b h _=>h
  refine ⟨fun y hy => ?_,List.pairwise_append.2 ⟨it8.ne,List.pairwise_singleton _ _,fun y hy z hz => ?_⟩⟩
  ·rcases ax.1 hy with hy | hy
   ·exact it8.at_ y hy
   ·obtain rfl:=ae.1 hy
    refine ⟨⟨k2.some q0 fun h=>oI2 h,⟨pa,pc,k2.some q1 fun h=>oI2 h,hpa.2⟩,k2.some q2 fun h=>oI2 h,fun y=>by rw [k2.frozen I y (by omega)]; exact f6 y⟩,hpa.1,oI,by simp only; omega,by have:=k2.size; simp only; omega⟩
  ·rw [ae.1 hz]
   exact (hown y hy).2
 ·rw [bC,hm,bn hx]
  rfl
 ·intro y hy h
  rcases n2 _ h with h | h
  ·rcases ax.1 hy with hy | hy
   ·exact hne y hy h
   ·obtain rfl:=ae.1 hy
    exact oI2 h
  ·rcases ax.1 hy with hy | hy
   ·have:=(hown y hy).1; omega
   ·obtain rfl:=ae.1 hy
    simp only at h
    omega
end
end Go.Proofs
end
