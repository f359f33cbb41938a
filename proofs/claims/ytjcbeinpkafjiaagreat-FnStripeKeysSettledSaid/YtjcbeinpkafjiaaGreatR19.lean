/- Parts of the proof: Kc, Kd, Ke. -/
import Derived.Test.YtjcbeinpkafjiaaGreatR18
set_option linter.all false
set_option maxRecDepth 10000
section
namespace Go.Proofs
open Go Go.E Go.Sort Go.Proofs.Tryz
section
variable {k:aq} {d w:World}
theorem HC {g n cap p cw u a:Nat} {c:List KR} {x:KR} {q:aq} (o:w.ownsRow 0 256 3 (.slice (some ⟨g,0,none⟩) n cap) n (flat c)) (hg:x.good d) (hp:u * 3=p) (hn:c.length=n) (hl:u+a < n) (hr:a+1≤cw)
    (hk:∀ w',w'.ownsRow 0 256 3 (.slice (some ⟨g,0,none⟩) n cap) n (flat (c.set (u+a) x))→Keep (fun b _=>b=g) w w'→q (.slice (some ⟨g,p,none⟩) (a+1) cw) w') :
    pe prog #[110,110] 110 #[.slice (some ⟨g,p,none⟩) a cw,.slice (some ⟨w.heap.size,0,none⟩) 1 1] q (w.alloc (.cells x.cells.toArray 256)).drew:=by
 obtain ⟨w5,hw5⟩:∃ w5,w5=w.alloc (.cells x.cells.toArray 256):=⟨_,rfl⟩
 rw [← hw5]
 have k5:bY w w5:=by rw [hw5]; exact aL _
 have o5:w5.drew.ownsRow 0 256 3 (.slice (some ⟨g,0,none⟩) n cap) n (flat c):=(aZ o k5 (fun _ _ _ h=>h)).drew
 have hfl:=fq c
 have e:=ov (P:=prog) (k:=q) (w:=w5.drew) (by_:=56) (t:=110) (ty:=110) (news:=x.cells) (m:=1) (c:=1) (cap:=cw) (b:=g) (off:=p) (n:=a) (a:=⟨w.heap.size,0,none⟩) rw110 rfl (by
     intro j u hj
     rw [dm rfl,Nat.zero_add,hw5]
     rw [show (w.alloc (Obj.cells x.cells.toArray 256)).drew.cell? ⟨w.heap.size,j,none⟩=(w.alloc (Obj.cells x.cells.toArray 256)).cell? ⟨w.heap.size,j,none⟩ from rfl]
     refine al ?_
     simpa using hj) (fQ hg) hr (by
     intro j hj
     have hj:j < 3:=hj
     have:(flat c)[p+a * 3+j]? = some (flat c)[p+a * 3+j]:=aC (by omega)
     exact ⟨_,av o5 this⟩) (fun o=>cS o5 rfl o)
 rw [e]
 refine hk _ ?_ ((k5.keep.drew).trans (nG fun _=>rfl))
 have:=bp (bp (bp o5 ((u+a) * 3) (.int .u64 x.k.tr)) ((u+a) * 3+1) x.sv) ((u+a) * 3+2) x.vv
 rw [ik c (u+a) x (by omega)] at this
 rw [show p+a * 3=(u+a) * 3 by omega]
 exact this
set_option maxHeartbeats 1000000 in
theorem tY {Hb ho g n cap p q cw cs u s snap:Nat} {c l:List KR} (hc:w.cell? ⟨Hb,ho,none⟩=some (.func (.func 102) #[] #[])) (hh:w.cell? ⟨Hb,ho+1,none⟩=some (.slice (some ⟨g,p,none⟩) 0 cw)) (hp:u * 3=p) (hq:s * 3=q)
    (ho0:w.ownsRow 0 256 3 (.slice (some ⟨g,0,none⟩) n cap) n (flat c)) (hcn:c.length=n) (hf:∀ x,w.frozen? ⟨Hb,x,none⟩=false) (ne:Hb≠g) (og:cq d g) (hoH:d.cell? ⟨Hb,ho+1,none⟩=none)
    (hus:u≤s) (hsn:s+l.length≤n) (hcw:n≤u+cw) (hcl:∀ i,i < l.length→c[s+i]? = l[i]?) (hgood:∀ x ∈ c,x.good d) (hinc:bz d w) (hd:DK l) (hl:n < 100000) (hs:snap < 18446744073709551616)
    (hk:∀ w' c' r,w'.cell? ⟨Hb,ho+1,none⟩=some (.slice (some ⟨g,p,none⟩) (r++(fy snap l).toList).length cw)→w'.ownsRow 0 256 3 (.slice (some ⟨g,0,none⟩) n cap) n (flat c')→Con c' c u (s+l.length) (r++(fy snap l).toList)→(∀ x ∈ c',x.good d)→CoR snap l r→Keep (fun b x=>b=Hb∧x=ho+1∨b=g) w w'→k .nilIface w') :
    aX prog 124 #[.func (.func 103) #[] #[],.pointer (some ⟨Hb,ho,none⟩),.int .u64 snap,.slice (some ⟨g,q,none⟩) l.length cs] k w:=by
 have hgl:∀ x ∈ l,x.good d:=fun x hx=>by
  obtain ⟨i,hi,rfl⟩:=aV hx
  refine hgood _ (aJ (i:=s+i) ?_)
  rw [hcl i hi,aC hi]
 have ne':=Ne.symm ne
 have hHb:=aE hc
 have hgs:g < w.heap.size:=by
  rcases cY ho0 with ⟨e,_⟩ | ⟨g',_,e,_,h⟩
  ·simp at e
  ·simp only [aW,aK,Addr.mk.injEq] at e
   rw [e.1.1]; exact h
 refine ai [.tmp 8] func124 ?_
 refine al ?_
 refine gm (fun di:Int=>[(0,.func (.func 103) #[] #[]),(1,.pointer (some ⟨Hb,ho,none⟩)),(3,.slice (some ⟨g,q,none⟩) l.length cs),(9,.int .i64 di)]) (fun di w1=>∃ c1,w1.cell? ⟨Hb,ho+1,none⟩=some (.slice (some ⟨g,p,none⟩) (fw snap l).length cw)∧w1.ownsRow 0 256 3 (.slice (some ⟨g,0,none⟩) n cap) n (flat c1)∧(∀ x ∈ c1,x.good d)∧Keep (fun b x=>b=Hb∧x=ho+1∨b=g) w w1 ∧
     ((di = -1∧fy snap l=none∧Con c1 c u (s+l.length) (fw snap l))∨∃ i:Nat,di=i∧l[i]? = fy snap l∧i < l.length∧Con c1 c u (s+i) (fw snap l))) (by kernel_rfl) (fun K hK => ?_) ?_
 ·refine bO (fun i:Nat=>[(0,.func (.func 103) #[] #[]),(1,.pointer (some ⟨Hb,ho,none⟩)),(2,.int .u64 snap),(3,.slice (some ⟨g,q,none⟩) l.length cs),(9,.int .i64 (-1)),(16,.int .i64 l.length),(17,.int .i64 i)])
    (fun i w1=>∃ c1 acc,w1.cell? ⟨Hb,ho+1,none⟩=some (.slice (some ⟨g,p,none⟩) acc.length cw)∧w1.ownsRow 0 256 3 (.slice (some ⟨g,0,none⟩) n cap) n (flat c1)∧(∀ x ∈ c1,x.good d)∧Keep (fun b x=>b=Hb∧x=ho+1∨b=g) w w1∧Con c1 c u (s+i) acc∧fw snap l=acc++fw snap (l.drop i)∧fy snap l=fy snap (l.drop i)∧i≤l.length) (fun i _=>l.length - i) 0 (by kernel_rfl) ?_ ⟨c,[],hh,ho0,hgood,Keep.refl _ w,(Con.refl (by omega)).mono (by omega) (by omega),rfl,rfl,aQ _⟩ ?_
  ·exact bE
  rintro K2 e2 i w1 ⟨c1,acc,h1,h1o,h1g,h2,h3,h4,h5,h6⟩ hK2
  have hc1n:c1.length=n:=h3.len.trans hcn
  by_cases hi:i < l.length
  ·have hi':(i:Int) < l.length:=by omega
   obtain ⟨x,hx⟩:∃ x,l[i]? = some x:=⟨l[i],aC hi⟩
   have hg:=hgl x (aJ hx)
   obtain ⟨a,na,b,nb,q1,q2⟩:=hg.form
   have hv:x.v = .agg [.int .u64 x.k.tr,.slice a x.k.suf.length na,.slice b x.k.val.length nb].toArray:=by unfold KR.v; rw [q1,q2]
   have hcx:c1[s+i]? = some x:=by rw [h3.at (aD _),hcl i hi,hx]
   obtain ⟨f1,f2,f3⟩:=dz hcx
   rw [show (s+i) * 3=q+i * 3 by omega] at f1 f2 f3
   have c1':=av h1o f1
   have c2:=av h1o f2
   have c3:=av h1o f3
   rw [q1] at c2
   rw [q2] at c3
   have hdrop:l.drop i=x :: l.drop (i+1):=by
    rw [cN hi]
    congr 1
    rw [aC hi] at hx
    exact bQ hx
   rw [hdrop,uU] at h4
   rw [hdrop,qB] at h5
   refine bf @hi' ?_
   refine ay (sq [0,1,2,3,4,5,6,7,8] (.read 9 (sq [10,11,12,13,14] (.read 15 (sq [16,17] .done))))) ?_
   refine eI @c1' @c2 @c3 ?_
   rw [← hv]
   refine mw hg hs fun w2 x2 => ?_
   have x2:bY w1 w2:=(Keep.refl _ w1).drew.trans x2
   have x2':=x2
   cases hvis:fu snap x.k.tr with
   | false =>
    rw [hvis,if_neg (by simp)] at h4 h5
    refine al ?_
    refine hK2 _ _ (i+1) ?_ ⟨c1,acc,x2.cell h1,aZ h1o x2 (fun _ _ _ h=>h),h1g,h2.trans x2.keep,h3.mono (by omega) (by omega),h4,h5,by omega⟩ (by omega)
    exact bE
   | true =>
    rw [hvis,if_pos rfl] at h4 h5
    have c1':=x2.cell c1'
    have c2:=x2.cell c2
    have c3:=x2.cell c3
    refine eI @c1' @c2 @c3 ?_
    rw [← hv]
    refine l9 hg fun w3 x3 => ?_
    have x3':bY w1 w3:=x2'.trans x3
    by_cases h9:an x.k.tr=19
    ·have h9':(((an x.k.tr:Nat):Int) == 19)=true:=by rw [h9]; rfl
     rw [if_pos h9] at h4 h5
     rw [au] at h4
     refine bf @h9' ?_
     refine hK _ _ (i:Int) ?_ ⟨c1,?_,aZ h1o x3' (fun _ _ _ h=>h),h1g,h2.trans x3'.keep,.inr ⟨i,rfl,by rw [h5,hx],hi,by rw [h4]; exact h3⟩⟩
     ·exact bE
     ·rw [h4]
      exact x3'.cell h1
    ·have h9':(((an x.k.tr:Nat):Int) == 19)=false:=by
       rw [beq_eq_false_iff_ne]; omega
     rw [if_neg h9] at h4 h5
     have c1':=x3.cell c1'
     have c2:=x3.cell c2
     have c3:=x3.cell c3
     have c4:=x3'.cell h1
     have hHb3:=aE c4
     have o3:=aZ h1o x3' (fun _ _ _ h=>h)
     have fH:∀ x,w3.frozen? ⟨Hb,x,none⟩=false:=fun x=>by rw [x3'.frozen Hb x (aE h1),h2.frozen Hb x hHb]; exact hf x
     refine bf @h9' ?_
     refine ay (sq [0,1,2,3] (.read 4 (sq [5,6,7] (.read 8 (.eff 9 [4] (.eff 10 [] (sq [11,12] (.eff 13 [] .done)))))))) ?_
     refine fW @c1' @c2 @c3 @c4 ?_
     have hcells : #[Value.int IntKind.u64 x.k.tr,Value.slice a x.k.suf.length na,Value.slice b x.k.val.length nb]=x.cells.toArray:=by unfold KR.cells; rw [q1,q2]
     have hxc:Value.agg x.cells.toArray = .agg [.int .u64 x.k.tr,.slice a x.k.suf.length na,.slice b x.k.val.length nb].toArray:=by unfold KR.cells; rw [q1,q2]
     rw [hcells]
     have hle:=h3.le
     refine HC o3 hg hp hc1n (by omega) (by omega) fun w5 o5 k35 => ?_
     have hset:c1.set (u+acc.length) x=c1.set (u+acc.length) x:=rfl
     have n3:=h3.mono (t2:=s+(i+1)) (by omega) (by omega)
     have n5:=n3.app (x:=x) (by omega)
     have hcx5:(c1.set (u+acc.length) x)[s+i]? = some x:=by
      by_cases he:u+acc.length=s+i
      ·rw [he,List.getElem?_set_self (by omega)]
      ·rw [List.getElem?_set_ne he]; exact hcx
     obtain ⟨f1,f2,f3⟩:=dz hcx5
     rw [show (s+i) * 3=q+i * 3 by omega] at f1 f2 f3
     have c1':=av o5 f1
     have c2:=av o5 f2
     have c3:=av o5 f3
     rw [q1] at c2
     rw [q2] at c3
     have c4:=k35.some c4 ne
     have fH5:∀ x,w5.frozen? ⟨Hb,x,none⟩=false:=fun x=>by rw [k35.frozen Hb x hHb3]; exact fH x
     rw [hxc]
     refine gH @c1' @c2 @c3 @c4 @fH5 ?_
     refine hK2 _ _ (i+1) ?_ ⟨c1.set (u+acc.length) x,acc++[x],?_,aZ o5 (bR (M:=fun b o=>b=Hb∧o=ho+1) ⟨rfl,rfl⟩) fun g' hg' o h => ?_,fun y hy => ?_,((h2.trans x3'.keep).trans (k35.mono fun b o _ h => .inr h)).set (fun _ => .inl ⟨rfl,rfl⟩),n5,?_,h5,by omega⟩ (by omega)
     ·exact bE
     ·rw [aM,aY]; exact bb @c4
     ·simp only [Value.ownBlock,aK] at hg'
      exact ne (h.1.symm.trans hg'.symm)
     ·rcases List.mem_or_eq_of_mem_set hy with h | rfl
      ·exact h1g y h
      ·exact hg
     ·rw [h4,bt]; rfl
  ·have hi':¬ (i:Int) < l.length:=by omega
   obtain rfl:i=l.length:=by omega
   rw [List.drop_length] at h4 h5
   rw [show fw snap []=[] from rfl,au] at h4
   refine bf @hi' ?_
   refine hK _ _ (-1) ?_ ⟨c1,?_,h1o,h1g,h2,.inl ⟨rfl,h5,by rw [h4]; exact h3⟩⟩
   ·exact bE
   ·rw [h4]; exact h1
 rintro e1 di w1 ⟨c1,h1,h1o,h1g,h2,hdi⟩
 have hc1:w1.cell? ⟨Hb,ho,none⟩=some (.func (.func 102) #[] #[]):=h2.some hc (by
  rintro (⟨_,h⟩ | h)
  ·omega
  ·exact ne h)
 obtain ⟨t,ht1,ht2,hdi⟩:∃ t,Con c1 c u t (fw snap l)∧t≤s+l.length∧((di = -1∧fy snap l=none)∨∃ i:Nat,di=i∧l[i]? = fy snap l∧i < l.length∧t=s+i):=by
  rcases hdi with ⟨a,b,h⟩ | ⟨i,a,b,e,h⟩
  ·exact ⟨_,h,aD _,.inl ⟨a,b⟩⟩
  ·exact ⟨_,h,by omega,.inr ⟨i,a,b,e,rfl⟩⟩
 have hul:=ht1.ul
 have hinc1:bz d w1:=hinc.keep h2 fun b o hb=>by
  rcases hb with ⟨rfl,rfl⟩ | rfl
  ·exact hoH
  ·exact og o
 have hpl:(fw snap l).length≤l.length:=kB.length_le
 have hsz1:=h2.size
 have hsp:=ht1.split
 have W1:KWin d w1 w1 Hb (ho+1) g n cap p cw (c.take u) (c1.drop (u+(fw snap l).length)) (fw snap l).toArray :=
  ⟨by simpa using h1,by rw [hul]; exact hp,by rw [List.toList_toArray,hsp]; exact h1o,fun x hx=>by
   obtain ⟨i,hi,rfl⟩:=aV hx
   have hi:i < (fw snap l).length:=hi
   refine h1g _ (aJ (i:=u+i) ?_)
   rw [ht1.get hi,aC hi],Keep.refl _ w1,hinc1,by omega,by omega,ne,og⟩
 refine al ?_
 refine yE (tag:=fun x=>18446744073709551616 - x.k.tr) W1 hc1 (Db (snap:=snap) (l:=l) (by simp) hd fun x hx=>(hgl x hx).1) (by omega) fun w2 a h4 h5 h6 => ?_
 have hcr:CoR snap l (nz none a):=by
  have:=Da (snap:=snap) (l:=l) (a:=(fw snap l).toArray) (b:=a.toArray) (by simp) (by simpa using h5) fun x hx=>(hgl x hx).1
  simpa using this
 have k2:=h4.keep
 have h4H:w2.cell? ⟨Hb,ho+1,none⟩=some (.slice (some ⟨g,p,none⟩) a.length cw):=by simpa using h4.hd
 have fH2:∀ x,w2.frozen? ⟨Hb,x,none⟩=false:=fun x=>by rw [k2.frozen Hb x (aE h1),h2.frozen Hb x hHb]; exact hf x
 have hca:=ht1.sort (s:=a) h6
 obtain ⟨c2,hc2⟩:∃ c2,c2=c.take u++a++c1.drop (u+(fw snap l).length):=⟨_,rfl⟩
 rw [← hc2] at hca
 have h4o:w2.ownsRow 0 256 3 (.slice (some ⟨g,0,none⟩) n cap) n (flat c2):=by rw [hc2]; simpa using h4.own
 have h4g:∀ x ∈ c2,x.good d:=fun x hx=>by
  rw [hc2] at hx
  rcases ax.1 hx with hx | hx
  ·rcases ax.1 hx with hx | hx
   ·exact hgood x (List.mem_of_mem_take hx)
   ·exact h4.good x (by simpa using hx)
  ·exact h1g x (List.mem_of_mem_drop hx)
 have k02:Keep (fun b x=>b=Hb∧x=ho+1∨b=g) w w2:=h2.trans (k2.mono fun b o _ h => .inr h)
 obtain ⟨m,hm⟩:∃ m,m=a.length:=⟨_,rfl⟩
 have hml:m≤l.length:=by omega
 have hcale:=hca.le
 have z0:(0:Int).toNat=0:=rfl
 have zc:(0:Int)≤cw:=by omega
 rw [← hm] at h4H hcale
 simp (disch:=first | exact dZ | fail) only [go_sem,h4H,sD Tryz.es110,z0,zc,fH2]
 obtain ⟨w3,hw3⟩:∃ w3,w3=w2.setCell ⟨Hb,ho+1,none⟩ (.slice (some ⟨g,p,none⟩) 0 cw):=⟨_,rfl⟩
 rw [← hw3]
 have k23:Keep (fun b o=>b=Hb∧o=ho+1) w2 w3:=by rw [hw3]; exact bR ⟨rfl,rfl⟩
 have h3H:w3.cell? ⟨Hb,ho+1,none⟩=some (.slice (some ⟨g,p,none⟩) 0 cw):=by rw [hw3]; exact bb @h4H
 have o3:w3.ownsRow 0 256 3 (.slice (some ⟨g,0,none⟩) n cap) n (flat c2):=aZ h4o k23 fun g' hg' o he=>by
  simp only [Value.ownBlock,aK] at hg'
  exact ne (he.1.symm.trans hg'.symm)
 refine bO (fun x:Nat × Value × Bool=>[(0,.func (.func 103) #[] #[]),(1,.pointer (some ⟨Hb,ho,none⟩)),(3,.slice (some ⟨g,q,none⟩) l.length cs),(9,.int .i64 di),(11,.slice (some ⟨g,p,none⟩) m cw),(12,x.2.1),(13,.bool x.2.2),(83,.int .i64 m),(84,.int .i64 x.1)])
  (fun x w'=>∃ cc e dd,w'.cell? ⟨Hb,ho+1,none⟩=some (.slice (some ⟨g,p,none⟩) (if x.2.2 then dd.length else 0) cw)∧w'.ownsRow 0 256 3 (.slice (some ⟨g,0,none⟩) n cap) n (flat cc)∧(∀ y ∈ cc,y.good d)∧Con cc c u t e∧e.length=m∧e.take dd.length=dd∧e.drop x.1=a.drop x.1∧dd.length≤x.1∧(x.2.2=false→dd.length=x.1)∧(x.2.2=true→dd.length < x.1) ∧
   nz none a=dd++nz (if x.1=0 then none else some a[x.1 - 1]!.k.suf) (a.drop x.1)∧(0 < x.1→fV d x.2.1 a[x.1 - 1]!.k.suf)∧Keep (fun b x=>b=Hb∧x=ho+1∨b=g) w2 w'∧x.1≤m)
  (fun x _=>m - x.1) (0,.slice none 0 0,false) (by kernel_rfl) ?_ ⟨c2,a,[],h3H,o3,h4g,hca,hm.symm,rfl,rfl,aD _,fun _=>rfl,fun h=>by simp at h,rfl,fun h=>by simp at h,k23.mono fun b o _ h => .inl h,aQ _⟩ ?_
 ·exact bE
 rintro K e2 ⟨i,pv,sh⟩ w4 ⟨cc,e,dd,i1,i2,i3,i3c,i4,i5,i6,i7,i8,i9,i10,i11,i12,i13⟩ hK
 simp only at i1 i2 i3 i3c i4 i5 i6 i7 i8 i9 i10 i11 i12 i13
 have hccn:cc.length=n:=i3c.len.trans hcn
 have fH4:∀ x,w4.frozen? ⟨Hb,x,none⟩=false:=fun x=>by rw [i12.frozen Hb x (aE h4H)]; exact fH2 x
 have hi3le:=i3c.le
 have hi3tn:=i3c.tn
 by_cases hi:i < m
 ·have hi':(i:Int) < m:=by omega
  obtain ⟨x,hx⟩:∃ x,a[i]? = some x:=⟨a[i],aC (by omega)⟩
  have hx2:a[i]! = x:=by rw [getElem!_def,hx]
  have hex:e[i]? = some x:=by
   have:=congrArg (fun l=>l[0]?) i6
   simpa [hx] using this
  have hcx:cc[u+i]? = some x:=by rw [i3c.get (by omega),hex]
  have hg:=i3 x (aJ hcx)
  obtain ⟨aa,na,b,nb,q1,q2⟩:=hg.form
  obtain ⟨f1,f2,f3⟩:=dz hcx
  rw [show (u+i) * 3=p+i * 3 by omega] at f1 f2 f3
  have c1':=av i2 f1
  have c2':=av i2 f2
  have c3:=av i2 f3
  rw [q1] at c2'
  rw [q2] at c3
  have hdrop:a.drop i=x :: a.drop (i+1):=by
   rw [cN (by omega)]
   congr 1
   rw [aC (by omega)] at hx
   exact bQ hx
  have hinc4:bz d w4:=(hinc.keep k02 fun b o hb=>by
   rcases hb with ⟨rfl,rfl⟩ | rfl
   ·exact hoH
   ·exact og o).keep i12 fun b o hb=>by
    rcases hb with ⟨rfl,rfl⟩ | rfl
    ·exact hoH
    ·exact og o
  have hd6:e.drop (i+1)=a.drop (i+1):=by
   have:=congrArg (List.drop 1) i6
   simpa [Nat.add_comm] using this
  have od:∀ v,(w4.setCell ⟨Hb,ho+1,none⟩ v).ownsRow 0 256 3 (.slice (some ⟨g,0,none⟩) n cap) n (flat cc):=fun v=>aZ i2 (bR (M:=fun b o=>b=Hb∧o=ho+1) ⟨rfl,rfl⟩) fun g' hg' o h=>by
   simp only [Value.ownBlock,aK] at hg'
   exact ne (h.1.symm.trans hg'.symm)
  by_cases h0:i=0
  ·subst h0
   have hsh:sh=false:=by
    cases sh with
    | false=>rfl
    | true=>have:=i9 rfl; omega
   subst hsh
   have hdd:dd=[]:=ao.1 (by omega)
   subst hdd
   have z00:¬ (0:Int) < ((0:Nat):Int):=by decide
   refine gH @hi' @z00 @c1' @c2' @c3 ?_
   refine hK _ _ (1,.slice aa x.k.suf.length na,false) ?_ ⟨cc,e,[x],by simpa using i1,i2,i3,i3c,i4,?_,hd6,aD _,fun _=>rfl,fun h=>by simp at h,?_,fun _ => ?_,i12,by simp only; omega⟩ (by simp only; omega)
   ·exact bE
   ·have:e=x :: e.drop 1:=by
      cases e with
      | nil=>simp at hex
      | cons y c=>simp at hex; simp [hex]
    rw [this]; rfl
   ·rw [i10,if_pos rfl,hdrop]
    simp [nz,hx2]
   ·simp only
    rw [show 1 - 1=0 from rfl,hx2,← q1]
    exact hg.2.1
  ·have h0':(0:Int) < i:=by omega
   rw [if_neg h0] at i10
   have i11:=i11 (by omega)
   refine gH @hi' @h0' @c1' @c2' @c3 ?_
   refine ga (i11.inc hinc4) (by rw [← q1]; exact hg.2.1.inc hinc4) ?_
   by_cases he:a[i - 1]!.k.suf=x.k.suf
   ·rw [aO he]
    rw [hdrop] at i10
    have i10':nz none a=dd++nz (some a[i - 1]!.k.suf) (a.drop (i+1)):=by
     rw [i10]
     congr 1
     conv=>lhs; unfold nz
     rw [if_pos (by rw [he])]
    have e1:i+1 - 1=i:=by omega
    cases sh with
    | false =>
     have hl:=i8 rfl
     have z1:(0:Int)≤i:=by omega
     have z2:(i:Int)≤cw:=by omega
     simp only [Bool.false_eq_true,if_false] at i1
     simp (disch:=first | exact dZ | fail) only [go_sem,i1,sD Tryz.es110,z1,z2,fH4]
     refine hK _ _ (i+1,pv,true) ?_ ⟨cc,e,dd,?_,od _,i3,i3c,i4,i5,hd6,by simp only; omega,fun h=>by simp at h,fun _=>by simp only; omega,?_,fun _ => ?_,i12.set (fun _ => .inl ⟨rfl,rfl⟩),by simp only; omega⟩ (by simp only; omega)
     ·exact bE
     ·rw [hl]; exact bb @i1
     ·simp only
      rw [if_neg (by omega),e1,hx2,i10',he]
     ·simp only
      rw [e1,hx2,← he]; exact i11
    | true =>
     have hl:=i9 rfl
     refine al ?_
     refine hK _ _ (i+1,pv,true) ?_ ⟨cc,e,dd,i1,i2,i3,i3c,i4,i5,hd6,by simp only; omega,fun h=>by simp at h,fun _=>by simp only; omega,?_,fun _ => ?_,i12,by simp only; omega⟩ (by simp only; omega)
     ·exact bE
     ·simp only
      rw [if_neg (by omega),e1,hx2,i10',he]
     ·simp only
      rw [e1,hx2,← he]; exact i11
   ·rw [aF he]
    rw [hdrop] at i10
    have i10':nz none a=(dd++[x])++nz (some x.k.suf) (a.drop (i+1)):=by
     rw [i10,bt]
     congr 1
     conv=>lhs; unfold nz
     rw [if_neg (by simpa using he)]
     rfl
    have e1:i+1 - 1=i:=by omega
    cases sh with
    | false =>
     have hl:=i8 rfl
     simp only [Bool.false_eq_true,if_false] at i1
     refine eI @c1' @c2' @c3 ?_
     refine hK _ _ (i+1,.slice aa x.k.suf.length na,false) ?_ ⟨cc,e,dd++[x],by simpa using i1,i2,i3,i3c,i4,?_,hd6,by simp; omega,fun _=>by simp; omega,fun h=>by simp at h,?_,fun _ => ?_,i12,by simp only; omega⟩ (by simp only; omega)
     ·exact bE
     ·rw [aM,aY,List.take_add_one,i5,hl,hex]; rfl
     ·simp only
      rw [if_neg (by omega),e1,hx2,i10']
     ·simp only
      rw [e1,hx2,← q1]; exact hg.2.1
    | true =>
     have hl:=i9 rfl
     simp only [if_true] at i1
     have hHb4:=aE i1
     refine eI @c1' @c2' @c3 ?_
     refine ay (sq [0,1,2,3] (.read 4 (sq [5,6,7] (.read 8 (.eff 9 [4] (.eff 10 [] (sq [11,12] (.eff 13 [] .done)))))))) ?_
     refine fW @c1' @c2' @c3 @i1 ?_
     have hcells : #[Value.int IntKind.u64 x.k.tr,Value.slice aa x.k.suf.length na,Value.slice b x.k.val.length nb]=x.cells.toArray:=by unfold KR.cells; rw [q1,q2]
     have hxc:Value.agg x.cells.toArray = .agg [.int .u64 x.k.tr,.slice aa x.k.suf.length na,.slice b x.k.val.length nb].toArray:=by unfold KR.cells; rw [q1,q2]
     rw [hcells]
     refine HC i2 hg hp hccn (by omega) (by omega) fun w5 o5 k45 => ?_
     have hcx5:(cc.set (u+dd.length) x)[u+i]? = some x:=by
      rw [List.getElem?_set_ne (by omega)]; exact hcx
     obtain ⟨f1,f2,f3⟩:=dz hcx5
     rw [show (u+i) * 3=p+i * 3 by omega] at f1 f2 f3
     have m1:=av o5 f1
     have m2:=av o5 f2
     have m3:=av o5 f3
     rw [q1] at m2
     rw [q2] at m3
     have m4:=k45.some i1 ne
     have m5:∀ o,w5.frozen? ⟨Hb,o,none⟩=false:=fun o=>by rw [k45.frozen Hb o hHb4]; exact fH4 o
     rw [hxc]
     refine gH @m1 @m2 @m3 @m4 @m5 ?_
     refine hK _ _ (i+1,.slice aa x.k.suf.length na,true) ?_ ⟨cc.set (u+dd.length) x,e.set dd.length x,dd++[x],?_,aZ o5 (bR (M:=fun b o=>b=Hb∧o=ho+1) ⟨rfl,rfl⟩) fun g' hg' o h => ?_,fun y hy => ?_,i3c.set (by omega),by simpa using i4,?_,?_,by simp; omega,fun h=>by simp at h,fun _=>by simp; omega,?_,fun _ => ?_,(i12.trans (k45.mono fun b o _ h => .inr h)).set (fun _ => .inl ⟨rfl,rfl⟩),by simp only; omega⟩ (by simp only; omega)
     ·exact bE
     ·simp only [if_true,aM,aY]
      exact bb @m4
     ·simp only [Value.ownBlock,aK] at hg'
      exact ne (h.1.symm.trans hg'.symm)
     ·rcases List.mem_or_eq_of_mem_set hy with h | rfl
      ·exact i3 y h
      ·exact hg
     ·rw [aM,aY,List.take_add_one,List.take_set_of_le (aD _),i5,List.getElem?_set_self (by omega)]; rfl
     ·simp only
      rw [List.drop_set_of_lt (by omega)]; exact hd6
     ·simp only
      rw [if_neg (by omega),e1,hx2,i10']
     ·simp only
      rw [e1,hx2,← q1]; exact hg.2.1
 ·have hi':¬ (i:Int) < m:=by omega
  obtain rfl:i=m:=by omega
  rw [hm,List.drop_length,show ∀ q,nz q []=[] from fun q=>by cases q <;> rfl,au] at i10
  have k24:Keep (fun b x=>b=Hb∧x=ho+1∨b=g) w w4:=k02.trans i12
  have hddl:dd.length≤e.length:=by
   have:dd.length=(e.take dd.length).length:=by rw [i5]
   rw [ar] at this
   omega
  have hcd:Con cc c u t dd:=by rw [← i5]; exact i3c.take
  refine bf @hi' ?_
  refine rC (fun _:Unit=>[(1,.pointer (some ⟨Hb,ho,none⟩)),(3,.slice (some ⟨g,q,none⟩) l.length cs),(9,.int .i64 di)]) (fun _ w'=>w'.cell? ⟨Hb,ho+1,none⟩=some (.slice (some ⟨g,p,none⟩) dd.length cw)∧w'.ownsRow 0 256 3 (.slice (some ⟨g,0,none⟩) n cap) n (flat cc)∧Keep (fun b x=>b=Hb∧x=ho+1∨b=g) w w') (by kernel_rfl) (by kernel_rfl) (fun K2 hK2 => ?_) ?_
  ·cases sh with
   | true =>
    simp only [if_true] at i1
    refine al ?_
    refine hK2 _ _ () ?_ ⟨i1,i2,k24⟩
    exact bE
   | false =>
    simp only [Bool.false_eq_true,if_false] at i1
    have hl:=i8 rfl
    refine dV @i1 @fH4 ?_
    refine hK2 _ _ () ?_ ⟨?_,aZ i2 (bR (M:=fun b o=>b=Hb∧o=ho+1) ⟨rfl,rfl⟩) fun g' hg' o h => ?_,k24.set (fun _ => .inl ⟨rfl,rfl⟩)⟩
    ·exact bE
    ·rw [hl]; exact bb @i1
    ·simp only [Value.ownBlock,aK] at hg'
     exact ne (h.1.symm.trans hg'.symm)
  ·rintro e5 _ w5 ⟨t1,t2,t3⟩
   have hcr':CoR snap l dd:=by rw [← i10]; exact hcr
   rcases hdi with ⟨rfl,hdn⟩ | ⟨z,rfl,hdq,hql,rfl⟩
   ·refine al ?_
    rw [hdn] at hk
    refine hk w5 cc dd (by simpa using t1) t2 ?_ i3 hcr' t3
    simpa using hcd.mono ht2 (by omega)
   ·obtain ⟨x,hx⟩:∃ x,l[z]? = some x:=⟨l[z],aC hql⟩
    rw [hx] at hdq
    have hg:=hgl x (aJ hx)
    have hcx:cc[s+z]? = some x:=by rw [i3c.at (aD _),hcl z hql,hx]
    obtain ⟨f1,f2,f3⟩:=dz hcx
    rw [show (s+z) * 3=q+z * 3 by omega] at f1 f2 f3
    have c1':=av t2 f1
    have c2':=av t2 f2
    have c3:=av t2 f3
    obtain ⟨aa,na,b,nb,q1,q2⟩:=hg.form
    rw [q1] at c2'
    rw [q2] at c3
    have hq0:(0:Int)≤z:=by omega
    have hq':(z:Int) < l.length:=by omega
    have hHb5:=aE t1
    have fH5:∀ x,w5.frozen? ⟨Hb,x,none⟩=false:=fun x=>by rw [t3.frozen Hb x hHb]; exact hf x
    refine bf @hq0 ?_
    refine ay (sq [0,1,2,3] (.read 4 (sq [5,6,7] (.read 8 (.eff 9 [4] (.eff 10 [] (sq [11,12] (.eff 13 [] .done)))))))) ?_
    refine gH @c1' @c2' @c3 @t1 @hq' ?_
    have hcells : #[Value.int IntKind.u64 x.k.tr,Value.slice aa x.k.suf.length na,Value.slice b x.k.val.length nb]=x.cells.toArray:=by unfold KR.cells; rw [q1,q2]
    have hxc:Value.agg x.cells.toArray = .agg [.int .u64 x.k.tr,.slice aa x.k.suf.length na,.slice b x.k.val.length nb].toArray:=by unfold KR.cells; rw [q1,q2]
    rw [hcells]
    have hdle:=hcd.le
    refine HC t2 hg hp hccn (by omega) (by omega) fun w6 o6 k6 => ?_
    have hcx6:(cc.set (u+dd.length) x)[s+z]? = some x:=by
     by_cases he:u+dd.length=s+z
     ·rw [he,List.getElem?_set_self (by omega)]
     ·rw [List.getElem?_set_ne he]; exact hcx
    obtain ⟨f1,f2,f3⟩:=dz hcx6
    rw [show (s+z) * 3=q+z * 3 by omega] at f1 f2 f3
    have c1':=av o6 f1
    have c2':=av o6 f2
    have c3:=av o6 f3
    rw [q1] at c2'
    rw [q2] at c3
    have c4:=k6.some t1 ne
    have fH6:∀ x,w6.frozen? ⟨Hb,x,none⟩=false:=fun x=>by rw [k6.frozen Hb x hHb5]; exact fH5 x
    rw [hxc]
    refine gH @c1' @c2' @c3 @c4 @fH6 ?_
    refine hk _ (cc.set (u+dd.length) x) dd ?_ (aZ o6 (bR (M:=fun b o=>b=Hb∧o=ho+1) ⟨rfl,rfl⟩) fun g' hg' o h => ?_) ?_ (fun y hy => ?_) hcr' ((t3.trans (k6.mono fun b o _ h => .inr h)).set (fun _ => .inl ⟨rfl,rfl⟩))
    ·rw [← hdq]
     simp only [Option.toList_some,aM,aY]
     exact bb @c4
    ·simp only [Value.ownBlock,aK] at hg'
     exact ne (h.1.symm.trans hg'.symm)
    ·rw [← hdq]
     exact (hcd.mono ht2 (by omega)).app (by omega)
    ·rcases List.mem_or_eq_of_mem_set hy with h | rfl
     ·exact i3 y h
     ·exact hg
end
end Go.Proofs
end
section
namespace Go.E
open Go Go.Sort Go.Proofs Go.Proofs.Tryz
theorem dO {w:World} {c:Array Value} {t:TypeId} {b o:Nat} (h:w.heap.size≤b) (h2:b < w.heap.size+1):(w.alloc (.cells c t)).frozen? ⟨b,o,none⟩=false:=by
 obtain rfl:b=w.heap.size:=by omega
 rw [World.frozen?_alloc_new]
end Go.E
namespace Go.Proofs
open Go Go.E Go.Sort Go.Proofs.Tryz
section
variable {k:aq} {d w:World}
theorem tZ {Hb ho g n cap p cw:Nat} {pre post l:List KR} (h:KWin d w w Hb ho g n cap p cw pre post l.toArray) (hz:l.length < 1000000)
    (hk:∀ w' (l':List KR),KWin d w w' Hb ho g n cap p cw pre post l'.toArray→l'.length=l.length→l'.map KR.k=mB (l.map KR.k)→k (.tuple #[]) w') :
    aX prog 125 #[.pointer (some ⟨Hb,ho,none⟩)] k w:=by
 refine ai [] func125 ?_
 refine al ?_
 refine zj h hz fun w' l' h1 h2 h3 => ?_
 refine al ?_
 exact hk w' l' h1 h2 h3
set_option maxHeartbeats 1000000 in
theorem nH {D g n cap p q cw cs u s e:Nat} {c l:List KR} (cD:w.cell? ⟨D,0,none⟩=some (.slice (some ⟨g,p,none⟩) e cw)) (fD:∀ y,w.frozen? ⟨D,y,none⟩=false) (oD:cq d D) (hp:u * 3=p) (hq:s * 3=q)
    (ho0:w.ownsRow 0 256 3 (.slice (some ⟨g,0,none⟩) n cap) n (flat c)) (hcn:c.length=n) (ne:D≠g) (og:cq d g)
    (hus:u≤s) (hsn:s+l.length≤n) (hcw:n≤u+cw) (hcl:∀ i,i < l.length→c[s+i]? = l[i]?) (hgood:∀ x ∈ c,x.good d) (hinc:bz d w) (hd:DK l) (hl:n < 100000)
    (hk:∀ w' c' R r,w'.cell? ⟨D,0,none⟩=some (.slice (some ⟨g,p,none⟩) R.length cw)→w'.ownsRow 0 256 3 (.slice (some ⟨g,0,none⟩) n cap) n (flat c')→Con c' c u (s+l.length) R→(∀ x ∈ c',x.good d)→CoR 18446744073709551615 l r→R.map KR.k=mB ((r++(fy 18446744073709551615 l).toList).map KR.k)→Keep (fun b x=>b=D∧x=0∨b=g) w w'→k .nilIface w') :
    aX prog 90 #[.func (.func 102) #[] #[],.func (.func 103) #[] #[],.slice (some ⟨g,q,none⟩) l.length cs,.pointer (some ⟨D,0,none⟩)] k w:=by
 have hDl:=aE cD
 have hgs:g < w.heap.size:=by
  rcases cY ho0 with ⟨e,_⟩ | ⟨g',_,e,_,h⟩
  ·simp at e
  ·simp only [aW,aK,Addr.mk.injEq] at e
   rw [e.1.1]; exact h
 have z0:(0:Int).toNat=0:=rfl
 have zc:(0:Int)≤(cw:Int):=by omega
 refine ai [.tmp 8] func90 ?_
 simp (disch:=first | exact dZ | fail) only [go_sem,cD,sD Tryz.es110,z0,zc]
 obtain ⟨H,hH⟩:∃ H,H=w.heap.size:=⟨_,rfl⟩
 obtain ⟨w1,hw1⟩:∃ w1,w1=w.alloc (.cells #[.func (.func 102) #[] #[],.slice (some ⟨g,p,none⟩) 0 cw] 170):=⟨_,rfl⟩
 have x1:bY w w1:=by rw [hw1]; exact aL _
 have c0:w1.cell? ⟨H,0,none⟩=some (.func (.func 102) #[] #[]):=by rw [hw1,hH]; exact bb @aA
 have c1:w1.cell? ⟨H,1,none⟩=some (.slice (some ⟨g,p,none⟩) 0 cw):=by rw [hw1,hH]; exact bb @aA
 have fH:∀ y,w1.frozen? ⟨H,y,none⟩=false:=fun y=>by rw [hw1,hH]; exact dO (aD _) (Nat.lt_succ_self _)
 rw [← hw1,← hH]
 have oH:cq d H:=hinc.out (by omega)
 have own1:=aZ ho0 x1 fun _ _ _ h=>h
 refine tY (d:=d) (ho:=0) c0 c1 hp hq own1 hcn fH (by omega) og (oH _) hus hsn hcw hcl hgood (hinc.trans x1.inc) hd hl (by decide) fun w2 c2 r h1 o2 con g2 hr kk2 => ?_
 have nD:∀ o,¬ (D=H∧o=0+1∨D=g):=by
  rintro o (⟨h,_⟩ | h)
  ·omega
  ·exact ne h
 have cD2:=kk2.some (x1.cell cD) (nD 0)
 have fD2:∀ y,w2.frozen? ⟨D,y,none⟩=false:=fun y=>by rw [kk2.frozen D y (aI hDl x1.size),x1.frozen D y hDl]; exact fD y
 have k12:Keep (fun b x=>b=D∧x=0∨b=g) w w2:=x1.keep.tr kk2 fun b o hb hm=>by
  rcases hm with ⟨h,_⟩ | h
  ·omega
  ·exact .inr h
 refine eI @h1 @cD2 @fD2 ?_
 obtain ⟨R0,hR0⟩:∃ R0,R0=r++(fy 18446744073709551615 l).toList:=⟨_,rfl⟩
 rw [← hR0] at con h1
 rw [← hR0]
 obtain ⟨w3,hw3⟩:∃ w3,w3=w2.setCell ⟨D,0,none⟩ (.slice (some ⟨g,p,none⟩) R0.length cw):=⟨_,rfl⟩
 have kk3:Keep (fun b o=>b=D∧o=0) w2 w3:=by rw [hw3]; exact bR ⟨rfl,rfl⟩
 have k13:=k12.tr (kk3.mono fun b o _ h=>(.inl h:b=D∧o=0∨b=g)) fun b o _ h=>h
 have hinc3:bz d w3:=hinc.keep k13 fun b o hm=>by
  rcases hm with ⟨rfl,rfl⟩ | rfl
  ·exact oD _
  ·exact og _
 have o3:w3.ownsRow 0 256 3 (.slice (some ⟨g,0,none⟩) n cap) n (flat c2):=aZ o2 kk3 fun g' hg' o h=>by
  simp only [Value.ownBlock,aK] at hg'
  exact ne (h.1.symm.trans hg'.symm)
 have hle:=con.le
 have htn:=con.tn
 have hul:=con.ul
 have hsp:=con.split
 have s13:=k13.size
 have W3:KWin d w3 w3 D 0 g n cap p cw (c.take u) (c2.drop (u+R0.length)) R0.toArray :=
  ⟨by rw [hw3,cC,cD2]; simp,by rw [hul]; exact hp,by rw [List.toList_toArray,hsp]; exact o3,fun x hx=>by
   obtain ⟨i,hi,rfl⟩:=aV hx
   have hi:i < R0.length:=hi
   refine g2 _ (aJ (i:=u+i) ?_)
   rw [con.get hi,aC hi],Keep.refl _ w3,hinc3,by omega,by omega,ne,og⟩
 rw [← hw3]
 refine tZ W3 (by omega) fun w4 R hW hRl hRm => ?_
 refine al ?_
 have hcs:=con.sort (s:=R) hRl
 refine hk w4 _ R r (by simpa using hW.hd) (by have:=hW.own; rwa [List.toList_toArray] at this) hcs (fun x hx => ?_) hr (by rw [hRm,hR0]) (k13.trans (hW.keep.mono fun b o _ h => .inr h))
 rcases ax.1 hx with hx | hx
 ·rcases ax.1 hx with hx | hx
  ·exact hgood x (List.mem_of_mem_take hx)
  ·exact hW.good x (by simpa using hx)
 ·exact g2 x (List.mem_of_mem_drop hx)
end
end Go.Proofs
end
section
namespace Go.E
theorem GK {a:Nat} (h:a < 36028797018963968):a &&& 36028797018963968=0:=by
 rw [show (36028797018963968:Nat)=2 ^ 55 by decide] at h ⊢
 apply Nat.eq_of_testBit_eq
 intro i
 rw [Nat.testBit_and,Nat.testBit_two_pow,Nat.zero_testBit]
 by_cases hi:55=i
 ·subst hi; rw [Nat.testBit_lt_two_pow h]; rfl
 ·simp [hi]
end Go.E
namespace Go.Proofs
open Go Go.E Go.Sort Go.Proofs.Tryz
section
variable {k:aq} {d w:World}
theorem zl {A L:Nat} {x y:Value} (cA:w.cell? ⟨A,0,none⟩=some (.bool true)) (cL:w.cell? ⟨L,0,none⟩=some (.slice none 0 0)) (hk:k (.bool true) w):aX prog 136 #[x,y,.pointer (some ⟨L,0,none⟩),.pointer (some ⟨A,0,none⟩)] k w:=by
 refine ai [.tmp 6] func136 ?_
 simp (disch:=first | exact dZ | fail) only [go_sem,cL]
 refine bO (fun _:Unit=>[(3,.pointer (some ⟨A,0,none⟩)),(9,.slice none 0 0),(10,.int .i64 ((0:Nat):Int)),(11,.int .i64 0)]) (fun _ w'=>w'=w) (fun _ _=>0) () (by kernel_rfl) ?_ rfl ?_
 ·exact bE
 rintro K e _ w1 rfl hK
 have z:¬ (0:Int) < ((0:Nat):Int):=by decide
 refine dV @z @cA ?_
 exact hk
theorem yF {a s:Nat} (ha:a < 36028797018963968) (hk:k (.bool (decide (a < s))) w):aX prog 146 #[.int .u64 a,.int .u64 s,.int .u64 72057594037927935] k w:=by
 have e:∀ {t:TypeId} {xo yo:Operand} {q:Value→Prop},cx prog .and t xo yo (.int .u64 (a:Nat)) (.int .u64 36028797018963968) q=q (.int .u64 ((0:Nat):Int)):=by
  intro t xo yo q
  have:=mU (P:=prog) (t:=t) (xo:=xo) (yo:=yo) (q:=q) (a:=a) (b:=36028797018963968) (by omega) (by decide)
  rw [show a &&& 36028797018963968=0 from GK ha] at this
  exact this
 refine ai [.tmp 6] func146 ?_
 by_cases hl:a < s
 ·have hl':(a:Int) < s:=by omega
  refine bf @hl' ?_
  rw [aO hl] at hk
  exact hk
 ·have hl':¬ (a:Int) < s:=by omega
  have h2:((a:Int) == 72057594037927935)=false:=by rw [beq_eq_false_iff_ne]; omega
  have h3:(((0:Nat):Int) != 0)=false:=rfl
  refine fW @hl' @e @h2 @h3 ?_
  rw [aF hl] at hk
  exact hk
def rS (x:K):Bool := !(an x.tr == 20 || an x.tr == 19)
set_option maxHeartbeats 1000000 in
theorem sQ {E P A L g n cap p cw u t:Nat} {c' c R:List KR} {v0 v1:Value} (cE:w.cell? ⟨E,0,none⟩=some (.func (.func 136) #[] #[.pointer (some ⟨L,0,none⟩),.pointer (some ⟨A,0,none⟩)])) (cA:w.cell? ⟨A,0,none⟩=some (.bool true)) (cL:w.cell? ⟨L,0,none⟩=some (.slice none 0 0))
    (cP0:w.cell? ⟨P,0,none⟩=some v0) (cP1:w.cell? ⟨P,1,none⟩=some v1) (own:w.ownsRow 0 256 3 (.slice (some ⟨g,0,none⟩) n cap) n (flat c')) (con:Con c' c u t R) (hcn:c.length=n) (hp:u * 3=p) (hcw:R.length≤cw) (good:∀ x ∈ c',x.good d)
    (nE:E≠g) (nA:A≠g) (nL:L≠g) (nP:P≠g) (hn:n < 100000)
    (hk:∀ w' c2,w'.ownsRow 0 256 3 (.slice (some ⟨g,0,none⟩) n cap) n (flat c2)→Con c2 c u t (R.filter fun x=>rS x.k)→(∀ x ∈ c2,x.good d)→Keep (fun b _=>b=g) w w'→k (.slice (some ⟨g,p,none⟩) (R.filter fun x=>rS x.k).length cw) w') :
    aX prog 145 #[.slice (some ⟨g,p,none⟩) R.length cw,.pointer (some ⟨E,0,none⟩),.pointer (some ⟨P,0,none⟩)] k w:=by
 have hle:=con.le
 have htn:=con.tn
 refine ai [.tmp 4] func145 ?_
 refine al ?_
 refine bO (fun x:Nat × Nat=>[(0,.slice (some ⟨g,p,none⟩) R.length cw),(1,.pointer (some ⟨E,0,none⟩)),(2,.pointer (some ⟨P,0,none⟩)),(5,.int .i64 x.1),(8,.int .i64 R.length),(9,.int .i64 x.2)])
  (fun x w'=>∃ cc e,w'.ownsRow 0 256 3 (.slice (some ⟨g,0,none⟩) n cap) n (flat cc)∧(∀ y ∈ cc,y.good d)∧Con cc c u t e∧e.length=R.length∧e.take x.1=(R.take x.2).filter (fun x=>rS x.k)∧e.drop x.2=R.drop x.2∧x.1≤x.2∧x.2≤R.length∧Keep (fun b _=>b=g) w w')
  (fun x _=>R.length - x.2) (0,0) (by kernel_rfl) ?_ ⟨c',R,own,good,con,rfl,rfl,rfl,aD _,aQ _,Keep.refl _ w⟩ ?_
 ·exact bE
 rintro K1 e1 ⟨kk,j⟩ w1 ⟨cc,e,i1,i2,i3,i4,i5,i6,i7,i8,i9⟩ hK
 simp only at i5 i6 i7 i8
 have hccn:cc.length=n:=i3.len.trans hcn
 by_cases hj:j < R.length
 ·have hj':(j:Int) < R.length:=by omega
  obtain ⟨x,hx⟩:∃ x,R[j]? = some x:=⟨R[j],aC hj⟩
  have hex:e[j]? = some x:=by
   have:=congrArg (fun l=>l[0]?) i6
   simpa [hx] using this
  have hcx:cc[u+j]? = some x:=by rw [i3.get (by omega),hex]
  have hg:=i2 x (aJ hcx)
  obtain ⟨aa,na,b,nb,q1,q2⟩:=hg.form
  have hv:x.v = .agg [.int .u64 x.k.tr,.slice aa x.k.suf.length na,.slice b x.k.val.length nb].toArray:=by unfold KR.v; rw [q1,q2]
  obtain ⟨f1,f2,f3⟩:=dz hcx
  rw [show (u+j) * 3=p+j * 3 by omega] at f1 f2 f3
  have c1:=av i1 f1
  have c2:=av i1 f2
  have c3:=av i1 f3
  rw [q1] at c2
  rw [q2] at c3
  have cE1:=i9.some cE nE
  have cA1:=i9.some cA nA
  have cL1:=i9.some cL nL
  have p0:=i9.some cP0 nP
  have p1:=i9.some cP1 nP
  have htk:R.take (j+1)=R.take j++[x]:=by rw [List.take_add_one,hx]; rfl
  have hd6:e.drop (j+1)=R.drop (j+1):=by
   have:=congrArg (List.drop 1) i6
   simpa [Nat.add_comm] using this
  refine fW @hj' @cE1 @p0 @p1 ?_
  refine zl cA1 cL1 ?_
  refine eI @c1 @c2 @c3 ?_
  rw [← hv]
  refine l9 hg fun w2 x2 => ?_
  have d1:=x2.cell c1
  have d2:=x2.cell c2
  have d3:=x2.cell c3
  have o2:=aZ i1 x2 (fun _ _ _ h=>h)
  by_cases h20:an x.k.tr=20
  ·have h20':(((an x.k.tr:Nat):Int) == 20)=true:=by rw [h20]; rfl
   have hel:rS x.k=false:=by unfold rS; rw [h20]; rfl
   refine bf @h20' ?_
   refine hK _ _ (kk,j+1) ?_ ⟨cc,e,o2,i2,i3,i4,?_,hd6,by simp only; omega,by simp only; omega,i9.trans x2.keep⟩ (by simp only; omega)
   ·exact bE
   ·simp only
    rw [htk,List.filter_append,i5]
    simp [hel]
  ·have h20':(((an x.k.tr:Nat):Int) == 20)=false:=by rw [beq_eq_false_iff_ne]; omega
   refine fW @h20' @d1 @d2 @d3 ?_
   rw [← hv]
   refine l9 hg fun w3 x3 => ?_
   have x3':=x2.trans x3
   have g1:=x3.cell d1
   have g2:=x3.cell d2
   have g3:=x3.cell d3
   have o3:=aZ i1 x3' (fun _ _ _ h=>h)
   by_cases h19:an x.k.tr=19
   ·have h19':(((an x.k.tr:Nat):Int) == 19)=true:=by rw [h19]; rfl
    have hel:rS x.k=false:=by unfold rS; rw [h19]; rfl
    refine bf @h19' ?_
    refine hK _ _ (kk,j+1) ?_ ⟨cc,e,o3,i2,i3,i4,?_,hd6,by simp only; omega,by simp only; omega,i9.trans x3'.keep⟩ (by simp only; omega)
    ·exact bE
    ·simp only
     rw [htk,List.filter_append,i5]
     simp [hel]
   ·have h19':(((an x.k.tr:Nat):Int) == 19)=false:=by rw [beq_eq_false_iff_ne]; omega
    have hel:rS x.k=true:=by unfold rS; simp [h20,h19]
    have hk':(kk:Int) < R.length:=by omega
    have hkl:u+kk < cc.length:=by omega
    obtain ⟨y,hy⟩:∃ y,cc[u+kk]? = some y:=⟨cc[u+kk],aC hkl⟩
    obtain ⟨l1,l2,l3⟩:=dz hy
    rw [show (u+kk) * 3=p+kk * 3 by omega] at l1 l2 l3
    have m1:=av o3 l1
    have m2:=av o3 l2
    have m3:=av o3 l3
    have fg:∀ o,w3.frozen? ⟨g,o,none⟩=false:=fun o=>cS o3 rfl o
    have o4:=bp (bp (bp o3 ((u+kk) * 3) (.int .u64 x.k.tr)) ((u+kk) * 3+1) x.sv) ((u+kk) * 3+2) x.vv
    rw [ik cc (u+kk) x hkl,show (u+kk) * 3=p+kk * 3 by omega,q1,q2] at o4
    refine KC @h19' @g1 @g2 @g3 @hk' @hj' @m1 @m2 @m3 @fg ?_
    refine hK _ _ (kk+1,j+1) ?_ ⟨cc.set (u+kk) x,e.set kk x,o4,fun z hz => ?_,i3.set (by omega),by simpa using i4,?_,?_,by simp only; omega,by simp only; omega,(((i9.trans x3'.keep).set (fun _=>rfl)).set (fun _=>rfl)).set (fun _=>rfl)⟩ (by simp only; omega)
    ·exact bE
    ·rcases List.mem_or_eq_of_mem_set hz with h | rfl
     ·exact i2 z h
     ·exact hg
    ·simp only
     rw [htk,List.filter_append,List.take_add_one,List.take_set_of_le (aD _),i5,List.getElem?_set_self (by omega)]
     simp [hel]
    ·simp only
     rw [List.drop_set_of_lt (by omega)]; exact hd6
 ·have hj':¬ (j:Int) < R.length:=by omega
  obtain rfl:j=R.length:=by omega
  rw [aT] at i5
  have z1:(0:Int)≤kk:=by omega
  have z2:(kk:Int)≤cw:=by omega
  have hkl:kk=(R.filter fun x=>rS x.k).length:=by
   rw [← i5,ar]; omega
  simp (disch:=first | exact dZ | fail) only [go_sem,hj',sD Tryz.es110,z1,z2]
  rw [hkl]
  refine hk _ cc i1 ?_ i2 i9
  rw [← i5]
  exact i3.take
end
end Go.Proofs
end
