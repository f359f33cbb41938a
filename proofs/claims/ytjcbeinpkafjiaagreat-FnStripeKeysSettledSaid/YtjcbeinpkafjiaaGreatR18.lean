/- Parts of the proof: Ux, Du, Dx, Ck, Wc, Ka, Kb. -/
import Derived.Test.YtjcbeinpkafjiaaGreatR09
import Derived.Test.YtjcbeinpkafjiaaGreatR11
import Derived.Test.YtjcbeinpkafjiaaGreatR15
import Derived.Test.YtjcbeinpkafjiaaGreatR17
set_option linter.all false
set_option maxRecDepth 10000
section
namespace Go.E
open Go Go.Sort Go.Proofs
structure UX (d:World) (U Bf C snap:Nat) (it:Bool) (w:World) (S:Nat→Prop):Prop where
 u0:w.cell? ⟨U,0,none⟩=some (.int .u64 snap)
 u1:w.cell? ⟨U,1,none⟩=some (.pointer (some ⟨C,0,none⟩))
 u93:w.cell? ⟨U,93,none⟩=some (.bool it)
 u94:w.cell? ⟨U,94,none⟩=some (.pointer (some ⟨Bf,0,none⟩))
 c9:∃ v,w.cell? ⟨Bf,9,none⟩=some v
 s:∃ vs ls,KOwn d w Bf 10 vs ls∧(∀ g,vs.ownBlock=some g→cq d g)∧S=fun b=>vs.ownBlock=some b
def uT (U Bf:Nat):Nat→Nat→Prop:=fun b x=>b=U∧(x≤1∨93≤x)∨b=Bf∧9≤x
def uX (d:World) (U Bf C snap:Nat) (it:Bool) (F:List K→List K) (ord:Int):TX where
 F:=F
 ord:=ord
 rt:=221
 rv := .pointer (some ⟨U,0,none⟩)
 T:=uT U Bf
 X:=UX d U Bf C snap it
 dr h:=⟨h.u0,h.u1,h.u93,h.u94,h.c9,by obtain ⟨vs,ls,a,b,c⟩:=h.s; exact ⟨vs,ls,a.drew,b,c⟩⟩
section
variable {d w w2:World} {U Bf C snap:Nat} {it:Bool} {S S':Nat→Prop}
theorem UX.keep {M:Nat→Nat→Prop} (h:UX d U Bf C snap it w S) (hk:Keep M w w2) (hm:∀ b x,b < w.heap.size→M b x→¬ uT U Bf b x∧¬ S b):UX d U Bf C snap it w2 S:=by
 have hU:=aE h.u0
 obtain ⟨v9,h9⟩:=h.c9
 have hB:=aE h9
 obtain ⟨vs,ls,a,b,rfl⟩:=h.s
 have nU:∀ x,x≤1∨93≤x→¬ M U x:=fun x hx h=>(hm _ _ hU h).1 (.inl ⟨rfl,hx⟩)
 have nB:∀ x,9≤x→¬ M Bf x:=fun x hx h=>(hm _ _ hB h).1 (.inr ⟨rfl,hx⟩)
 exact ⟨hk.some h.u0 (nU _ (by omega)),hk.some h.u1 (nU _ (by omega)),hk.some h.u93 (nU _ (by omega)),hk.some h.u94 (nU _ (by omega)),⟨v9,hk.some h9 (nB _ (by omega))⟩,vs,ls,a.keep hk (nB _ (by omega)) fun g hg x h=>(hm g x (a.own.lt g hg).2 h).2 hg,b,rfl⟩
theorem UX.tr {vk vs vs':Value} {ls':List KR} (h:UX d U Bf C snap it w S) (hk:Keep (H5 U Bf vk vs) w w2) (ne:Bf≠U) (hvk:∀ g,vk.ownBlock=some g→g≠U∧g≠Bf) (hvs:∀ g,vs.ownBlock=some g→g≠U∧g≠Bf∧cq d g) (hd:bz d w)
    (os:KOwn d w2 Bf 10 vs' ls') (b9:∃ v,w2.cell? ⟨Bf,9,none⟩=some v) (nw:cZ w vs vs'):UX d U Bf C snap it w2 (fun b=>vs'.ownBlock=some b):=by
 have nU:∀ x,x≤1∨93≤x→¬ H5 U Bf vk vs U x:=by
  rintro x hx (⟨_,h1,h2⟩ | ⟨h,_⟩ | h | h)
  ·omega
  ·exact ne h.symm
  ·exact (hvk _ h).1 rfl
  ·exact (hvs _ h).1 rfl
 refine ⟨hk.some h.u0 (nU _ (by omega)),hk.some h.u1 (nU _ (by omega)),hk.some h.u93 (nU _ (by omega)),hk.some h.u94 (nU _ (by omega)),b9,vs',ls',os,fun g hg => ?_,rfl⟩
 rcases nw g hg with h | h
 ·exact (hvs g h).2.2
 ·exact hd.out h
theorem UX.ti {F:List K→List K} {ord:Int} (ne:Bf≠U) (oU:cq d U) (oB:cq d Bf) {HK:List K→Prop}
    (hrun:∀ {w:World} {S:Nat→Prop} {l:List KR} {ks:List K} {ka sa ea:Option Addr} {cap sn sc en ec:Nat} {k:aq},UX d U Bf C snap it w S →
    w.cell? ⟨U,6,none⟩=some (.slice sa sn sc)→w.cell? ⟨U,7,none⟩=some (.slice ea en ec)→w.cell? ⟨U,8,none⟩=some (.slice ka l.length cap)→w.cell? ⟨U,9,none⟩=some (.int .i8 0) →
    KOwn d w Bf 0 (.slice ka l.length cap) l→(∀ x,w.frozen? ⟨U,x,none⟩=false)→(∀ x,w.frozen? ⟨Bf,x,none⟩=false)→bz d w →
    (∀ g,(Value.slice ka l.length cap).ownBlock=some g→g≠U∧g≠Bf∧cq d g∧¬ S g)→(∀ g,S g→g≠U∧g≠Bf) →
    DK l→l.length < 100000→(l.map KR.k).Perm ks→Cd ks→HK ks →
    (∀ w' S' c kv,w'.cell? ⟨U,6,none⟩=some (.slice sa sn sc)→w'.cell? ⟨U,7,none⟩=some (.slice ea en ec)→w'.cell? ⟨U,8,none⟩=some kv→w'.cell? ⟨U,9,none⟩=some (.int .i8 ord) →
     KOwn d w' Bf 0 (.slice ka l.length cap) c→c.length=l.length→yj d (fun b=>(Value.slice ka l.length cap).ownBlock=some b∨S' b) w' kv (F ks)→UX d U Bf C snap it w' S'→(∀ b,S' b→S b∨w.heap.size≤b)→Keep (K6 (uX d U Bf C snap it F ord) U 6 (.slice ka l.length cap) S) w w'→k .nilIface w') →
    aX Tryz.prog 190 #[.pointer (some ⟨U,0,none⟩),.func (.func 102) #[] #[],.agg [.slice sa sn sc,.slice ea en ec,.slice ka l.length cap,.int .i8 0].toArray,.pointer (some ⟨U,6,none⟩)] k w) :
    TI d U (2+4) Bf HK (uX d U Bf C snap it F ord) where
 keep h hk hm:=UX.keep h hk fun b x hb hx=>⟨(hm b x hb hx).1,(hm b x hb hx).2.1⟩
 outS h b hb:=by
  obtain ⟨vs,ls,a,c,rfl⟩:=h.s
  exact ⟨c b hb,(a.own.lt b hb).2⟩
 tT h:=by
  rcases h with ⟨rfl,h⟩ | ⟨rfl,h⟩
  ·exact .inl ⟨rfl,by omega⟩
  ·exact .inr ⟨rfl,h⟩
 tl h ht:=by
  obtain ⟨v9,h9⟩:=h.c9
  rcases ht with ⟨rfl,_⟩ | ⟨rfl,_⟩
  ·exact aE h.u0
  ·exact aE h9
 run hX q6 q7 q8 q9 hk fU fB hd _ _ _ hv hS hdk hl hp hcd hHK hq:=by
  show bu Tryz.prog (.iface 221 (.pointer (some ⟨U, 0, none⟩))) "Transform" _ _ _
  rw [Tryz.iv221_Transform]
  exact hrun hX q6 q7 q8 q9 hk fU fB hd hv hS hdk hl hp hcd hHK hq
theorem Fc (ne:Bf≠U) (oU:cq d U) (oB:cq d Bf) (hC:d.cell? ⟨C,1,none⟩=some (.func (.func 103) #[] #[])) (hs:snap < 18446744073709551616):TI d U (2+4) Bf (fun _=>True) (uX d U Bf C snap false (Tf snap) 1):=by
 refine UX.ti ne oU oB fun {w S l ks ka sa ea cap sn sc en ec k} hX q6 q7 q8 q9 hkey fU fB hd hv hS hdk hl hp hcd _ hq => ?_
 obtain ⟨vs,ls,os,oo,rfl⟩:=hX.s
 refine tS hX.u0 hX.u1 hX.u93 hX.u94 hC hX.c9 hkey os ⟨_,q6⟩ ⟨_,q7⟩ q8 ⟨_,q9⟩ fU fB hd oU oB ne (fun g hg=>⟨(hv g hg).1,(hv g hg).2.1,(hv g hg).2.2.1⟩) (fun g hg=>⟨(hS g hg).1,(hS g hg).2,oo g hg,fun h=>(hv g h).2.2.2 hg⟩) hdk hl (fun x hx=>hcd.kind _ (hp.mem_iff.1 (List.mem_map_of_mem hx))) hs (fun h=>by cases h) fun _ w' r c vs' ls' hcr p6 p7 p8 p9 ok oc ot os' b9 nw k4 => ?_
 refine hq w' (fun b=>vs'.ownBlock=some b) c _ p6 p7 p8 p9 ok oc ⟨ka,l.length,cap,c,_,rfl,by have:=ok.own; rwa [oc] at this,oc,ot,ok.good,Ip hdk hcr hp hcd,fun g hg => .inl hg⟩ (hX.tr k4 ne (fun g hg=>⟨(hv g hg).1,(hv g hg).2.1⟩) (fun g hg=>⟨(hS g hg).1,(hS g hg).2,oo g hg⟩) hd os' b9 nw) nw (k4.mono fun b x _ h => ?_)
 rcases h with ⟨h1,h2,h3⟩ | ⟨h1,h2,h3⟩ | h | h
 ·exact .inl ⟨h1,h2,h3⟩
 ·exact .inr (.inl (.inr ⟨h1,by omega⟩))
 ·exact .inr (.inr (.inl h))
 ·exact .inr (.inr (.inr h))
end
end Go.E
end
section
namespace Go.Proofs
open Go Go.E Go.Sort
section
variable {k:aq} {d w:World} {U Bf C:Nat} {rt:TypeId} {rv:Value} {is:Option Addr} {ps:Int}
theorem D9 {x:Sp} {b o j:Nat} (h:dK 1 w b o x) (hj:j < x.ks.length):∃ g f c s n m v p q,w.cell? ⟨b,o+2,none⟩=some (.slice (some ⟨g,f,none⟩) x.ks.length c)∧x.ks.length≤c∧w.cell? ⟨g,f+j * 3+1,none⟩=some (.slice s n m)∧fV w (.slice s n m) x.ks[j]!.suf∧w.cell? ⟨g,f+j * 3+2,none⟩=some (.slice v p q)∧fV w (.slice v p q) x.ks[j]!.val:=by
 obtain ⟨_,_,⟨kv,k1,k2⟩,_⟩:=h
 obtain ⟨g,f,c,e,hc,hx⟩:=k2.at (by omega)
 obtain ⟨_,_,⟨sv,s1,s2⟩,vv,v1,v2⟩:=hx j x.ks[j]! (by rw [aG x.ks j hj]; exact aC hj)
 obtain ⟨a,m,e1⟩:=bI s2
 obtain ⟨a2,m2,e2⟩:=bI v2
 rw [e] at k1
 rw [e1] at s1 s2
 rw [e2] at v1 v2
 exact ⟨g,f,c,a,_,m,a2,_,m2,k1,hc,s1,s2,v1,v2⟩
set_option maxHeartbeats 1000000 in
theorem mF {xb xo yb yo:Nat} {x y:Sp} (u93:w.cell? ⟨U,93,none⟩=some (.bool false)) (hx:dK 1 w xb xo x) (hy:dK 1 w yb yo y) (hl:x.ks.length < 100000)
    (hk:∀ w',bY w w'→k (.bool (decide (x.ks≠[]∧x.ks.map K.sv=y.ks.map K.sv))) w'):aX Tryz.prog 189 #[.pointer (some ⟨U,0,none⟩),.func (.func 103) #[] #[],.pointer (some ⟨xb,xo,none⟩),.pointer (some ⟨yb,yo,none⟩)] k w:=by
 obtain ⟨_,_,⟨xv,x1,x2⟩,x3⟩:=hx
 obtain ⟨_,_,⟨yv,y1,y2⟩,y3⟩:=hy
 obtain ⟨xa,xc,rfl⟩:=x2.form
 obtain ⟨ya,yc,rfl⟩:=y2.form
 have yk:((1:Int) != 1)=false:=by decide
 refine ai [.tmp 8] Tryz.func189 ?_
 refine bf @u93 ?_
 refine ay (sq [0,1,2] (.read 3 (sq [4,5,6,7] (.read 8 (sq [9,10,11,12,13,14] (.read 15 (sq [16,17,18] .done))))))) ?_
 by_cases hne:x.ks.length=y.ks.length
 ·have hne':((x.ks.length:Int) != (y.ks.length:Int))=false:=by rw [hne]; simp
  by_cases h0:x.ks.length=0
  ·have h0':((x.ks.length:Int) == 0)=true:=by rw [h0]; rfl
   refine fW @x1 @y1 @hne' @h0' ?_
   have hks:x.ks=[]:=ao.1 h0
   have:=hk w.drew (Keep.refl _ w).drew
   rw [aF (by rw [hks]; simp)] at this
   exact this
  ·have h0':((x.ks.length:Int) == 0)=false:=by rw [beq_eq_false_iff_ne]; omega
   refine vR @x1 @y1 @x3 @y3 @yk @hne' @h0' ?_
   have hks:x.ks≠[]:=fun h=>h0 (by rw [h]; rfl)
   refine gm (fun res:Bool=>[(9,.bool res)]) (fun res w'=>bY w w'∧res=decide (x.ks.map K.sv=y.ks.map K.sv)) (by kernel_rfl) (fun K hK => ?_) ?_
   ·refine bO (fun i:Nat=>[(1,.func (.func 103) #[] #[]),(2,.pointer (some ⟨xb,xo,none⟩)),(3,.pointer (some ⟨yb,yo,none⟩)),(9,.bool true),(52,.int .i64 x.ks.length),(53,.int .i64 i)])
      (fun i w'=>bY w w'∧(∀ j,j < i→x.ks[j]!.sv=y.ks[j]!.sv)∧i≤x.ks.length) (fun i _=>x.ks.length - i) 0 (by kernel_rfl) ?_ ⟨(Keep.refl _ w).drew,fun j hj=>by omega,aQ _⟩ ?_
    ·exact bE
    rintro K2 e i w1 ⟨i1,i2,i3⟩ hK2
    by_cases hi:i < x.ks.length
    ·have hi':(i:Int) < x.ks.length:=by omega
     have hiy':(i:Int) < y.ks.length:=by omega
     have hx1:dK 1 w1 xb xo x:=dK.mono 1 _ _ _ _ _ i1.inc ⟨by assumption,by assumption,⟨_,x1,x2⟩,x3⟩
     have hy1:dK 1 w1 yb yo y:=dK.mono 1 _ _ _ _ _ i1.inc ⟨by assumption,by assumption,⟨_,y1,y2⟩,y3⟩
     obtain ⟨g,f,c,s,n,m,v,p,q,a1,a2,a3,a4,a5,a6⟩:=D9 hx1 hi
     obtain ⟨g',f',c',s',n',m',v',p',q',b1,b2,b3,b4,b5,b6⟩:=D9 hy1 (show i < y.ks.length by omega)
     refine bf @hi' ?_
     refine ay (sq [0,1,2,3] (.read 4 (sq [5,6,7] (.read 8 (sq [9,10,11] (.read 12 (sq [13,14,15] (.read 16 (.eff 17 [] (sq [18] .done)))))))))) ?_
     refine rA @a1 @b1 @a3 @b3 @hi' @hiy' ?_
     refine ga (by exact a4) (by exact b4) ?_
     have bad:x.ks[i]!.sv≠y.ks[i]!.sv→false=decide (x.ks.map Go.E.K.sv=y.ks.map Go.E.K.sv):=by
      intro hn
      symm
      rw [decide_eq_false_iff_not]
      intro he
      have:=congrArg (fun l=>l[i]?) he
      simp only [bq] at this
      rw [aC hi,aC (show i < y.ks.length by omega)] at this
      rw [aG x.ks i hi,aG y.ks i (by omega)] at hn
      exact hn (by simpa using this)
     by_cases hs:x.ks[i]!.suf=y.ks[i]!.suf
     ·rw [aO hs]
      refine al ?_
      refine ay (sq [0,1,2] (.read 3 (sq [4,5,6] (.read 7 (sq [8,9,10] (.read 11 (sq [12,13,14] (.read 15 (.eff 16 [] (sq [17] .done)))))))))) ?_
      refine rA @a1 @b1 @a5 @b5 @hi' @hiy' ?_
      refine ga (by exact a6) (by exact b6) ?_
      by_cases hv:x.ks[i]!.val=y.ks[i]!.val
      ·rw [aO hv]
       refine al ?_
       refine hK2 _ _ (i+1) ?_ ⟨i1.drew.drew,fun j hj => ?_,by omega⟩ (by omega)
       ·exact bE
       ·rcases cj (show j≤i by omega) with h | h
        ·exact i2 j h
        ·subst h
         unfold Go.E.K.sv
         rw [hs,hv]
      ·rw [aF hv]
       refine al ?_
       refine hK _ _ false ?_ ⟨i1.drew.drew,bad fun h=>hv (congrArg Prod.snd h)⟩
       exact bE
     ·rw [aF hs]
      refine al ?_
      refine hK _ _ false ?_ ⟨i1.drew,bad fun h=>hs (congrArg Prod.fst h)⟩
      exact bE
    ·have hi':¬ (i:Int) < x.ks.length:=by omega
     refine bf @hi' ?_
     refine hK _ _ true ?_ ⟨i1,?_⟩
     ·exact bE
     ·symm
      rw [decide_eq_true_eq]
      refine List.ext_getElem (by simp [hne]) fun j h1 h2 => ?_
      simp only [ah] at h1 h2
      have:=i2 j (by omega)
      rw [aG x.ks j h1,aG y.ks j h2] at this
      simpa using this
   ·rintro e res w1 ⟨i1,rfl⟩
    refine al ?_
    have:=hk w1 i1
    rw [show decide (x.ks≠[]∧x.ks.map K.sv=y.ks.map K.sv)=decide (x.ks.map K.sv=y.ks.map K.sv) by rw [decide_eq_decide]; exact ⟨fun h=>h.2,fun h=>⟨hks,h⟩⟩] at this
    exact this
 ·have hne':((x.ks.length:Int) != (y.ks.length:Int))=true:=by rw [bne_iff_ne]; omega
  refine eI @x1 @y1 @hne' ?_
  have:=hk w.drew (Keep.refl _ w).drew
  rw [aF (by rintro ⟨_,h⟩; have:=congrArg List.length h; simp at this; exact hne this)] at this
  exact this
end
end Go.Proofs
end
section
namespace Go.Proofs
open Go Go.E Go.Sort Go.Proofs.Tryz
section
variable {k:aq} {d w:World}
theorem EA {ord:Int} {x:Sp} {b o j:Nat} (h:dK ord w b o x) (hj:j < x.ks.length):∃ g f c s n m v p q,w.cell? ⟨b,o+2,none⟩=some (.slice (some ⟨g,f,none⟩) x.ks.length c)∧x.ks.length≤c∧w.cell? ⟨g,f+j * 3+1,none⟩=some (.slice s n m)∧fV w (.slice s n m) x.ks[j]!.suf∧w.cell? ⟨g,f+j * 3+2,none⟩=some (.slice v p q)∧fV w (.slice v p q) x.ks[j]!.val∧w.cell? ⟨g,f+j * 3,none⟩=some (.int .u64 x.ks[j]!.tr):=by
 obtain ⟨_,_,⟨kv,k1,k2⟩,_⟩:=h
 obtain ⟨g,f,c,e,hc,hx⟩:=k2.at (by omega)
 obtain ⟨t1,_,⟨sv,s1,s2⟩,vv,v1,v2⟩:=hx j x.ks[j]! (by rw [aG x.ks j hj]; exact aC hj)
 obtain ⟨a,m,e1⟩:=bI s2
 obtain ⟨a2,m2,e2⟩:=bI v2
 rw [e] at k1
 rw [e1] at s1 s2
 rw [e2] at v1 v2
 exact ⟨g,f,c,a,_,m,a2,_,m2,k1,hc,s1,s2,v1,v2,t1⟩
set_option maxHeartbeats 1000000 in
theorem kt {xb xo yb yo:Nat} {x y:Sp} (hx:dK 0 w xb xo x) (hy:dK 0 w yb yo y) (hl:x.ks.length < 100000)
    (hk:∀ w',bY w w'→k (.bool (decide (x.ks=y.ks))) w'):aX prog 100 #[.func (.func 103) #[] #[],.pointer (some ⟨xb,xo,none⟩),.pointer (some ⟨yb,yo,none⟩)] k w:=by
 obtain ⟨_,_,⟨xv,x1,x2⟩,x3⟩:=hx
 obtain ⟨_,_,⟨yv,y1,y2⟩,y3⟩:=hy
 obtain ⟨xa,xc,rfl⟩:=x2.form
 obtain ⟨ya,yc,rfl⟩:=y2.form
 have n00:((0:Int) != 0)=false:=by decide
 refine ai [.tmp 6] func100 ?_
 refine eI @x3 @y3 @n00 ?_
 refine ay (sq [0,1,2] (.read 3 (sq [4,5,6,7] (.read 8 (sq [9,10] .done))))) ?_
 by_cases hne:x.ks.length=y.ks.length
 ·have hne':((x.ks.length:Int) != (y.ks.length:Int))=false:=by rw [hne]; simp
  refine eI @x1 @y1 @hne' ?_
  refine bO (fun i:Nat=>[(0,.func (.func 103) #[] #[]),(1,.pointer (some ⟨xb,xo,none⟩)),(2,.pointer (some ⟨yb,yo,none⟩)),(36,.int .i64 x.ks.length),(37,.int .i64 i)])
   (fun i w'=>bY w w'∧(∀ j,j < i→x.ks[j]! = y.ks[j]!)∧i≤x.ks.length) (fun i _=>x.ks.length - i) 0 (by kernel_rfl) ?_ ⟨(Keep.refl _ w).drew,fun j hj=>by omega,aQ _⟩ ?_
  ·exact bE
  rintro K2 e i w1 ⟨i1,i2,i3⟩ hK2
  by_cases hi:i < x.ks.length
  ·have hi':(i:Int) < x.ks.length:=by omega
   have hiy':(i:Int) < y.ks.length:=by omega
   have hx1:dK 0 w1 xb xo x:=dK.mono 0 _ _ _ _ _ i1.inc ⟨by assumption,by assumption,⟨_,x1,x2⟩,x3⟩
   have hy1:dK 0 w1 yb yo y:=dK.mono 0 _ _ _ _ _ i1.inc ⟨by assumption,by assumption,⟨_,y1,y2⟩,y3⟩
   obtain ⟨g,f,c,s,n,m,v,p,q,a1,a2,a3,a4,a5,a6,a7⟩:=EA hx1 hi
   obtain ⟨g',f',c',s',n',m',v',p',q',b1,b2,b3,b4,b5,b6,b7⟩:=EA hy1 (show i < y.ks.length by omega)
   have bad:x.ks[i]! ≠ y.ks[i]! → ∀ w',bY w w'→k (.bool false) w':=fun hn w' hw'=>by
    have:=hk w' hw'
    rwa [aF fun he=>hn (by rw [he])] at this
   refine bf @hi' ?_
   refine ay (sq [0,1,2] (.read 3 (sq [4,5,6] (.read 7 (sq [8,9,10] (.read 11 (sq [12,13,14] (.read 15 (sq [16] .done))))))))) ?_
   by_cases ht:x.ks[i]!.tr=y.ks[i]!.tr
   ·have ht':((x.ks[i]!.tr:Int) != (y.ks[i]!.tr:Int))=false:=by rw [ht]; simp
    refine vR @a1 @b1 @a7 @b7 @hi' @hiy' @ht' ?_
    refine ay (sq [0,1,2,3] (.read 4 (sq [5,6,7] (.read 8 (sq [9,10,11] (.read 12 (sq [13,14,15] (.read 16 (.eff 17 [] (sq [18] .done)))))))))) ?_
    refine rA @a1 @b1 @a3 @b3 @hi' @hiy' ?_
    refine ga (by exact a4) (by exact b4) ?_
    by_cases hs:x.ks[i]!.suf=y.ks[i]!.suf
    ·rw [aO hs]
     refine al ?_
     refine ay (sq [0,1,2] (.read 3 (sq [4,5,6] (.read 7 (sq [8,9,10] (.read 11 (sq [12,13,14] (.read 15 (.eff 16 [] (sq [17] .done)))))))))) ?_
     refine rA @a1 @b1 @a5 @b5 @hi' @hiy' ?_
     refine ga (by exact a6) (by exact b6) ?_
     by_cases hv:x.ks[i]!.val=y.ks[i]!.val
     ·rw [aO hv]
      refine al ?_
      refine hK2 _ _ (i+1) ?_ ⟨i1.drew.drew.drew,fun j hj => ?_,by omega⟩ (by omega)
      ·exact bE
      ·rcases cj (show j≤i by omega) with h | h
       ·exact i2 j h
       ·subst h
        cases hX:x.ks[j]!
        cases hY:y.ks[j]!
        rw [hX,hY] at ht hs hv
        simp only at ht hs hv
        rw [ht,hs,hv]
     ·rw [aF hv]
      refine al ?_
      exact bad (fun h=>hv (by rw [h])) _ i1.drew.drew.drew
    ·rw [aF hs]
     refine al ?_
     exact bad (fun h=>hs (by rw [h])) _ i1.drew.drew
   ·have ht':((x.ks[i]!.tr:Int) != (y.ks[i]!.tr:Int))=true:=by rw [bne_iff_ne]; omega
    refine vR @a1 @b1 @a7 @b7 @hi' @hiy' @ht' ?_
    exact bad (fun h=>ht (by rw [h])) _ i1.drew
  ·have hi':¬ (i:Int) < x.ks.length:=by omega
   refine bf @hi' ?_
   have:=hk w1 i1
   rwa [aO (List.ext_getElem hne fun j h1 h2=>by
    have:=i2 j (by omega)
    rwa [aG x.ks j h1,aG y.ks j h2] at this)] at this
 ·have hne':((x.ks.length:Int) != (y.ks.length:Int))=true:=by rw [bne_iff_ne]; omega
  refine eI @x1 @y1 @hne' ?_
  have:=hk w.drew (Keep.refl _ w).drew
  rwa [aF fun h=>hne (by rw [h])] at this
theorem yD {xb xo yb yo:Nat} {x y:Sp} (hx:dK 0 w xb xo x) (hy:dK 0 w yb yo y) (hl:x.ks.length < 100000)
    (hk : ∀ w', bY w w' → k (.bool (decide (x.ks.map (id : K → K) = y.ks.map id))) w') : bu prog (.iface 228 (.func (.func 100) #[] #[])) "ShouldDefragment" #[.func (.func 103) #[] #[], .pointer (some ⟨xb, xo, none⟩), .pointer (some ⟨yb, yo, none⟩)] k w := by
 rw [Tryz.iv228_ShouldDefragment]
 refine ai [.tmp 8] func240 ?_
 refine al ?_
 refine kt hx hy hl fun w' x' => ?_
 refine al ?_
 have:=hk w' x'
 simp only [List.map_id] at this
 exact this
end
end Go.Proofs
end
section
namespace Go.E
open Go Go.Sort Go.Proofs
theorem zd {α:Type} {R:α→α→Prop} (hR:∀ x y,R x y→¬ R y x) {a b:List α} (ha:a.Pairwise R) (hb:b.Pairwise R) (h:∀ x,x ∈ a↔x ∈ b):a=b:=by
 induction a generalizing b with
 | nil =>
  cases b with
  | nil=>rfl
  | cons y b=>exact absurd ((h y).2 aR) (by simp)
 | cons x a ih =>
  cases b with
  | nil=>exact absurd ((h x).1 aR) (by simp)
  | cons y b =>
   have ha':=fun {z}=>bF (a':=z) ha
   have hb':=fun {z}=>bF (a':=z) hb
   have hxy:x=y:=by
    rcases ak.1 ((h x).1 aR) with e | h1
    ·exact e
    ·rcases ak.1 ((h y).2 aR) with e | h2
     ·exact e.symm
     ·exact absurd (ha' h2) (hR _ _ (hb' h1))
   subst hxy
   congr 1
   refine ih ha.of_cons hb.of_cons fun z => ?_
   have:=h z
   rw [ak,ak] at this
   constructor
   ·intro hz
    rcases this.1 (.inr hz) with e | h1
    ·subst e; exact absurd (ha' hz) (hR _ _ (ha' hz))
    ·exact h1
   ·intro hz
    rcases this.2 (.inr hz) with e | h1
    ·subst e; exact absurd (hb' hz) (hR _ _ (hb' hz))
    ·exact h1
def EB (snap:Nat) (ks:List K) (x:K):Bool :=
 fu snap x.tr && decide (an x.tr≠19) && ks.all fun y => !fu snap y.tr || (if an y.tr=19 then decide (y.tr < x.tr) else decide (y.suf=x.suf→y.tr≤x.tr))
def Uf (snap:Nat) (ks:List K):List K:=(ks.filter (EB snap ks)).mergeSort Cg
def ze (x y:K):Bool:=decide (y.tr≤x.tr)
def rF (snap:Nat) (x:K):Bool:=fu snap x.tr && decide (an x.tr=19)
def tX (snap:Nat) (ks:List K):List K:=((ks.filter (rF snap)).mergeSort ze).take 1
def zf (snap:Nat) (ks:List K):List K:=Uf snap ks++tX snap ks
theorem kH {snap:Nat} {ks:List K} {x:K}:EB snap ks x=true↔fu snap x.tr=true∧an x.tr≠19∧∀ y ∈ ks,fu snap y.tr=true→(an y.tr=19→y.tr < x.tr)∧(an y.tr≠19→y.suf=x.suf→y.tr≤x.tr):=by
 unfold EB
 simp only [bN,decide_eq_true_eq,List.all_eq_true,Bool.or_eq_true,Bool.not_eq_true']
 constructor
 ·rintro ⟨⟨h1,h2⟩,h3⟩
  refine ⟨h1,h2,fun y hy hv => ?_⟩
  rcases h3 y hy with h | h
  ·rw [hv] at h; simp at h
  ·split at h
   ·rename_i h9
    exact ⟨fun _=>by simpa using h,fun h'=>absurd h9 h'⟩
   ·rename_i h9
    exact ⟨fun h'=>absurd h' h9,fun _=>of_decide_eq_true h⟩
 ·rintro ⟨h1,h2,h3⟩
  refine ⟨⟨h1,h2⟩,fun y hy => ?_⟩
  by_cases hv:fu snap y.tr=true
  ·right
   obtain ⟨a,b⟩:=h3 y hy hv
   split
   ·rename_i h9; simpa using a h9
   ·rename_i h9; exact aO (b h9)
  ·left; simpa using hv
theorem qF {snap:Nat} {ks:List K} {x:K}:x ∈ Uf snap ks↔x ∈ ks∧EB snap ks x=true:=by
 unfold Uf
 rw [List.mem_mergeSort,aN]
theorem zg (l:List K):(l.mergeSort Cg).Pairwise fun x y=>Cg x y=true:=by
 refine List.pairwise_mergeSort (fun a b c h1 h2 => ?_) (fun a b => ?_) _
 ·simp only [Cg,decide_eq_true_eq] at h1 h2 ⊢
  intro h3
  exact h1 (ct h2 h3)
 ·simp only [Cg,Bool.or_eq_true,decide_eq_true_eq]
  by_cases hab:b.suf < a.suf
  ·exact .inr (gT hab)
  ·exact .inl hab
theorem zh (l:List K):(l.mergeSort ze).Pairwise fun x y=>ze x y=true:=by
 refine List.pairwise_mergeSort (fun a b c h1 h2 => ?_) (fun a b => ?_) _
 ·simp only [ze,decide_eq_true_eq] at h1 h2 ⊢
  omega
 ·simp only [ze,Bool.or_eq_true,decide_eq_true_eq]
  omega
theorem uh {snap:Nat} {ks:List K} (h:Cd ks):(Uf snap ks).Pairwise fun x y=>x.suf < y.suf:=by
 have h2:(Uf snap ks).Pairwise fun x y=>x.suf=y.suf→x.tr≠y.tr:=by
  unfold Uf
  refine (List.Perm.pairwise_iff ?_ (List.mergeSort_perm _ _)).2 (List.Pairwise.sublist List.filter_sublist h.dist)
  intro x y hxy e e2
  exact hxy e.symm e2.symm
 have h1:(Uf snap ks).Pairwise fun x y=>Cg x y=true:=zg _
 have h3:=h1.and h2
 rw [bA] at h3 ⊢
 intro i j hi hj hij
 obtain ⟨a,b⟩:=h3 i j hi hj hij
 simp only [Cg,decide_eq_true_eq] at a
 rcases gw (Uf snap ks)[i].suf (Uf snap ks)[j].suf with c | c | c
 ·exact c
 ·exfalso
  have m1:=qF.1 (aS hi)
  have m2:=qF.1 (aS hj)
  obtain ⟨v1,k1,a1⟩:=kH.1 m1.2
  obtain ⟨v2,k2,a2⟩:=kH.1 m2.2
  have e1:=(a1 _ m2.1 v2).2 k2 c.symm
  have e2:=(a2 _ m1.1 v1).2 k1 c
  exact b c (by omega)
 ·exact absurd c a
theorem I7 {snap:Nat} {l r:List KR} {ks:List K} (hd:DK l) (hc:CoR snap l r) (hks:(l.map KR.k).Perm ks) (h:Cd ks):r.map KR.k=Uf snap ks:=by
 refine ki ?_ (uh h) fun x => ?_
 ·rw [List.pairwise_map]
  exact hc.sorted
 ·rw [qF,kH,bV]
  constructor
  ·rintro ⟨a,ha,rfl⟩
   rw [hc.mem,il hd] at ha
   obtain ⟨⟨p1,p2,p3,p4⟩,p5⟩:=ha
   refine ⟨hks.mem_iff.1 (List.mem_map_of_mem p1),p2,p3,fun y hy hv => ?_⟩
   obtain ⟨b,hb,rfl⟩:=bV.1 (hks.mem_iff.2 hy)
   refine ⟨p4 b hb hv,fun h9 hs => ?_⟩
   by_cases hbp:b ∈ fw snap l
   ·exact p5 b hbp hs
   ·rw [il hd] at hbp
    have:∃ z ∈ l,fu snap z.k.tr=true∧an z.k.tr=19∧¬ b.k.tr > z.k.tr:=by
     refine Classical.byContradiction fun hno=>hbp ⟨hb,hv,h9,fun z hz hzv hz9 => ?_⟩
     refine Classical.byContradiction fun hlt=>hno ⟨z,hz,hzv,hz9,hlt⟩
    obtain ⟨z,hz,hzv,hz9,hlt⟩:=this
    have:=p4 z hz hzv hz9
    omega
  ·rintro ⟨h1,h2,h3,h4⟩
   obtain ⟨a,ha,rfl⟩:=bV.1 (hks.mem_iff.2 h1)
   refine ⟨a,?_,rfl⟩
   rw [hc.mem,il hd]
   refine ⟨⟨ha,h2,h3,fun y hy hv h9=>(h4 y.k (hks.mem_iff.1 (List.mem_map_of_mem hy)) hv).1 h9⟩,fun y hy hs => ?_⟩
   obtain ⟨q1,q2,q3,_⟩:=(il hd y).1 hy
   exact (h4 y.k (hks.mem_iff.1 (List.mem_map_of_mem q1)) q2).2 q3 hs
theorem Bx {snap:Nat} {l:List KR}:fy snap l=l.find? fun x=>rF snap x.k:=by
 induction l with
 | nil=>rfl
 | cons x l ih =>
  unfold fy
  rw [List.find?_cons]
  unfold rF
  by_cases hv:fu snap x.k.tr=true
  ·rw [if_pos hv,hv]
   by_cases h9:an x.k.tr=19
   ·simp [h9]
   ·simp only [h9,if_false,decide_false,Bool.and_false]
    exact ih
  ·rw [if_neg hv]
   have:fu snap x.k.tr=false:=by simpa using hv
   simp only [this,Bool.false_and]
   exact ih
theorem HA {snap:Nat} {l:List KR} {ks:List K} (hd:DK l) (hks:(l.map KR.k).Perm ks) (h:Cd ks) (h9:∀ x ∈ ks,an x.tr=19→x.suf=[]):(fy snap l).toList.map KR.k=tX snap ks:=by
 have hA:(l.filter fun x=>rF snap x.k).map KR.k=(ks.filter (rF snap)).mergeSort ze:=by
  have hmem:∀ x:K,x ∈ (l.filter fun x=>rF snap x.k).map KR.k↔x ∈ (ks.filter (rF snap)).mergeSort ze:=fun x=>by
   rw [List.mem_mergeSort,aN,← hks.mem_iff]
   simp only [bV,aN]
   constructor
   ·rintro ⟨a,⟨h1,h2⟩,rfl⟩; exact ⟨⟨a,h1,rfl⟩,h2⟩
   ·rintro ⟨⟨a,h1,rfl⟩,h2⟩; exact ⟨a,⟨h1,h2⟩,rfl⟩
  have hk9:∀ x:K,rF snap x=true→an x.tr=19:=fun x hx=>by
   unfold rF at hx
   simp only [bN,decide_eq_true_eq] at hx
   exact hx.2
  refine zd (R:=fun x y:K=>y.tr < x.tr) (fun x y h1 h2=>by omega) ?_ ?_ hmem
  ·rw [List.pairwise_map]
   have h1:(l.filter fun x=>rF snap x.k).Pairwise fun x y=>y.k.tr≤x.k.tr∧(x.k.suf=y.k.suf→y.k.tr < x.k.tr):=List.Pairwise.sublist List.filter_sublist hd
   refine h1.imp_of_mem fun {x y} hx hy hxy=>hxy.2 ?_
   have a:=aN.1 hx
   have b:=aN.1 hy
   rw [h9 _ (hks.mem_iff.1 (List.mem_map_of_mem a.1)) (hk9 _ a.2),h9 _ (hks.mem_iff.1 (List.mem_map_of_mem b.1)) (hk9 _ b.2)]
  ·have h2:((ks.filter (rF snap)).mergeSort ze).Pairwise fun x y=>x.suf=y.suf→x.tr≠y.tr:=by
     refine (List.Perm.pairwise_iff ?_ (List.mergeSort_perm _ _)).2 (List.Pairwise.sublist List.filter_sublist h.dist)
     intro x y hxy e e2
     exact hxy e.symm e2.symm
   refine ((zh _).and h2).imp_of_mem fun {x y} hx hy hxy => ?_
   rw [List.mem_mergeSort] at hx hy
   have a:=aN.1 hx
   have b:=aN.1 hy
   have:=hxy.2 (by rw [h9 _ a.1 (hk9 _ a.2),h9 _ b.1 (hk9 _ b.2)])
   have h3:=hxy.1
   simp only [ze,decide_eq_true_eq] at h3
   omega
 unfold tX
 rw [← hA,Bx,← List.head?_filter,← List.map_take]
 cases (l.filter fun x=>rF snap x.k) <;> rfl
theorem I8 {snap:Nat} {l r:List KR} {ks:List K} (hd:DK l) (hc:CoR snap l r) (hks:(l.map KR.k).Perm ks) (h:Cd ks) (h9:∀ x ∈ ks,an x.tr=19→x.suf=[]):(r++(fy snap l).toList).map KR.k=zf snap ks:=by
 rw [bC,I7 hd hc hks h,HA hd hks h h9]; rfl
end Go.E
end
section
namespace Go.E
open Go Go.Sort Go.Proofs
section
variable {d:World} {U Bf C snap:Nat} {Ls:Array Lvl} {B:List Bytes} {lo hi:Option Bytes} {lov hiv:Value}
theorem EC {G:List Sp} {j:Nat} (hj:j < (GB G lo hi).length):∃ i,i < G.length∧(GB G lo hi)[j]! = G[i]! := by
 refine ⟨aB G lo+j,?_,pG (G:=G) hj⟩
 have:=dH (G:=G) (lo:=lo) (hi:=hi)
 have:=kG (G:=G) (hi:=hi)
 omega
theorem kJ {n:Nat} {L:Nat→List Sp} {u:Nat} {x:K} (h:x ∈ cM n L B u):∃ i,i < n∧∃ sp ∈ L i,x ∈ sp.ks:=by
 unfold cM at h
 obtain ⟨i,hi,hx⟩:=db.1 h
 rw [List.mem_range] at hi
 split at hx
 ·refine ⟨i,hi,(L i)[cp L B u i / 2]!,?_,hx⟩
  rcases aH (cp L B u i / 2) (L i).length with hl | hl
  ·rw [aG (L i) (cp L B u i / 2) hl]; exact aS hl
  ·rw [getElem!_neg (L i) (cp L B u i / 2) (by omega)] at hx
   exact absurd hx (by simp [default,instInhabitedSp.default])
 ·simp at hx
theorem rR {F:List K→List K} {n:Nat} {L:Nat→List Sp} {j:Nat} (hj:j < (GL F n L B).length):∃ u,u≤B.length∧(GL F n L B)[j]! = jh F n L B u:=by
 rw [cX] at hj
 have e:(cP n L B)[j]? = some (cP n L B)[j]:=aC hj
 exact ⟨_,(eJ.1 (aS hj)).1,ji e⟩
structure UK where
 it:Bool
 F:List K→List K
 ord:Int
 β:Type
 dec:DecidableEq β
 π:K→β
 mt:TypeId
 mv:Value
instance (q:UK):DecidableEq q.β:=q.dec
abbrev UK.Z (q:UK) (d:World) (U Bf C snap:Nat):TX:=uX d U Bf C snap q.it q.F q.ord
abbrev UK.Y (q:UK):DX:=⟨81,6,q.ord,q.β,q.dec,q.π,q.mt,q.mv⟩
structure UC (q:UK) (d:World) (U Bf C:Nat) (Ls:Array Lvl) (snap:Nat) (B:List Bytes) (lov hiv:Value) (lo hi:Option Bytes):Prop where
 m:MS d U 2 Bf (q.Z d U Bf C snap) Ls B
 small:B.length < 999999
 bd:xw lo hi
 c0:d.cell? ⟨C,0,none⟩=some (.func (.func 102) #[] #[])
 kl:∀ i,i < Ls.size→∀ sp ∈ Ls[i]!.L,∀ x ∈ sp.ks,x.suf.length≤4294967296∧x.val.length≤4294967296
 fs:∀ ks x,x ∈ q.F ks→x ∈ ks
 fl:∀ ks,(q.F ks).length≤ks.length
 meth:∀ {w:World} {xb xo yb yo:Nat} {x y:Sp} {k:aq},w.cell? ⟨U,93,none⟩=some (.bool q.it)→dK q.ord w xb xo x→dK q.ord w yb yo y→x.ks≠[]→x.ks.length < 100000→(∀ w',bY w w'→k (.bool (decide (x.ks.map q.π=y.ks.map q.π))) w') →
  bu Tryz.prog (.iface q.mt q.mv) "ShouldDefragment" #[.func (.func 103) #[] #[], .pointer (some ⟨xb, xo, none⟩), .pointer (some ⟨yb, yo, none⟩)] k w
abbrev uG (q:UK) (Ls:Array Lvl) (B:List Bytes):List Sp:=GL q.F Ls.size (Lf Ls) B
abbrev uV (q:UK) (Ls:Array Lvl) (B:List Bytes) (lo hi:Option Bytes):List Sp:=Vw q.π (GB (uG q Ls B) lo hi)
abbrev uM (q:UK) (d:World) (U Bf C snap:Nat) (Ls:Array Lvl):Nat→Nat→Prop:=mT U 2 Bf (q.Z d U Bf C snap) Ls
abbrev uW (q:UK) (d:World) (U Bf C snap:Nat) (Ls:Array Lvl) (B:List Bytes):World→(Nat→Prop)→Int→Prop:=Mi d U 2 Bf (q.Z d U Bf C snap) Ls B
abbrev uD (q:UK) (d:World) (U Bf C snap:Nat) (Ls:Array Lvl) (B:List Bytes) (lov hiv:Value) (lo hi:Option Bytes):World→(Nat→Prop)→Int→Prop:=Bd d U U 6 224 (.pointer (some ⟨U,2,none⟩)) lov hiv lo hi (uG q Ls B) (uW q d U Bf C snap Ls B)
variable {q:UK}
theorem UC.bc (c:UC q d U Bf C Ls snap B lov hiv lo hi):BC d U U 6 224 (.pointer (some ⟨U,2,none⟩)) lo hi (uG q Ls B) True False (fun _=>False) (uM q d U Bf C snap Ls) (uW q d U Bf C snap Ls B) q.ord where
 f:=K7 c.m c.small
 t x h1 h2:=by
  rintro (⟨_,_,h⟩ | ⟨h,_⟩ | ⟨i,hi,h⟩ | h)
  ·omega
  ·exact c.m.mc.ne h.symm
  ·exact c.m.mc.iU i hi h.symm
  ·rcases h with ⟨_,h⟩ | ⟨h,_⟩
   ·omega
   ·exact c.m.mc.ne h.symm
 s h hs:=by
  obtain ⟨u,pos,vk,vb,vs,lk,xb,sc,_⟩:=h
  exact (sc.r.sp U hs).1 rfl
 o:=c.m.mc.oU
 b:=c.bd
theorem B0 (c:UC q d U Bf C Ls snap B lov hiv lo hi) {u:Nat} (hu:u≤B.length):(jh q.F Ls.size (Lf Ls) B u).s.length≤4294967296∧(jh q.F Ls.size (Lf Ls) B u).e.length≤4294967296∧(jh q.F Ls.size (Lf Ls) B u).ks.length < 100000∧∀ x ∈ (jh q.F Ls.size (Lf Ls) B u).ks,x.suf.length≤4294967296∧x.val.length≤4294967296:=by
 have hb:∀ i:Nat,(B[i]!).length≤4294967296:=fun i=>by
  rcases aH i B.length with h | h
  ·rw [aG B i h]
   exact dh (c.m.blen _ (aS h))
  ·rw [getElem!_neg B i (by omega)]; exact aQ _
 refine ⟨hb _,hb _,fR (c.fl _) (c.m.len u),fun x hx => ?_⟩
 obtain ⟨i,hi,sp,hsp,hk⟩:=kJ (c.fs _ _ hx)
 exact c.kl i hi sp hsp x hk
theorem UC.tl (c:UC q d U Bf C Ls snap B lov hiv lo hi) {w:World} {S:Nat→Prop} {p:Int} {b x:Nat} (h:uW q d U Bf C snap Ls B w S p) (ht:uM q d U Bf C snap Ls b x∨bM U b x):b < w.heap.size:=by
 obtain ⟨u,pos,vk,vb,vs,lk,xb,sc,_⟩:=h
 obtain ⟨HK,ti,_⟩:=c.m.ti
 have hU:=aE sc.g.bufs
 rcases ht with (⟨rfl,_⟩ | ⟨rfl,_⟩ | ⟨i,hi,rfl⟩ | ht) | ⟨rfl,_,_⟩
 ·exact hU
 ·exact aE sc.g.lvls
 ·exact aE (sc.g.lv i hi).iter.c0
 ·exact ti.tl sc.r.x ht
 ·exact hU
theorem UC.dc (c:UC q d U Bf C Ls snap B lov hiv lo hi):DC d q.Y U Bf C U 6 226 (.pointer (some ⟨U,72,none⟩)) (GB (uG q Ls B) lo hi) (True∧lo=none) False (fun _=>False) (bT U (uM q d U Bf C snap Ls)) (uD q d U Bf C snap Ls B lov hiv lo hi) where
 f:=Lg c.bc
 t x h1 h2:=by
  have h1:81≤x:=h1
  have h2:x≤81+11:=h2
  rintro ((⟨_,_,h⟩ | ⟨h,_⟩ | ⟨i,hi,h⟩ | h) | ⟨_,_,_⟩)
  ·omega
  ·exact c.m.mc.ne h.symm
  ·exact c.m.mc.iU i hi h.symm
  ·rcases h with ⟨_,h⟩ | ⟨h,_⟩
   ·omega
   ·exact c.m.mc.ne h.symm
  ·omega
 tB x h1 h2:=by
  have h1:6≤x:=h1
  have h2:x≤6+2:=h2
  rintro ((⟨h,_⟩ | ⟨_,h⟩ | ⟨i,hi,h⟩ | h) | ⟨h,_⟩)
  ·exact c.m.mc.ne h
  ·omega
  ·exact c.m.mc.iB i hi h.symm
  ·rcases h with ⟨h,_⟩ | ⟨_,h⟩
   ·exact c.m.mc.ne h
   ·omega
  ·exact c.m.mc.ne h
 s h:=by
  obtain ⟨p,is,ps,h,_⟩:=h
  obtain ⟨u,pos,vk,vb,vs,lk,xb,sc,_⟩:=h
  exact ⟨fun hs=>(sc.r.sp U hs).1 rfl,fun hs=>(sc.r.sp Bf hs).2.1 rfl⟩
 tl h ht:=by
  obtain ⟨p,is,ps,h,_⟩:=h
  exact c.tl h ht
 meth h hx hy hne hl hk:=by
  obtain ⟨p,is,ps,h,_⟩:=h
  obtain ⟨u,pos,vk,vb,vs,lk,xb,sc,_⟩:=h
  exact c.meth sc.r.x.u93 hx hy hne hl hk
 tp y h1 h2 := .inl (.inl ⟨rfl,by omega,by omega⟩)
 oU:=c.m.mc.oU
 oB:=c.m.mc.oB
 ne:=c.m.mc.ne
 cmp0:=c.c0
 len j hj:=by
  obtain ⟨i,hi,e⟩:=EC hj
  obtain ⟨u,hu,e2⟩:=rR hi
  rw [e,e2]
  exact B0 c hu
theorem UC.wi {KS:List K→List K→Prop} (hKL:∀ a b,KS a b→a.length=b.length) (hKS:∀ ks b,(q.F ks).map q.π=b.map q.π→KS (q.F ks) b) (c:UC q d U Bf C Ls snap B lov hiv lo hi):WI (.iface 229 (.pointer (some ⟨U,81,none⟩))) d (uV q Ls B lo hi) (True∧lo=none) False (fun _=>False) KS
    (I6 d q.Y U Bf C U 6 226 (.pointer (some ⟨U,72,none⟩)) (GB (uG q Ls B) lo hi) (bT U (uM q d U Bf C snap Ls)) (uD q d U Bf C snap Ls B lov hiv lo hi)):=by
 refine K8 hKL c.dc (fun b x h => ?_) fun j i hj hi he => ?_
 ·rcases h with (⟨rfl,_⟩ | ⟨rfl,_⟩ | ⟨i,hi,rfl⟩ | h) | ⟨rfl,_,_⟩
  ·exact c.m.mc.oU
  ·exact c.m.mc.oB
  ·exact c.m.mc.oI i hi
  ·rcases h with ⟨rfl,_⟩ | ⟨rfl,_⟩
   ·exact c.m.mc.oU
   ·exact c.m.mc.oB
  ·exact c.m.mc.oU
 ·obtain ⟨i',hi',e⟩:=EC hj
  obtain ⟨u,hu,e2⟩:=rR hi'
  rw [e,e2] at he ⊢
  exact hKS _ _ he
def qG (ks:List K):Prop:=∀ x ∈ ks,an x.tr=21
theorem Fe (a b:List K) (h:E1 qG a b):a.length=b.length:=by simpa using congrArg List.length h.1
theorem HB (snap:Nat) (ks b:List K) (h:(Tf snap ks).map K.sv=b.map K.sv):E1 qG (Tf snap ks) b:=⟨h,fun x hx=>(gA.1 (jt.1 hx).2).2.1⟩
theorem B5 {w:World} {xb xo yb yo:Nat} {x y:Sp} {k:aq} (h:w.cell? ⟨U,93,none⟩=some (.bool false)) (hx:dK 1 w xb xo x) (hy:dK 1 w yb yo y) (hne:x.ks≠[]) (hl:x.ks.length < 100000) (hk:∀ w',bY w w'→k (.bool (decide (x.ks.map K.sv=y.ks.map K.sv))) w') :
    bu Tryz.prog (.iface 221 (.pointer (some ⟨U, 0, none⟩))) "ShouldDefragment" #[.func (.func 103) #[] #[], .pointer (some ⟨xb, xo, none⟩), .pointer (some ⟨yb, yo, none⟩)] k w := by
 rw [Tryz.iv221_ShouldDefragment]
 refine mF h hx hy hl fun w' x' => ?_
 have:=hk w' x'
 rw [show decide (x.ks≠[]∧x.ks.map K.sv=y.ks.map K.sv)=decide (x.ks.map K.sv=y.ks.map K.sv) by rw [decide_eq_decide]; exact ⟨fun h=>h.2,fun h=>⟨hne,h⟩⟩]
 exact this
theorem B6 (snap:Nat) (ks:List K):(Tf snap ks).length≤ks.length:=by
 unfold Tf
 rw [List.length_mergeSort]
 exact az _ _
def If (snap:Nat) (ks:List K):List K:=mB (zf snap ks)
theorem ku (l:List K):(mB l).Perm l:=by
 unfold mB DW
 split
 ·exact List.Perm.refl _
 ·have:=(pdq_sorts Ez rN l.toArray 0 l.toArray.size (bitsLen l.toArray.size) true true (by omega) (aD _) (.inl rfl)).1
  simpa using dp this (aD _)
theorem vz {snap:Nat} {ks:List K} {x:K}:x ∈ If snap ks↔x ∈ zf snap ks:=(ku _).mem_iff
theorem wA {snap:Nat} {ks:List K} {x:K} (h:x ∈ zf snap ks):x ∈ ks:=by
 unfold zf at h
 rcases ax.1 h with h | h
 ·exact (qF.1 h).1
 ·unfold tX at h
  have:=List.mem_of_mem_take h
  rw [List.mem_mergeSort] at this
  exact (aN.1 this).1
theorem sP (p r:K→Bool) (h:∀ x,p x=true→r x=false) (l:List K):(l.filter p).length+(l.filter r).length≤l.length:=by
 induction l with
 | nil=>simp
 | cons x l ih =>
  rw [List.filter_cons,List.filter_cons,ag]
  cases hp:p x with
  | true=>rw [h x hp]; simp only [if_true,ag,Bool.false_eq_true,if_false]; omega
  | false =>
   cases hr:r x <;> simp only [if_true,ag,Bool.false_eq_true,if_false] <;> omega
theorem zi (snap:Nat) (ks:List K):(zf snap ks).length≤ks.length:=by
 unfold zf Uf tX
 rw [aM,List.length_mergeSort]
 have h1:=sP (EB snap ks) (rF snap) (fun x hx=>by
  have:=(kH.1 hx).2.1
  unfold rF
  simp [this]) ks
 have h2:(((ks.filter (rF snap)).mergeSort ze).take 1).length≤(ks.filter (rF snap)).length:=by
  rw [ar,List.length_mergeSort]; omega
 omega
theorem B7 (snap:Nat) (ks:List K):(If snap ks).length≤ks.length:=by
 unfold If
 rw [(ku _).length_eq]
 exact zi _ _
end
end Go.E
end
section
namespace Go.E
open Go Go.Sort Go.Proofs Go.Proofs.Tryz
theorem ui (pre l post:List KR) (i:Nat) (x:KR) (h:i < l.length):(((flat (pre++l++post)).set (pre.length * 3+i * 3) (.int .u64 x.k.tr)).set (pre.length * 3+i * 3+1) x.sv).set (pre.length * 3+i * 3+2) x.vv=flat (pre++l.set i x++post):=by
 rw [show pre.length * 3+i * 3=(pre.length+i) * 3 by omega,ik _ _ _ (by simp; omega)]
 congr 1
 rw [bt,bt,List.set_append_right _ _ (by omega),Nat.add_sub_cancel_left,List.set_append_left _ _ h]
structure KWin (d w0 w:World) (Hb ho g n cap p cw:Nat) (pre post:List KR) (a:Array KR):Prop where
 hd:w.cell? ⟨Hb,ho,none⟩=some (.slice (some ⟨g,p,none⟩) a.size cw)
 hp:pre.length * 3=p
 own:w.ownsRow 0 256 3 (.slice (some ⟨g,0,none⟩) n cap) n (flat (pre++a.toList++post))
 good:∀ x,x ∈ a.toList→x.good d
 keep:Keep (fun b _=>b=g) w0 w
 inc0:bz d w0
 lt:g < w0.heap.size
 hb:Hb < w0.heap.size
 ne:Hb≠g
 out:cq d g
variable {d w0 w:World} {Hb ho g n cap p cw:Nat} {pre post:List KR} {a:Array KR}
theorem KWin.inc (h:KWin d w0 w Hb ho g n cap p cw pre post a):bz d w:=h.inc0.keep h.keep (by rintro x _ rfl; exact h.out _)
theorem KWin.at (h:KWin d w0 w Hb ho g n cap p cw pre post a) {i:Nat} (hi:i < a.size) :
    w.cell? ⟨g,p+i * 3,none⟩=some (.int .u64 a[i]!.k.tr)∧w.cell? ⟨g,p+i * 3+1,none⟩=some a[i]!.sv∧w.cell? ⟨g,p+i * 3+2,none⟩=some a[i]!.vv∧a[i]!.good d:=by
 have e:a.toList[i]? = some a[i]! := by rw [aG a i hi]; simp [hi]
 have e2:(pre++a.toList++post)[pre.length+i]? = some a[i]! := by
  rw [bt,bP (by omega),Nat.add_sub_cancel_left,bG (by simpa using hi)]
  exact e
 obtain ⟨h1,h2,h3⟩:=dz e2
 have hp:=h.hp
 rw [show (pre.length+i) * 3=p+i * 3 by omega] at h1 h2 h3
 exact ⟨av h.own h1,av h.own h2,av h.own h3,h.good _ (aJ e)⟩
theorem KWin.swapped (h:KWin d w0 w Hb ho g n cap p cw pre post a) {i j:Nat} (hi:i < a.size) (hj:j < a.size) :
    KWin d w0 ((((((w.setCell ⟨g,p+i * 3,none⟩ (.int .u64 a[j]!.k.tr)).setCell ⟨g,p+i * 3+1,none⟩ a[j]!.sv).setCell ⟨g,p+i * 3+2,none⟩ a[j]!.vv).setCell ⟨g,p+j * 3,none⟩ (.int .u64 a[i]!.k.tr)).setCell ⟨g,p+j * 3+1,none⟩ a[i]!.sv).setCell ⟨g,p+j * 3+2,none⟩ a[i]!.vv) Hb ho g n cap p cw pre post (swp a i j):=by
 have hp:=h.hp
 subst hp
 have e1:=bp (bp (bp (bp (bp (bp h.own (pre.length * 3+i * 3) (.int .u64 a[j]!.k.tr)) (pre.length * 3+i * 3+1) a[j]!.sv) (pre.length * 3+i * 3+2) a[j]!.vv) (pre.length * 3+j * 3) (.int .u64 a[i]!.k.tr)) (pre.length * 3+j * 3+1) a[i]!.sv) (pre.length * 3+j * 3+2) a[i]!.vv
 rw [ui _ _ _ _ _ (by simpa using hi),ui _ _ _ _ _ (by simpa using hj)] at e1
 have ne:=h.ne
 have ne2:=Ne.symm ne
 have es:(swp a i j).toList=(a.toList.set i a[j]!).set j a[i]! := by simp [swp]
 have hz:(swp a i j).size=a.size:=swp_size a i j
 refine ⟨?_,rfl,?_,?_,?_,h.inc0,h.lt,h.hb,ne,h.out⟩
 ·have:=h.hd
  rw [hz]
  exact bb @this
 ·rw [es]; exact e1
 ·intro x hx
  rw [es] at hx
  rcases List.mem_or_eq_of_mem_set hx with hx | rfl
  ·rcases List.mem_or_eq_of_mem_set hx with hx | rfl
   ·exact h.good x hx
   ·exact (h.at hj).2.2.2
  ·exact (h.at hi).2.2.2
 ·exact ((((((h.keep.set (fun _=>rfl)).set (fun _=>rfl)).set (fun _=>rfl)).set (fun _=>rfl)).set (fun _=>rfl)).set (fun _=>rfl))
theorem KWin.drew (h:KWin d w0 w Hb ho g n cap p cw pre post a):KWin d w0 w.drew Hb ho g n cap p cw pre post a:=⟨h.hd,h.hp,h.own.drew,h.good,h.keep.drew,h.inc0,h.lt,h.hb,h.ne,h.out⟩
theorem KWin.alloc (h:KWin d w0 w Hb ho g n cap p cw pre post a) (ob:Obj):KWin d w0 (w.alloc ob) Hb ho g n cap p cw pre post a:=⟨(aL ob).cell h.hd,h.hp,h.own.alloc ob,h.good,h.keep.alloc ob,h.inc0,h.lt,h.hb,h.ne,h.out⟩
theorem KWin.set {b o:Nat} {v:Value} (h:KWin d w0 w Hb ho g n cap p cw pre post a) (hb:w0.heap.size≤b):KWin d w0 (w.setCell ⟨b,o,none⟩ v) Hb ho g n cap p cw pre post a:=by
 have h1:=h.lt
 have h2:=h.hb
 have kk:Keep (fun x _=>x=b) w (w.setCell ⟨b,o,none⟩ v):=bR rfl
 refine ⟨kk.some h.hd (by omega),h.hp,aZ h.own kk (fun g' hg o' he => ?_),h.good,h.keep.set (fun hlt=>by omega),h.inc0,h1,h2,h.ne,h.out⟩
 simp only [Value.ownBlock,aK] at hg
 omega
end Go.E
namespace Go.Proofs
open Go Go.E Go.Sort Go.Proofs.Tryz
section
variable {k:aq} {d w0 w:World} {Hb ho g n cap p cw:Nat} {pre post:List KR} {a:Array KR}
theorem m7 (h:KWin d w0 w Hb ho g n cap p cw pre post a) {i j:Nat} (hi:i < a.size) (hj:j < a.size) (hk:k (.bool (AW a[i]! a[j]!)) w.drew):aX prog 279 #[.pointer (some ⟨Hb,ho,none⟩),.int .i64 i,.int .i64 j] k w:=by
 have c0:=h.hd
 obtain ⟨p1,_,_,_⟩:=h.at hi
 obtain ⟨q1,_,_,_⟩:=h.at hj
 refine ai [.tmp 6] func279 ?_
 refine al ?_
 refine ay (sq [0,1] (.read 2 (sq [3,4,5] (.read 6 (sq [7,8] (.read 9 (sq [10,11,12] (.read 13 (sq [14,15] .done))))))))) ?_
 refine eI @c0 @p1 @q1 ?_
 have e:decide ((a[j]!.k.tr:Int) < (a[i]!.k.tr:Int))=AW a[i]! a[j]! := by unfold AW; rw [decide_eq_decide]; omega
 rw [e]; exact hk
theorem m9 (h:KWin d w0 w Hb ho g n cap p cw pre post a) {i j:Nat} (hi:i < a.size) (hj:j < a.size) (hk:∀ w',KWin d w0 w' Hb ho g n cap p cw pre post (swp a i j)→w.heap.size≤w'.heap.size→(∀ b,b≠g→w'.heap[b]? = w.heap[b]?)→k (.tuple #[]) w') :
    aX prog 280 #[.pointer (some ⟨Hb,ho,none⟩),.int .i64 i,.int .i64 j] k w:=by
 have c0:=h.hd
 obtain ⟨p1,p2,p3,p4⟩:=h.at hi
 obtain ⟨q1,q2,q3,q4⟩:=h.at hj
 obtain ⟨a1,n1,e1⟩:=bI p4.2.1
 obtain ⟨a2,n2,e2⟩:=bI p4.2.2
 obtain ⟨a3,n3,e3⟩:=bI q4.2.1
 obtain ⟨a4,n4,e4⟩:=bI q4.2.2
 have ne:=h.ne
 have ne2:=Ne.symm ne
 have fg:∀ o,w.frozen? ⟨g,o,none⟩=false:=fun o=>cS h.own rfl o
 have hsw:=h.swapped hi hj
 rw [e1,e2,e3,e4] at hsw
 rw [e1] at p2
 rw [e2] at p3
 rw [e3] at q2
 rw [e4] at q3
 refine ai [] func280 ?_
 refine ay (sq [0,1] (.read 2 (sq [3,4,5] (.read 6 (sq [7,8,9] (.read 10 (sq [11,12] (.read 13 (sq [14,15] (.read 16 (sq [17,18] (.read 19 (sq [20] (.eff 21 [] (sq [22] (.eff 23 [] .done)))))))))))))))) ?_
 have hd:∀ W:World,W.drew.heap=W.heap:=fun _=>rfl
 by_cases hij:i=j
 ·subst hij
  have x1:=e1.symm.trans e3
  have x2:=e2.symm.trans e4
  simp only [aW,true_and] at x1 x2
  obtain ⟨rfl,rfl⟩:=x1
  obtain ⟨rfl,rfl⟩:=x2
  refine gH @c0 @p1 @p2 @p3 @fg ?_
  refine hk _ hsw.drew ?_ ?_
  ·simp only [World.size_drew,World.size_setCell]; exact aD _
  ·intro b hb
   rw [hd]
   simp only [fJ hb]
 ·have d1:p+i * 3≠p+j * 3:=by omega
  refine xS @c0 @p1 @p2 @p3 @q1 @q2 @q3 @fg ?_
  refine hk _ hsw.drew ?_ ?_
  ·simp only [World.size_drew,World.size_setCell]; exact aD _
  ·intro b hb
   rw [hd]
   simp only [fJ hb]
theorem I9:Srt prog (.iface 263 (.pointer (some ⟨Hb,ho,none⟩))) AW w0.heap.size (fun w b=>KWin d w0 w Hb ho g n cap p cw pre post b∧b.size < 1000000) where
 size h:=h.1.keep.size
 small h:=by omega
 less' h hi hj hk:=by
  rw [Tryz.iv263_Less]
  exact m7 h.1 hi hj (hk _ ⟨h.1.drew,h.2⟩ rfl)
 swap' h hi hj hk:=by
  rw [Tryz.iv263_Swap]
  refine m9 h.1 hi hj fun w' h2 h3 h4=>hk w' ⟨h2,by rw [swp_size]; exact h.2⟩ h3 fun b hb _=>h4 b ?_
  have:=h.1.lt
  omega
 alloc ob h:=⟨h.1.alloc ob,h.2⟩
 set h hb:=⟨h.1.set hb,h.2⟩
 drew h:=⟨h.1.drew,h.2⟩
theorem wB (h:KWin d w0 w Hb (ho+1) g n cap p cw pre post a) (hc:w.cell? ⟨Hb,ho,none⟩=some (.func (.func 102) #[] #[])) {i j:Nat} (hi:i < a.size) (hj:j < a.size) (hk:k (.bool (rM a[i]! a[j]!)) w.drew) :
    aX prog 271 #[.pointer (some ⟨Hb,ho,none⟩),.int .i64 i,.int .i64 j] k w:=by
 have c0:=h.hd
 obtain ⟨_,p2,_,p4⟩:=h.at hi
 obtain ⟨_,q2,_,q4⟩:=h.at hj
 have hinc:=h.inc
 refine ai [.tmp 6] func271 ?_
 refine al ?_
 refine ay (sq [0,1,2] (.read 3 (sq [4,5,6] (.read 7 (sq [8,9,10] (.read 11 (sq [12,13,14] (.read 15 (sq [16,17,18] (.read 19 (.eff 20 [] (sq [21,22] .done)))))))))))) ?_
 refine fW @hc @c0 @p2 @q2 ?_
 refine fG (p4.2.1.inc hinc) (q4.2.1.inc hinc) ?_
 refine al ?_
 have e:decide (eY a[i]!.k.suf a[j]!.k.suf < 0)=rM a[i]! a[j]! := by unfold rM; simp [kW]
 rw [e]; exact hk
theorem wC (h:KWin d w0 w Hb (ho+1) g n cap p cw pre post a) {i j:Nat} (hi:i < a.size) (hj:j < a.size) (hk:∀ w',KWin d w0 w' Hb (ho+1) g n cap p cw pre post (swp a i j)→w.heap.size≤w'.heap.size→(∀ b,b≠g→w'.heap[b]? = w.heap[b]?)→k (.tuple #[]) w') :
    aX prog 272 #[.pointer (some ⟨Hb,ho,none⟩),.int .i64 i,.int .i64 j] k w:=by
 have c0:=h.hd
 obtain ⟨p1,p2,p3,p4⟩:=h.at hi
 obtain ⟨q1,q2,q3,q4⟩:=h.at hj
 obtain ⟨a1,n1,e1⟩:=bI p4.2.1
 obtain ⟨a2,n2,e2⟩:=bI p4.2.2
 obtain ⟨a3,n3,e3⟩:=bI q4.2.1
 obtain ⟨a4,n4,e4⟩:=bI q4.2.2
 have ne:=h.ne
 have ne2:=Ne.symm ne
 have fg:∀ o,w.frozen? ⟨g,o,none⟩=false:=fun o=>cS h.own rfl o
 have hsw:=h.swapped hi hj
 rw [e1,e2,e3,e4] at hsw
 rw [e1] at p2
 rw [e2] at p3
 rw [e3] at q2
 rw [e4] at q3
 refine ai [] func272 ?_
 refine ay (sq [0,1,2] (.read 3 (sq [4,5,6,7] (.read 8 (sq [9,10,11,12] (.read 13 (sq [14,15] (.read 16 (sq [17,18,19] (.read 20 (sq [21,22] (.read 23 (sq [24] (.eff 25 [] (sq [26] (.eff 27 [] .done)))))))))))))))) ?_
 have hd:∀ W:World,W.drew.heap=W.heap:=fun _=>rfl
 by_cases hij:i=j
 ·subst hij
  have x1:=e1.symm.trans e3
  have x2:=e2.symm.trans e4
  simp only [aW,true_and] at x1 x2
  obtain ⟨rfl,rfl⟩:=x1
  obtain ⟨rfl,rfl⟩:=x2
  refine gH @c0 @p1 @p2 @p3 @fg ?_
  refine hk _ hsw.drew ?_ ?_
  ·simp only [World.size_drew,World.size_setCell]; exact aD _
  ·intro b hb
   rw [hd]
   simp only [fJ hb]
 ·have d1:p+i * 3≠p+j * 3:=by omega
  refine xS @c0 @p1 @p2 @p3 @q1 @q2 @q3 @fg ?_
  refine hk _ hsw.drew ?_ ?_
  ·simp only [World.size_drew,World.size_setCell]; exact aD _
  ·intro b hb
   rw [hd]
   simp only [fJ hb]
theorem Ff (hc:w0.cell? ⟨Hb,ho,none⟩=some (.func (.func 102) #[] #[])):Srt prog (.iface 252 (.pointer (some ⟨Hb,ho,none⟩))) rM w0.heap.size (fun w b=>KWin d w0 w Hb (ho+1) g n cap p cw pre post b∧b.size < 1000000) where
 size h:=h.1.keep.size
 small h:=by omega
 less' h hi hj hk:=by
  rw [Tryz.iv252_Less]
  exact wB h.1 (h.1.keep.some hc h.1.ne) hi hj (hk _ ⟨h.1.drew,h.2⟩ rfl)
 swap' h hi hj hk:=by
  rw [Tryz.iv252_Swap]
  refine wC h.1 hi hj fun w' h2 h3 h4=>hk w' ⟨h2,by rw [swp_size]; exact h.2⟩ h3 fun b hb _=>h4 b ?_
  have:=h.1.lt
  omega
 alloc ob h:=⟨h.1.alloc ob,h.2⟩
 set h hb:=⟨h.1.set hb,h.2⟩
 drew h:=⟨h.1.drew,h.2⟩
end
end Go.Proofs
end
section
namespace Go.E
open Go Go.Sort Go.Proofs Go.Proofs.Tryz
structure Con (c1 c:List KR) (u t:Nat) (acc:List KR):Prop where
 len:c1.length=c.length
 pre:c1.take u=c.take u
 post:c1.drop t=c.drop t
 win:(c1.drop u).take acc.length=acc
 le:u+acc.length≤t
 tn:t≤c.length
theorem Con.refl {c:List KR} {u:Nat} (h:u≤c.length):Con c c u u []:=⟨rfl,rfl,rfl,rfl,aD _,h⟩
theorem Con.mono {c1 c acc:List KR} {u t t2:Nat} (h:Con c1 c u t acc) (h2:t≤t2) (h3:t2≤c.length):Con c1 c u t2 acc:=by
 refine ⟨h.len,h.pre,?_,h.win,aU h.le h2,h3⟩
 obtain ⟨e,rfl⟩:∃ e,t2=t+e:=⟨t2 - t,by omega⟩
 rw [← List.drop_drop,← List.drop_drop,h.post]
theorem Con.at {c1 c acc:List KR} {u t i:Nat} (h:Con c1 c u t acc) (hi:t≤i):c1[i]? = c[i]? := by
 have:=congrArg (fun l=>l[i - t]?) h.post
 simp only [List.getElem?_drop] at this
 rwa [show t+(i - t)=i by omega] at this
theorem Con.get {c1 c acc:List KR} {u t i:Nat} (h:Con c1 c u t acc) (hi:i < acc.length):c1[u+i]? = acc[i]? := by
 have:=congrArg (fun l=>l[i]?) h.win
 simp only [List.getElem?_take,hi,if_true,List.getElem?_drop] at this
 exact this
theorem Con.split {c1 c acc:List KR} {u t:Nat} (h:Con c1 c u t acc):c.take u++acc++c1.drop (u+acc.length)=c1:=by
 rw [← h.pre,bt]
 conv=>lhs; rhs; lhs; rw [← h.win]
 rw [← List.drop_drop,dU,dU]
theorem Con.ul {c1 c acc:List KR} {u t:Nat} (h:Con c1 c u t acc):(c.take u).length=u:=by
 have:=h.le; have:=h.tn
 rw [ar]; omega
theorem Con.sort {c1 c acc s:List KR} {u t:Nat} (h:Con c1 c u t acc) (hs:s.length=acc.length):Con (c.take u++s++c1.drop (u+acc.length)) c u t s:=by
 have hu:=h.ul
 have h1:=h.len; have h2:=h.le; have h3:=h.tn
 refine ⟨by simp; omega,?_,?_,?_,by omega,h3⟩
 ·rw [bt,List.take_append_of_le_length (by omega),eC (by omega)]
 ·rw [← h.post]
  obtain ⟨e,rfl⟩:∃ e,t=(u+acc.length)+e:=⟨t - (u+acc.length),by omega⟩
  have hlen:(c.take u++s).length=u+acc.length:=by rw [aM,hu,hs]
  rw [← List.drop_drop (i:=e),show ∀ y:List KR,List.drop (u+acc.length) (c.take u++s++y)=y from fun y=>by rw [← hlen,List.drop_left],List.drop_drop]
 ·rw [bt,List.drop_append_of_le_length (by omega),List.drop_of_length_le (by omega),List.nil_append,List.take_append_of_le_length (aD _),aT]
theorem Con.take {c1 c acc:List KR} {u t k:Nat} (h:Con c1 c u t acc):Con c1 c u t (acc.take k):=by
 have:=h.le
 refine ⟨h.len,h.pre,h.post,?_,by rw [ar]; omega,h.tn⟩
 have hl:acc.length≤(c1.drop u).length:=by
  have:acc.length=((c1.drop u).take acc.length).length:=by rw [h.win]
  rw [ar] at this; omega
 rw [ar]
 conv=>rhs; rw [← h.win,List.take_take]
theorem Con.set {c1 c acc:List KR} {u t i:Nat} {x:KR} (h:Con c1 c u t acc) (hi:i < acc.length):Con (c1.set (u+i) x) c u t (acc.set i x):=by
 have h2:=h.le
 refine ⟨by simpa using h.len,?_,?_,?_,by simpa using h2,h.tn⟩
 ·rw [List.take_set_of_le (by omega)]; exact h.pre
 ·rw [List.drop_set_of_lt (by omega)]; exact h.post
 ·rw [bk,List.drop_set,if_neg (by omega),Nat.add_sub_cancel_left,List.take_set,h.win]
theorem Con.app {c1 c acc:List KR} {u t:Nat} {x:KR} (h:Con c1 c u t acc) (hl:u+acc.length < t):Con (c1.set (u+acc.length) x) c u t (acc++[x]):=by
 have h1:=h.len; have h2:=h.tn
 refine ⟨by simpa using h1,?_,?_,?_,by simp; omega,h2⟩
 ·rw [List.take_set_of_le (by omega)]; exact h.pre
 ·rw [List.drop_set_of_lt (by omega)]; exact h.post
 ·rw [List.drop_set,if_neg (by omega),Nat.add_sub_cancel_left,aM,aY,List.take_add_one,List.take_set_of_le (aD _),h.win,List.getElem?_set_self (by rw [List.length_drop]; omega)]
  rfl
theorem Con.cat {c2 c1 c acc R:List KR} {t t2:Nat} (h:Con c1 c 0 t acc) (h2:Con c2 c1 acc.length t2 R) (ht:t≤t2):Con c2 c 0 t2 (acc++R):=by
 have e:=h.win
 have e2:=h2.win
 rw [List.drop_zero] at e
 refine ⟨h2.len.trans h.len,rfl,h2.post.trans (h.mono ht (by rw [← h.len]; exact h2.tn)).post,?_,by have:=h2.le; simp; omega,by rw [← h.len]; exact h2.tn⟩
 rw [List.drop_zero,aM,List.take_add,h2.pre,e,e2]
theorem wD {w:World} {g n cap j:Nat} {xs news:List Value} (h:w.ownsRow 0 256 3 (.slice (some ⟨g,0,none⟩) n cap) n xs) (hx:∀ i u,news[i]? = some u→xs[j+i]? = some u) :
    (w.setCells g j news).ownsRow 0 256 3 (.slice (some ⟨g,0,none⟩) n cap) n xs:=by
 induction news generalizing w j with
 | nil=>exact h
 | cons u us ih =>
  have h0:=hx 0 u rfl
  rw [Nat.add_zero] at h0
  have hs:=bp h j u
  have hl:=(aP.1 h0).1
  have hh:=(aP.1 h0).2
  rw [show xs.set j u=xs by rw [← hh]; exact List.set_getElem_self hl] at hs
  exact ih hs fun i v hv=>by
   have:=hx (i+1) v (by simpa using hv)
   rwa [show j+(i+1)=j+1+i by omega] at this
theorem nG {M:Nat→Nat→Prop} {w:World} {g j:Nat} {news:List Value} (h:∀ x,M g x):Keep M w (w.setCells g j news):=by
 induction news generalizing w j with
 | nil=>exact Keep.refl _ w
 | cons u us ih=>exact (bR (h _)).trans ih
end Go.E
namespace Go.Proofs
open Go Go.E Go.Sort Go.Proofs.Tryz
section
variable {k:aq} {d w:World} {Hb ho g n cap p cw:Nat} {pre post l:List KR}
theorem yE {tag:KR→Nat} (h:KWin d w w Hb (ho+1) g n cap p cw pre post l.toArray) (hc:w.cell? ⟨Hb,ho,none⟩=some (.func (.func 102) #[] #[])) (hO:kA rM tag l.toArray) (hz:l.length < 1000000)
    (hk:∀ w' (l':List KR),KWin d w w' Hb (ho+1) g n cap p cw pre post l'.toArray→Mg rM tag 0 l.length l.toArray l'.toArray→l'.length=l.length→k (.tuple #[]) w') :
    aX prog 141 #[.iface 252 (.pointer (some ⟨Hb,ho,none⟩))] k w:=by
 refine nj (Ff (d:=d) (w0:=w) (g:=g) (cap:=cap) hc) vh (tag:=tag) (d:=l.toArray) ⟨h,by simpa using hz⟩ hO (fun {w2 d2 k2} hR hk2 => ?_) fun w' d' h1 h2 => ?_
 ·rw [Tryz.iv252_Len]
  exact vr hR.1.hd hk2
 ·have hsz:d'.size=l.length:=by have:=h2.1.1; simpa using this
  exact hk w' d'.toList (by simpa using h1.1) (by simpa using h2) (by simpa using hsz)
theorem zj (h:KWin d w w Hb ho g n cap p cw pre post l.toArray) (hz:l.length < 1000000)
    (hk:∀ w' (l':List KR),KWin d w w' Hb ho g n cap p cw pre post l'.toArray→l'.length=l.length→l'.map KR.k=mB (l.map KR.k)→k (.tuple #[]) w') :
    aX prog 122 #[.iface 263 (.pointer (some ⟨Hb,ho,none⟩))] k w:=by
 have S:Srt prog (.iface 263 (.pointer (some ⟨Hb,ho,none⟩))) Ez w.heap.size (fun w' (b:Array K)=>∃ a:Array KR,KWin d w w' Hb ho g n cap p cw pre post a∧a.map KR.k=b∧a.size < 1000000):=by
  refine ⟨fun ⟨a,h,_⟩=>h.keep.size,fun ⟨a,h,e,hz⟩=>by rw [← e]; simp; omega,fun {w' b i j k} ⟨a,h,e,hz⟩ hi hj hk => ?_,fun {w' b i j k} ⟨a,h,e,hz⟩ hi hj hk => ?_,fun ob ⟨a,h,e,hz⟩=>⟨a,h.alloc ob,e,hz⟩,fun ⟨a,h,e,hz⟩ hb=>⟨a,h.set hb,e,hz⟩,fun ⟨a,h,e,hz⟩=>⟨a,h.drew,e,hz⟩⟩
  ·subst e
   have hi:i < a.size:=by simpa using hi
   have hj:j < a.size:=by simpa using hj
   rw [Tryz.iv263_Less]
   refine m7 h hi hj ?_
   have:=hk w'.drew ⟨a,h.drew,rfl,hz⟩ rfl
   rwa [mC hi,mC hj] at this
  ·subst e
   have hi:i < a.size:=by simpa using hi
   have hj:j < a.size:=by simpa using hj
   rw [Tryz.iv263_Swap]
   have hg:=h.lt
   refine m9 h hi hj fun w2 h2 h3 h4=>hk w2 ⟨_,h2,Ad hi hj,by rw [swp_size]; exact hz⟩ h3 fun b hb _=>h4 b ?_
   omega
 refine mW S rN (d:=(l.map KR.k).toArray) ⟨l.toArray,h,by simp,by simpa using hz⟩ (fun {w2 d2 k2} hR hk2 => ?_) fun w' d' h0 h1 h2 h3 => ?_
 ·obtain ⟨a,hR,e,_⟩:=hR
  subst e
  rw [Array.size_map] at hk2
  rw [Tryz.iv263_Len]
  exact mA hR.hd hk2
 ·obtain ⟨a,hR,e,_⟩:=h1
  have hsz:a.size=l.length:=by have:=h2.1; rw [← e] at this; simpa using this
  have em:a.toList.map KR.k=d'.toList:=by rw [← e]; simp
  exact hk w' a.toList (by simpa using hR) (by simpa using hsz) (by rw [em,h0]; rfl)
end
end Go.Proofs
end
