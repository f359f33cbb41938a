/- Parts of the proof: Tr, Sy. -/
import Derived.Test.YtjcbeinpkafjiaaGreatU11
set_option linter.all false
section
set_option maxRecDepth 10000
namespace Go.E
open Go Go.Sort Go.Proofs Go.Proofs.Tryz
theorem delL_kind {snap:Nat} {l:List KR} {x:KR} (h:delL snap l=some x):kindT x.k.tr=19:=by
 induction l with
 | nil=>simp [delL] at h
 | cons y l ih =>
  rw [delL_cons] at h
  split at h
  ·split at h
   ·simp only [Option.some.injEq] at h
    subst h; assumption
   ·exact ih h
  ·exact ih h
theorem KOwn.drew {d w:World} {Hb ho:Nat} {v:Value} {l:List KR} (h:KOwn d w Hb ho v l):KOwn d w.drew Hb ho v l:=⟨h.hd,h.own.drew,h.good⟩
theorem KOwn.keep {d w w2:World} {Hb ho:Nat} {v:Value} {l:List KR} {M:Nat→Nat→Prop} (h:KOwn d w Hb ho v l) (hk:Keep M w w2) (h1:¬ M Hb ho) (h2:∀ g,v.ownBlock=some g→∀ x,¬ M g x):KOwn d w2 Hb ho v l:=⟨hk.some h.hd h1,own_keep h.own hk h2,h.good⟩
end Go.E
namespace Go.Proofs
open Go Go.E Go.Sort Go.Proofs.Tryz
section
variable {k:Kont} {d w:World}
theorem appIn {g n cap j:Nat} {c:List KR} {x:KR} (o:w.ownsRow 0 256 3 (.slice (some ⟨g,0,none⟩) n cap) n (flat c)) (hc:c.length=n) (hj:j < n) (hcap:n≤cap) (hg:x.good d) :
    ∃ w6,(∀ q:Kont,apX prog #[110,110] 110 #[.slice (some ⟨g,0,none⟩) j cap,.slice (some ⟨w.heap.size,0,none⟩) 1 1] q (w.alloc (.cells x.cells.toArray 256)).drew=q (.slice (some ⟨g,0,none⟩) (j+1) cap) w6) ∧
     w6.ownsRow 0 256 3 (.slice (some ⟨g,0,none⟩) n cap) n (flat (c.set j x))∧Keep (fun b o=>b=g∧j * 3≤o∧o < j * 3+3) w w6:=by
 obtain ⟨w5,hw5⟩:∃ w5,w5=w.alloc (.cells x.cells.toArray 256):=⟨_,rfl⟩
 rw [← hw5]
 have k5:Ext w w5:=by rw [hw5]; exact ext_alloc _
 obtain ⟨w6,hw6⟩:∃ w6,w6=(((w5.setCell ⟨g,j * 3,none⟩ (.int .u64 x.k.tr)).setCell ⟨g,j * 3+1,none⟩ x.sv).setCell ⟨g,j * 3+2,none⟩ x.vv):=⟨_,rfl⟩
 have hclen:(flat c).length=n * 3:=by rw [flat_length,hc]
 refine ⟨w6.drew,?_,?_,?_⟩
 ·intro q
  have:=appRoom (k:=q) (w:=w5.drew) (by_:=56) (ty:=110) (news:=x.cells) (m:=1) (c:=1) (cap:=cap) (b:=g) (off:=0) (n:=j) (a:=⟨w.heap.size,0,none⟩) rw110 rfl ?_ (oneCell_good hg) (by omega) ?_ ?_
  ·rw [Nat.zero_add] at this
   rw [hw6]; exact this
  ·intro i u hu
   rw [addr_add rfl,Nat.zero_add,hw5]
   rw [show (w.alloc (Obj.cells x.cells.toArray 256)).drew.cell? ⟨w.heap.size,i,none⟩=(w.alloc (Obj.cells x.cells.toArray 256)).cell? ⟨w.heap.size,i,none⟩ from rfl]
   refine goZ ?_
   simpa using hu
  ·intro i hi
   have hi:i < 3:=hi
   have:(flat c)[j * 3+i]? = some (flat c)[j * 3+i]:=List.getElem?_eq_getElem (by omega)
   rw [Nat.zero_add]
   exact ⟨_,(k5.cell (own_cell o this):w5.drew.cell? _=_)⟩
  ·intro i
   have:=own_frozen (own_keep o k5 (fun _ _ _ h=>h)) rfl i
   exact this
 ·have:=own_set (own_set (own_set (own_keep o k5 (fun _ _ _ h=>h)) (j * 3) (.int .u64 x.k.tr)) (j * 3+1) x.sv) (j * 3+2) x.vv
  rw [flat_set c j x (by omega),← hw6] at this
  exact this.drew
 ·rw [hw6]
  exact (((k5.keep.set (fun _=>⟨rfl,by omega,by omega⟩)).set (fun _=>⟨rfl,by omega,by omega⟩)).set (fun _=>⟨rfl,by omega,by omega⟩)).drew
def trM (U Bf:Nat) (vk vs:Value):Nat→Nat→Prop:=fun b x=>b=U∧6≤x∧x≤9∨b=Bf∧9≤x∧x≤10∨vk.ownBlock=some b∨vs.ownBlock=some b
set_option maxHeartbeats 1000000 in
theorem Transform_run {U Bf C snap cap:Nat} {ka sa ea:Option Addr} {sn sc en ec:Nat} {vs:Value} {l ls:List KR}
    (u0:w.cell? ⟨U,0,none⟩=some (.int .u64 snap)) (u1:w.cell? ⟨U,1,none⟩=some (.pointer (some ⟨C,0,none⟩))) (u93:w.cell? ⟨U,93,none⟩=some (.bool false)) (u94:w.cell? ⟨U,94,none⟩=some (.pointer (some ⟨Bf,0,none⟩)))
    (hC:d.cell? ⟨C,1,none⟩=some (.func (.func 103) #[] #[])) (c9:∃ v,w.cell? ⟨Bf,9,none⟩=some v) (hkey:KOwn d w Bf 0 (.slice ka l.length cap) l) (hsort:KOwn d w Bf 10 vs ls)
    (u6:∃ v,w.cell? ⟨U,6,none⟩=some v) (u7:∃ v,w.cell? ⟨U,7,none⟩=some v) (u8:w.cell? ⟨U,8,none⟩=some (.slice ka l.length cap)) (u9:∃ v,w.cell? ⟨U,9,none⟩=some v)
    (fU:∀ x,w.frozen? ⟨U,x,none⟩=false) (fB:∀ x,w.frozen? ⟨Bf,x,none⟩=false) (hinc:Inc d w) (oU:Out d U) (oB:Out d Bf) (hUB:Bf≠U)
    (hvk:∀ g,(Value.slice ka l.length cap).ownBlock=some g→g≠U∧g≠Bf∧Out d g) (hvs:∀ g,vs.ownBlock=some g→g≠U∧g≠Bf∧Out d g∧(Value.slice ka l.length cap).ownBlock≠some g)
    (hd:DK l) (hl:l.length < 100000) (hkind:∀ x ∈ l,kindT x.k.tr=19∨kindT x.k.tr=20∨kindT x.k.tr=21) (hs:snap < 18446744073709551616)
    (hk:∀ w' r c vs' ls',CoR snap l r→w'.cell? ⟨U,6,none⟩=some (.slice sa sn sc)→w'.cell? ⟨U,7,none⟩=some (.slice ea en ec)→w'.cell? ⟨U,8,none⟩=some (.slice ka (r.filter fun x=>kindT x.k.tr == 21).length cap)→w'.cell? ⟨U,9,none⟩=some (.int .i8 1) →
     KOwn d w' Bf 0 (.slice ka l.length cap) c→c.length=l.length→c.take (r.filter fun x=>kindT x.k.tr == 21).length=r.filter (fun x=>kindT x.k.tr == 21)→KOwn d w' Bf 10 vs' ls'→(∃ v,w'.cell? ⟨Bf,9,none⟩=some v)→Newer w vs vs'→Keep (trM U Bf (.slice ka l.length cap) vs) w w'→k .nilIface w') :
    callK prog 190 #[.pointer (some ⟨U,0,none⟩),.func (.func 102) #[] #[],.agg [.slice sa sn sc,.slice ea en ec,.slice ka l.length cap,.int .i8 0].toArray,.pointer (some ⟨U,6,none⟩)] k w:=by
 obtain ⟨v6,u6⟩:=u6
 obtain ⟨v7,u7⟩:=u7
 obtain ⟨v9,u9⟩:=u9
 obtain ⟨b9,c9⟩:=c9
 obtain ⟨va,vcap,hvse,hvcap,hvm⟩:=own_slice hsort.own
 subst hvse
 have c10:=hsort.hd
 have hUs:=lt_of_cell u0
 have hBs:=lt_of_cell c9
 have hUB':=Ne.symm hUB
 have z0:(0:Int).toNat=0:=rfl
 have zc:(0:Int)≤vcap:=by omega
 refine callZ [.tmp 8] func190 ?_
 refine gY4 @u6 @u7 @fU @cell_newN ?_
 refine drawZ (sq [0,1,2] (.read 3 (sq [4,5,6,7] (.read 8 (sq [9,10,11] (.read 12 (sq [13,14,15,16] (.eff 17 [] .done)))))))) ?_
 simp (disch:=first | exact dZ | fail) only [go_sem,↓reduceIte,Nat.reduceEqDiff,Nat.reduceAdd,u94,c9,c10,fB,slH Tryz.es110,z0,zc,cell_newN]
 obtain ⟨w1,hw1⟩:∃ w1,w1=((((((w.setCell ⟨U,6,none⟩ (.slice sa sn sc)).setCell ⟨U,7,none⟩ (.slice ea en ec)).setCell ⟨Bf,9,none⟩ (.func (.func 102) #[] #[])).setCell ⟨Bf,10,none⟩ (.slice va 0 vcap)).alloc (.cells #[.slice sa sn sc,.slice ea en ec,.slice ka l.length cap,.int .i8 0] 114)).drew):=⟨_,rfl⟩
 rw [← hw1]
 obtain ⟨sb,hsb⟩:∃ sb,sb=w.heap.size:=⟨_,rfl⟩
 rw [← hsb]
 have k1:Keep (fun b x=>b=U∧6≤x∧x≤7∨b=Bf∧9≤x∧x≤10) w w1:=by
  rw [hw1]
  exact ((((((Keep.refl _ w).set (fun _ => .inl ⟨rfl,by omega,by omega⟩)).set (fun _ => .inl ⟨rfl,by omega,by omega⟩)).set (fun _ => .inr ⟨rfl,by omega,by omega⟩)).set (fun _ => .inr ⟨rfl,by omega,by omega⟩)).alloc _).drew
 have s0:w1.cell? ⟨sb,2,none⟩=some (.slice ka l.length cap):=by rw [hw1,hsb]; exact eY1 @cell_newN
 have s3:w1.cell? ⟨sb,3,none⟩=some (.int .i8 0):=by rw [hw1,hsb]; exact eY1 @cell_newN
 have p6:w1.cell? ⟨U,6,none⟩=some (.slice sa sn sc):=by rw [hw1]; exact eY1 @u6
 have p7:w1.cell? ⟨U,7,none⟩=some (.slice ea en ec):=by rw [hw1]; exact eY1 @u7
 have p9:w1.cell? ⟨Bf,9,none⟩=some (.func (.func 102) #[] #[]):=by rw [hw1]; exact eY1 @c9
 have p10:w1.cell? ⟨Bf,10,none⟩=some (.slice va 0 vcap):=by rw [hw1]; exact eY1 @c10
 have nU:∀ x,x < 6∨7 < x→¬ (U=U∧6≤x∧x≤7∨U=Bf∧9≤x∧x≤10):=by
  rintro x hx (⟨_,h⟩ | ⟨h,_⟩)
  ·omega
  ·exact hUB' h
 have nB:∀ x,x < 9∨10 < x→¬ (Bf=U∧6≤x∧x≤7∨Bf=Bf∧9≤x∧x≤10):=by
  rintro x hx (⟨h,_⟩ | ⟨_,h⟩)
  ·exact hUB h
  ·omega
 have nK:∀ g,(Value.slice ka l.length cap).ownBlock=some g→∀ x,¬ (g=U∧6≤x∧x≤7∨g=Bf∧9≤x∧x≤10):=by
  rintro g hg x (⟨h,_⟩ | ⟨h,_⟩)
  ·exact (hvk g hg).1 h
  ·exact (hvk g hg).2.1 h
 have u0:=k1.some u0 (nU _ (by omega))
 have u1:=k1.some u1 (nU _ (by omega))
 have u8:=k1.some u8 (nU _ (by omega))
 have u9:=k1.some u9 (nU _ (by omega))
 have u93:=k1.some u93 (nU _ (by omega))
 have u94:=k1.some u94 (nU _ (by omega))
 have key1:KOwn d w1 Bf 0 (.slice ka l.length cap) l:=⟨k1.some hkey.hd (nB _ (by omega)),own_keep hkey.own k1 nK,hkey.good⟩
 have sort1:KOwn d w1 Bf 10 (.slice va 0 vcap) []:=by
  refine ⟨p10,own_keep (own_clear hsort.own) k1 fun g hg x h => ?_,fun x h=>by simp at h⟩
  have:=hvs g (by rw [own_len va ls.length 0]; exact hg)
  rcases h with ⟨h,_⟩ | ⟨h,_⟩
  ·exact this.1 h
  ·exact this.2.1 h
 have inc1:Inc d w1:=hinc.keep k1 fun b x h=>by
  rcases h with ⟨rfl,_⟩ | ⟨rfl,_⟩
  ·exact oU x
  ·exact oB x
 have fU1:∀ x,w1.frozen? ⟨U,x,none⟩=false:=fun x=>by rw [k1.frozen U x hUs]; exact fU x
 have fB1:∀ x,w1.frozen? ⟨Bf,x,none⟩=false:=fun x=>by rw [k1.frozen Bf x hBs]; exact fB x
 have hsbl:sb < w1.heap.size:=lt_of_cell s0
 have hC1:=inc1 _ _ _ hC
 refine drawZ (sq [0,1,2] (.read 3 (sq [4,5] (.read 6 (sq [7,8,9] (.read 10 (sq [11,12,13,14,15] (.read 16 (sq [17] (.read 18 (.eff 19 [] (sq [20] .done)))))))))))) ?_
 refine gY5 @u0 @u1 @u94 @hC1 @s0 ?_
 obtain ⟨gk,hgk⟩:∃ gk,(0 < l.length→ka=some ⟨gk,0,none⟩)∧gk≠Bf∧KAt w1 gk l∧(0 < l.length→gk < w1.heap.size)∧(∀ g,(Value.slice va 0 vcap).ownBlock=some g→g≠gk):=by
  rcases own_form key1.own with ⟨h1,h2,_⟩ | ⟨g,c',h1,_,h3⟩
  ·have:l=[]:=List.length_eq_zero_iff.1 h2
   subst this
   refine ⟨U,fun h=>by simp at h,hUB',fun i x h=>by simp at h,fun h=>by simp at h,fun g hg=>(hvs g (by rw [own_len va ls.length 0]; exact hg)).1⟩
  ·simp only [Value.slice.injEq,true_and] at h1
   obtain ⟨rfl,rfl⟩:=h1
   refine ⟨g,fun _=>rfl,(hvk g rfl).2.1,fun i x hx => ?_,fun _=>h3,fun g' hg' he => ?_⟩
   ·obtain ⟨f1,f2,f3⟩:=flat_at hx
    exact ⟨own_cell key1.own f1,own_cell key1.own f2,own_cell key1.own f3⟩
   ·subst he
    exact (hvs g' (by rw [own_len va ls.length 0]; exact hg')).2.2.2 rfl
 obtain ⟨g1,g2,g3,g4,g5⟩:=hgk
 refine coalesce_run (d:=d) (ho:=9) (by exact p9) sort1.drew (by exact fB1) (fun g hg=>⟨(hvs g (by rw [own_len va ls.length 0]; exact hg)).2.1,g5 g hg,(hvs g (by rw [own_len va ls.length 0]; exact hg)).2.2.1⟩) g2 (oB _) g1 (by exact g3) (by exact g4) hkey.good (by exact inc1) hd hl hs fun w2 vs2 r sort2 hcr hrl k2 n2 => ?_
 have k2:Keep (rowM Bf 10 (.slice va 0 vcap)) w1 w2:=(Keep.refl _ w1).drew.trans k2
 have n2:Newer w1 (.slice va 0 vcap) vs2:=n2
 have hv0:∀ g,(Value.slice va 0 vcap).ownBlock=some g→g≠U∧g≠Bf∧Out d g∧(Value.slice ka l.length cap).ownBlock≠some g:=fun g hg=>hvs g (by rw [own_len va ls.length 0]; exact hg)
 have nU2:∀ x,¬ rowM Bf 10 (.slice va 0 vcap) U x:=by
  rintro x (⟨h,_⟩ | h)
  ·exact hUB' h
  ·exact (hv0 U h).1 rfl
 have nB2:∀ x,x≠10→¬ rowM Bf 10 (.slice va 0 vcap) Bf x:=by
  rintro x hx (⟨_,h⟩ | h)
  ·exact hx h
  ·exact (hv0 Bf h).2.1 rfl
 have nK2:∀ g,(Value.slice ka l.length cap).ownBlock=some g→∀ x,¬ rowM Bf 10 (.slice va 0 vcap) g x:=by
  rintro g hg x (⟨h,_⟩ | h)
  ·exact (hvk g hg).2.1 h
  ·exact (hv0 g h).2.2.2 hg
 have key2:=key1.keep k2 (nB2 _ (by omega)) nK2
 have p6:=k2.some p6 (nU2 _)
 have p7:=k2.some p7 (nU2 _)
 have u0:=k2.some u0 (nU2 _)
 have u1:=k2.some u1 (nU2 _)
 have u8:=k2.some u8 (nU2 _)
 have u9:=k2.some u9 (nU2 _)
 have u93:=k2.some u93 (nU2 _)
 have u94:=k2.some u94 (nU2 _)
 have hC2:=k2.some hC1 (by
  rintro (⟨h,_⟩ | h)
  ·exact Inc.ne hC oB h
  ·exact Inc.ne hC (hv0 _ h).2.2.1 rfl)
 have s0:=k2.some s0 (by
  rintro (⟨h,_⟩ | h)
  ·omega
  ·rcases own_form sort1.own with ⟨e,_⟩ | ⟨g,c',e,_,hg⟩
   ·rw [e] at h; simp [Value.ownBlock] at h
   ·simp only [Value.slice.injEq] at e
    obtain ⟨rfl,_,_⟩:=e
    simp only [Value.ownBlock,Option.some.injEq] at h
    have hz:(Value.slice (some ⟨g,0,none⟩) ls.length vcap).ownBlock=some g:=rfl
    rcases own_form hsort.own with ⟨e,_⟩ | ⟨g',c'',e,_,hg'⟩
    ·simp at e
    ·simp only [Value.slice.injEq,Option.some.injEq,Addr.mk.injEq] at e
     omega)
 have fU2:∀ x,w2.frozen? ⟨U,x,none⟩=false:=fun x=>by rw [k2.frozen U x (lt_of_cell (k1.some (by assumption) (nU 0 (by omega))))]; exact fU1 x
 obtain ⟨R,hR⟩:∃ R,R=r++(delL snap l).toList:=⟨_,rfl⟩
 rw [← hR] at sort2
 obtain ⟨ra,rcap,hre,hrcap,hrm⟩:=own_slice sort2.own
 subst hre
 have p10:=sort2.hd
 have zk:(0:Int)≤cap:=by omega
 simp (disch:=first | exact dZ | fail) only [go_sem,↓reduceIte,Nat.reduceEqDiff,Nat.reduceAdd,s0,u0,u94,hC2,u1,u93,p10,u8,slH Tryz.es110,z0,zk,fU2]
 obtain ⟨w3,hw3⟩:∃ w3,w3=w2.setCell ⟨U,8,none⟩ (.slice ka 0 cap):=⟨_,rfl⟩
 rw [← hw3]
 have k23:Keep (fun b x=>b=U∧x=8∨(Value.slice ka l.length cap).ownBlock=some b) w2 w3:=by rw [hw3]; exact keep_set (.inl ⟨rfl,rfl⟩)
 have q8:w3.cell? ⟨U,8,none⟩=some (.slice ka 0 cap):=by rw [hw3]; exact eY1 @u8
 have hkU:∀ g,(Value.slice ka l.length cap).ownBlock=some g→g≠U:=fun g hg=>(hvk g hg).1
 have k23':Keep (fun b x=>b=U∧x=8) w2 w3:=by rw [hw3]; exact keep_set ⟨rfl,rfl⟩
 have key3:w3.ownsRow 0 256 3 (.slice ka l.length cap) l.length (flat l):=own_keep key2.own k23' fun g hg x h=>hkU g hg h.1
 have hUs2:U < w1.heap.size:=Nat.lt_of_lt_of_le hUs k1.size
 have hsR:∀ g,(Value.slice ra R.length rcap).ownBlock=some g→g≠U∧(Value.slice ka l.length cap).ownBlock≠some g:=fun g hg=>by
  rcases n2 g hg with h | h
  ·exact ⟨(hv0 g h).1,(hv0 g h).2.2.2⟩
  ·refine ⟨by omega,fun he => ?_⟩
   have:=(key1.own.lt g he).2
   omega
 have hRl:∀ x ∈ R,x ∈ l:=fun x hx=>by
  rw [hR] at hx
  rcases List.mem_append.1 hx with h | h
  ·exact hcr.sub h
  ·exact delL_mem (by simpa using h)
 refine loopC (fun i:Nat=>[(3,.pointer (some ⟨U,6,none⟩)),(10,.slice ra R.length rcap),(102,.int .i64 R.length),(103,.int .i64 i)])
  (fun i w'=>∃ c,w'.ownsRow 0 256 3 (.slice ka l.length cap) l.length (flat c)∧c.length=l.length∧(∀ x ∈ c,x.good d)∧c.take ((R.take i).filter fun x=>kindT x.k.tr == 21).length=(R.take i).filter (fun x=>kindT x.k.tr == 21) ∧
   w'.cell? ⟨U,8,none⟩=some (.slice ka ((R.take i).filter fun x=>kindT x.k.tr == 21).length cap)∧Keep (fun b x=>b=U∧x=8∨(Value.slice ka l.length cap).ownBlock=some b) w2 w'∧i≤R.length) (fun i _=>R.length - i) 0 (by kernel_rfl) ?_ ⟨l,key3,rfl,hkey.good,rfl,q8,k23,Nat.zero_le _⟩ ?_
 ·exact agZ
 rintro K e2 i w4 ⟨c,i1,i2,i3,i4,i5,i6,i7⟩ hK
 have fU4:∀ x,w4.frozen? ⟨U,x,none⟩=false:=fun x=>by rw [i6.frozen U x (lt_of_cell u8)]; exact fU2 x
 have sort4:w4.ownsRow 0 256 3 (.slice ra R.length rcap) R.length (flat R):=own_keep sort2.own i6 fun g hg x h=>by
  rcases h with ⟨h,_⟩ | h
  ·exact (hsR g hg).1 h
  ·exact (hsR g hg).2 h
 by_cases hi:i < R.length
 ·have hi':(i:Int) < R.length:=by omega
  obtain ⟨x,hx⟩:∃ x,R[i]? = some x:=⟨R[i],List.getElem?_eq_getElem hi⟩
  have hxm:x ∈ R:=List.mem_of_getElem? hx
  have hg:=hkey.good x (hRl x hxm)
  obtain ⟨a,na,b,nb,q1,q2⟩:=hg.form
  have hv:x.v = .agg [.int .u64 x.k.tr,.slice a x.k.suf.length na,.slice b x.k.val.length nb].toArray:=by unfold KR.v; rw [q1,q2]
  obtain ⟨gs,sc',hgs⟩:∃ gs sc',Value.slice ra R.length rcap = .slice (some ⟨gs,0,none⟩) R.length sc':=by
   rcases own_form sort4 with ⟨_,h,_⟩ | ⟨g,c',h,_⟩
   ·omega
   ·exact ⟨g,c',h⟩
  simp only [Value.slice.injEq,true_and] at hgs
  obtain ⟨rfl,rfl⟩:=hgs
  obtain ⟨f1,f2,f3⟩:=flat_at hx
  have c1:=own_cell sort4 f1
  have c2:=own_cell sort4 f2
  have c3:=own_cell sort4 f3
  rw [q1] at c2
  rw [q2] at c3
  have htk:R.take (i+1)=R.take i++[x]:=by rw [List.take_add_one,hx]; rfl
  refine gY4 @hi' @c1 @c2 @c3 ?_
  rw [← hv]
  refine Kind_run hg fun w5 x5 => ?_
  have i5':=x5.cell i5
  have c1:=x5.cell c1
  have c2:=x5.cell c2
  have c3:=x5.cell c3
  have fU5:∀ x,w5.frozen? ⟨U,x,none⟩=false:=fun x=>by rw [x5.frozen U x (lt_of_cell i5)]; exact fU4 x
  by_cases h21:kindT x.k.tr=21
  ·have e21:(((kindT x.k.tr:Nat):Int) == 21)=true:=by rw [h21]; rfl
   refine gY1 @e21 ?_
   refine drawZ (sq [0,1,2,3] (.read 4 (sq [5,6,7,8,9,10,11,12] (.read 13 (sq [14,15,16] (.read 17 (sq [18,19,20,21] (.read 22 (sq [23,24,25,26] (.read 27 (.eff 28 [] (sq [29,30] .done)))))))))))) ?_
   refine goZ ?_
   have hir:i < r.length:=by
    refine Classical.byContradiction fun hn => ?_
    rw [hR,List.getElem?_append_right (by omega)] at hx
    have hm:=List.mem_of_getElem? hx
    have:=delL_kind (l:=l) (snap:=snap) (x:=x) (by simpa using hm)
    omega
   have hout:((R.take i).filter fun x=>kindT x.k.tr == 21).length≤i:=by
    have:=List.length_filter_le (fun x:KR=>kindT x.k.tr == 21) (R.take i)
    rw [List.length_take] at this
    omega
   obtain ⟨g,cap',hga⟩:∃ g c',Value.slice ka l.length cap = .slice (some ⟨g,0,none⟩) l.length c':=by
    rcases own_form i1 with ⟨_,h,_⟩ | ⟨g,c',h,_⟩
    ·omega
    ·exact ⟨g,c',h⟩
   simp only [Value.slice.injEq,true_and] at hga
   obtain ⟨rfl,rfl⟩:=hga
   have hcap:l.length≤cap:=by
    obtain ⟨_,_,e,h,_⟩:=own_slice i1
    simp only [Value.slice.injEq,true_and] at e
    rw [e.2]; exact h
   obtain ⟨out,ho⟩:∃ out,out=(R.take i).filter fun x=>kindT x.k.tr == 21:=⟨_,rfl⟩
   rw [← ho] at i4 i5 i5' hout
   have hUs5:=lt_of_cell i5'
   have hgs5:=lt_of_cell c1
   have hgsU:gs≠U:=(hsR gs rfl).1
   have hgsg:gs≠g:=fun e=>(hsR gs rfl).2 (by rw [e]; rfl)
   have hgU:g≠U:=hkU g rfl
   refine drawZ (sq [0,1,2,3] (.read 4 (sq [5,6,7] (.read 8 (.eff 9 [4] (.eff 10 [] (sq [11,12] (.eff 13 [] .done)))))))) ?_
   refine gY4 @c1 @c2 @c3 @i5' ?_
   have hcells : #[Value.int IntKind.u64 x.k.tr,Value.slice a x.k.suf.length na,Value.slice b x.k.val.length nb]=x.cells.toArray:=by unfold KR.cells; rw [q1,q2]
   have hxc:Value.agg x.cells.toArray = .agg [.int .u64 x.k.tr,.slice a x.k.suf.length na,.slice b x.k.val.length nb].toArray:=by unfold KR.cells; rw [q1,q2]
   obtain ⟨w6,a1,a2,a3⟩:=appIn (w:=w5.drew) (j:=out.length) (own_keep i1 x5 (fun _ _ _ h=>h)).drew i2 (by omega) hcap hg
   have a1:∀ q:Kont,apX prog #[110,110] 110 #[.slice (some ⟨g,0,none⟩) out.length cap,.slice (some ⟨w5.heap.size,0,none⟩) 1 1] q (w5.alloc (.cells x.cells.toArray 256)).drew.drew=q (.slice (some ⟨g,0,none⟩) (out.length+1) cap) w6:=a1
   have a3:Keep (fun b o=>b=g∧out.length * 3≤o∧o < out.length * 3+3) w5 w6:=(Keep.refl _ w5).drew.trans a3
   rw [hcells,a1]
   have c1:=a3.some c1 (fun h=>hgsg h.1)
   have c2:=a3.some c2 (fun h=>hgsg h.1)
   have c3:=a3.some c3 (fun h=>hgsg h.1)
   have i6':=a3.some i5' (fun h=>hgU h.1.symm)
   have fU6:∀ x,w6.frozen? ⟨U,x,none⟩=false:=fun x=>by rw [a3.frozen U x hUs5]; exact fU5 x
   rw [hxc]
   refine gY5 @c1 @c2 @c3 @i6' @fU6 ?_
   have hfl:(R.take (i+1)).filter (fun x=>kindT x.k.tr == 21)=out++[x]:=by
    rw [htk,List.filter_append,← ho]
    simp [h21]
   refine hK _ _ (i+1) ?_ ⟨c.set out.length x,own_keep a2 (M:=fun b o=>b=U∧o=8) (keep_set ⟨rfl,rfl⟩) fun g' hg' x' h=>hkU g' hg' h.1,by simp [i2],fun y hy => ?_,?_,?_,?_,by omega⟩ (by omega)
   ·exact agZ
   ·rcases List.mem_or_eq_of_mem_set hy with h | h
    ·exact i3 y h
    ·subst h; exact hg
   ·rw [hfl,List.length_append,List.length_singleton,List.take_add_one,List.take_set_of_le (Nat.le_refl _),i4,List.getElem?_set_self (by omega)]; rfl
   ·rw [hfl,List.length_append,List.length_singleton]
    exact eY1 @i6'
   ·exact ((i6.trans x5.keep).trans (a3.mono fun b o _ h => .inr (by rw [h.1]; rfl))).set (fun _ => .inl ⟨rfl,rfl⟩)
  ·have e21:(((kindT x.k.tr:Nat):Int) == 21)=false:=by rw [beq_eq_false_iff_ne]; omega
   have hfl:(R.take (i+1)).filter (fun x=>kindT x.k.tr == 21)=(R.take i).filter (fun x=>kindT x.k.tr == 21):=by
    rw [htk,List.filter_append]
    simp [h21]
   by_cases h20:kindT x.k.tr=20
   ·have e20:(((kindT x.k.tr:Nat):Int) == 20)=true:=by rw [h20]; rfl
    refine gY2 @e21 @e20 ?_
    refine drawZ (sq [0,1,2,3] (.read 4 (sq [5,6,7,8,9,10,11,12] (.read 13 (sq [14,15,16] (.read 17 (sq [18,19,20,21] (.read 22 (sq [23,24,25,26] (.read 27 (.eff 28 [] (sq [29,30] .done)))))))))))) ?_
    refine goZ ?_
    refine hK _ _ (i+1) ?_ ⟨c,(own_keep i1 x5 (fun _ _ _ h=>h)).drew,i2,i3,by rw [hfl]; exact i4,by rw [hfl]; exact i5',(i6.trans x5.keep).drew,by omega⟩ (by omega)
    exact agZ
   ·have e20:(((kindT x.k.tr:Nat):Int) == 20)=false:=by rw [beq_eq_false_iff_ne]; omega
    have h19:kindT x.k.tr=19:=by
     rcases hkind x (hRl x hxm) with h | h | h
     ·exact h
     ·exact absurd h h20
     ·exact absurd h h21
    have e19:(((kindT x.k.tr:Nat):Int) == 19)=true:=by rw [h19]; rfl
    refine gY3 @e21 @e20 @e19 ?_
    refine hK _ _ (i+1) ?_ ⟨c,own_keep i1 x5 (fun _ _ _ h=>h),i2,i3,by rw [hfl]; exact i4,by rw [hfl]; exact i5',i6.trans x5.keep,by omega⟩ (by omega)
    exact agZ
 ·have hi':¬ (i:Int) < R.length:=by omega
  obtain rfl:i=R.length:=by omega
  have hflt:R.filter (fun x=>kindT x.k.tr == 21)=r.filter fun x=>kindT x.k.tr == 21:=by
   rw [hR,List.filter_append]
   cases hdl:delL snap l with
   | none=>simp
   | some x=>simp [delL_kind hdl]
  rw [List.take_length,hflt] at i4 i5
  have u9':=i6.some u9 (by
   rintro (⟨_,h⟩ | h)
   ·omega
   ·exact hkU U h rfl)
  have nU4:∀ x,x≠8→¬ (U=U∧x=8∨(Value.slice ka l.length cap).ownBlock=some U):=by
   rintro x hx (⟨_,h⟩ | h)
   ·exact hx h
   ·exact hkU U h rfl
  have nB4:∀ x,¬ (Bf=U∧x=8∨(Value.slice ka l.length cap).ownBlock=some Bf):=by
   rintro x (⟨h,_⟩ | h)
   ·exact hUB h
   ·exact (hvk Bf h).2.1 rfl
  have p6:=i6.some p6 (nU4 _ (by omega))
  have p7:=i6.some p7 (nU4 _ (by omega))
  refine gY3 @hi' @u9' @fU4 ?_
  have k45:Keep (fun b x=>b=U∧x=9) w4 (w4.setCell ⟨U,9,none⟩ (.int .i8 1)):=keep_set ⟨rfl,rfl⟩
  refine hk _ r c _ R hcr ?_ ?_ ?_ ?_ ⟨k45.some (i6.some key2.hd (nB4 _)) (fun h=>hUB h.1),by rw [i2]; exact own_keep i1 k45 fun g hg x h=>hkU g hg h.1,i3⟩ i2 i4 ⟨k45.some (i6.some p10 (nB4 _)) (fun h=>hUB h.1),own_keep sort4 k45 fun g hg x h=>(hsR g hg).1 h.1,sort2.good⟩ ⟨_,k45.some (i6.some (k2.some p9 (nB2 _ (by omega))) (nB4 _)) (fun h=>hUB h.1)⟩ ?_ ?_
  ·exact eY1 @p6
  ·exact eY1 @p7
  ·exact eY1 @i5
  ·exact eY1 @u9'
  ·intro g hg
   rcases n2 g hg with h | h
   ·exact .inl (by rw [own_len va ls.length 0]; exact h)
   ·exact .inr (Nat.le_trans k1.size h)
  ·have b1:Keep (trM U Bf (.slice ka l.length cap) (.slice va ls.length vcap)) w w1:=k1.mono fun b x _ h=>by
     rcases h with ⟨h1,h2,h3⟩ | h
     ·exact .inl ⟨h1,by omega,by omega⟩
     ·exact .inr (.inl h)
   refine (((b1.trans (k2.mono fun b x _ h => ?_)).trans (i6.mono fun b x _ h => ?_)).trans (k45.mono fun b x _ h => .inl ⟨h.1,by omega,by omega⟩))
   ·rcases h with ⟨h1,h2⟩ | h
    ·exact .inr (.inl ⟨h1,by omega,by omega⟩)
    ·exact .inr (.inr (.inr (by rw [own_len va ls.length 0]; exact h)))
   ·rcases h with ⟨h1,h2⟩ | h
    ·exact .inl ⟨h1,by omega,by omega⟩
    ·exact .inr (.inr (.inl h))
end
end Go.Proofs
end
section
set_option maxRecDepth 10000
namespace Go.E
open Go Go.Sort Go.Proofs
theorem app_ty {P:Program} {t t2 ty el el2:TypeId} {a:Option Addr} {n c:Nat} {x:Value} {w:World} (h:P.underlying t=some (.slice el)) (h2:P.underlying t2=some (.slice el2)) :
    (Builtin.append_ [t,t2].toArray ty [.slice a n c,x].toArray).run P w=(Builtin.append_ [t,t].toArray ty [.slice a n c,x].toArray).run P w:=by
 simp [Builtin.append_,run_underlying h,run_underlying h2]
end Go.E
namespace Go.E
open Go Go.Sort Go.Proofs
theorem kr_of_slc {d:World} {v:Value} {ks:List K} (h:SlcOf KeyC 3 d v ks) (hne:ks≠[]):∃ xs:List KR,xs.map KR.k=ks∧(∀ x ∈ xs,x.good d)∧∀ w,Inc d w→Lies w v ks.length (flat xs):=by
 unfold SlcOf at h
 split at h
 ·obtain ⟨rfl,rfl⟩:=h
  exact ⟨[],rfl,fun x hx=>by simp at hx,fun w _=>⟨rfl,rfl,rfl⟩⟩
 ·rename_i a n c
  obtain ⟨b,o,s⟩:=a
  obtain ⟨h1,h2,_,h4⟩:=h
  have hs:s=none:=h1 (by rw [h2]; exact List.length_pos_iff.2 hne)
  subst hs
  have gen:∀ (ks:List K) (o:Nat),(∀ i x,ks[i]? = some x→KeyC d b (o+i * 3) x)→∃ xs:List KR,xs.map KR.k=ks∧(∀ x ∈ xs,x.good d)∧∀ j u,(flat xs)[j]? = some u→d.cell? ⟨b,o+j,none⟩=some u:=by
   intro ks
   induction ks with
   | nil=>intro o _; exact ⟨[],rfl,fun x hx=>by simp at hx,fun j u hj=>by simp [flat_nil] at hj⟩
   | cons y ks ih =>
    intro o hy
    obtain ⟨xs,e1,e2,e3⟩:=ih (o+3) (fun i x hx=>by
     have:=hy (i+1) x (by simpa using hx)
     rw [show o+3+i * 3=o+(i+1) * 3 by omega]; exact this)
    obtain ⟨k1,k2,⟨sv,k3,k4⟩,vv,k5,k6⟩:=hy 0 y rfl
    simp only [Nat.zero_mul,Nat.add_zero] at k1 k3 k5
    refine ⟨⟨y,sv,vv⟩ :: xs,by simp [e1],fun x hx => ?_,fun j u hj => ?_⟩
    ·rcases List.mem_cons.1 hx with rfl | hx
     ·exact ⟨k2,k4,k6⟩
     ·exact e2 x hx
    ·rw [flat_cons] at hj
     rcases j with _ | _ | _ | j
     ·simp only [List.getElem?_cons_zero,Option.some.injEq] at hj
      subst hj; exact k1
     ·simp only [List.getElem?_cons_succ,List.getElem?_cons_zero,Option.some.injEq] at hj
      subst hj; exact k3
     ·simp only [List.getElem?_cons_succ,List.getElem?_cons_zero,Option.some.injEq] at hj
      subst hj; exact k5
     ·simp only [List.getElem?_cons_succ] at hj
      have:=e3 j u hj
      rw [show o+(j+1+1+1)=o+3+j by omega]; exact this
  obtain ⟨xs,e1,e2,e3⟩:=gen ks o h4
  refine ⟨xs,e1,e2,fun w hw=>⟨h2,fun j u hj => ?_⟩⟩
  rw [addr_add rfl]
  exact hw _ _ _ (e3 j u hj)
 ·exact h.elim
theorem slc_of_own {d w:World} {ka:Option Addr} {n cap:Nat} {c out:List KR} (h:w.ownsRow 0 256 3 (.slice ka n cap) n (flat c)) (hc:c.length=n) (ht:c.take out.length=out) (hg:∀ x ∈ c,x.good d) (hd:Inc d w) :
    SlcOf KeyC 3 w (.slice ka out.length cap) (out.map KR.k):=by
 have hle:out.length≤n:=by
  have:out.length=(c.take out.length).length:=by rw [ht]
  rw [List.length_take] at this
  omega
 rcases own_form h with ⟨e,h0,_⟩ | ⟨g,cap',e,hcap,_⟩
 ·simp only [Value.slice.injEq] at e
  obtain ⟨rfl,_,rfl⟩:=e
  have:out=[]:=List.length_eq_zero_iff.1 (by omega)
  subst this
  exact ⟨rfl,rfl⟩
 ·simp only [Value.slice.injEq,true_and] at e
  obtain ⟨rfl,rfl⟩:=e
  refine ⟨fun _=>rfl,by simp,by omega,fun i x hx => ?_⟩
  rw [List.getElem?_map] at hx
  obtain ⟨y,hy,rfl⟩:=Option.map_eq_some_iff.1 hx
  have hy2:c[i]? = some y:=by
   rw [← ht,List.getElem?_take] at hy
   split at hy
   ·exact hy
   ·simp at hy
  obtain ⟨f1,f2,f3⟩:=flat_at hy2
  have g:=hg y (List.mem_of_getElem? hy2)
  refine ⟨by rw [Nat.zero_add]; exact own_cell h f1,g.1,⟨y.sv,by rw [Nat.zero_add]; exact own_cell h f2,g.2.1.inc hd⟩,y.vv,by rw [Nat.zero_add]; exact own_cell h f3,g.2.2.inc hd⟩
theorem oneCell_flat {d:World} {l:List KR} (h:∀ x ∈ l,x.good d):∀ u ∈ flat l,u.oneCell'=true:=by
 induction l with
 | nil=>intro u hu; simp [flat_nil] at hu
 | cons x l ih =>
  intro u hu
  rw [show flat (x :: l)=x.cells++flat l from rfl] at hu
  rcases List.mem_append.1 hu with h1 | h1
  ·exact oneCell_good (h x List.mem_cons_self) u h1
  ·exact ih (fun y hy=>h y (List.mem_cons_of_mem _ hy)) u h1
def Lf (Ls:Array Lvl):Nat→List Sp:=fun i=>Ls[i]!.L
structure MS (d:World) (U Bf C:Nat) (Ls:Array Lvl) (snap:Nat) (B:List Bytes):Prop where
 mc:MC d U Bf Ls
 bds:Bds Ls.size (Lf Ls) B
 snap:snap < 18446744073709551616
 eq:d.cell? ⟨C,1,none⟩=some (.func (.func 103) #[] #[])
 cd:∀ u,Cd (fragK Ls.size (Lf Ls) B u)
 len:∀ u,(fragK Ls.size (Lf Ls) B u).length < 100000
 blen:∀ x ∈ B,x.length < 4294967296
structure MU (w:World) (U Bf C snap:Nat):Prop where
 u0:w.cell? ⟨U,0,none⟩=some (.int .u64 snap)
 u1:w.cell? ⟨U,1,none⟩=some (.pointer (some ⟨C,0,none⟩))
 u3:∃ a n c,w.cell? ⟨U,3,none⟩=some (.slice a n c)
 u4:∃ a n c,w.cell? ⟨U,4,none⟩=some (.slice a n c)
 u5:w.cell? ⟨U,5,none⟩=some (.iface 221 (.pointer (some ⟨U,0,none⟩)))
 u6:∃ v,w.cell? ⟨U,6,none⟩=some v
 u7:∃ v,w.cell? ⟨U,7,none⟩=some v
 u8:∃ v,w.cell? ⟨U,8,none⟩=some v
 u9:∃ v,w.cell? ⟨U,9,none⟩=some v
 u11:∃ v,w.cell? ⟨U,11,none⟩=some v
 u93:w.cell? ⟨U,93,none⟩=some (.bool false)
 u94:w.cell? ⟨U,94,none⟩=some (.pointer (some ⟨Bf,0,none⟩))
 c9:∃ v,w.cell? ⟨Bf,9,none⟩=some v
section
variable (n:Nat) (L:Nat→List Sp) (B:List Bytes) (u:Nat)
def fragKi (i:Nat):List K:=(List.range i).flatMap fun i=>if cp L B u i % 2=1 then (L i)[cp L B u i / 2]!.ks else []
theorem fragKi_succ (i:Nat):fragKi L B u (i+1)=fragKi L B u i++if cp L B u i % 2=1 then (L i)[cp L B u i / 2]!.ks else []:=by
 unfold fragKi
 rw [List.range_succ,List.flatMap_append]
 simp
theorem fragKi_le {i:Nat} (h:i≤n):(fragKi L B u i).length≤(fragK n L B u).length:=by
 obtain ⟨m,rfl⟩:∃ m,n=i+m:=⟨n - i,by omega⟩
 unfold fragK fragKi
 rw [List.range_add,List.flatMap_append,List.length_append]
 omega
def covi (i:Nat):Bool:=(List.range i).any fun i=>decide (cp L B u i % 2=1)
theorem covi_zero:covi L B u 0=false:=rfl
theorem covi_succ (i:Nat):covi L B u (i+1)=(covi L B u i || decide (cp L B u i % 2=1)):=by
 unfold covi
 rw [List.range_succ,List.any_append]
 simp
end
def syM (U Bf:Nat) (vk vs:Value):Nat→Nat→Prop:=fun b x=>b=U∧6≤x∧x≤9∨b=Bf∧(x=0∨9≤x∧x≤10)∨vk.ownBlock=some b∨vs.ownBlock=some b
end Go.E
end
