/- Parts of the proof: R, T, Y, Pc, Pu, Pt. -/
import Derived.Test.YtlmoafgebiffaaaGreatDoorV07
set_option linter.all false
set_option maxRecDepth 10000
section
namespace Go.E
open Go Go.Sort Go.Proofs Go.Proofs.Tryz
theorem qz {P:Program} {k:aq} {w:World} {t ty el:TypeId} {sz by_ n m c cap b off:Nat} {a:Addr} {news:List Value} (h:gM P t=some (el,sz,by_)) (hl:news.length=m * sz)
    (hnews:∀ j u,news[j]? = some u→w.cell? (a.add j)=some u) (h1:∀ u ∈ news,u.oneCell'=true) (hroom:n+m≤cap)
    (hc:∀ j,j < news.length→∃ v,w.cell? ⟨b,off+n * sz+j,none⟩=some v) (hf:∀ o,w.frozen? ⟨b,o,none⟩=false) :
    me P [t,t].toArray ty [.slice (some ⟨b,off,none⟩) n cap,.slice (some a) m c].toArray k w=k (.slice (some ⟨b,off,none⟩) (n+m) cap) (w.setCells b (off+n * sz) news):=by
 obtain ⟨i,z,e1,e2,e3,rfl,rfl,e6,e7⟩:=iP h
 have:=run_append_room_cells (P:=P) w t ty el i e1 e2 b off n cap a m c news hl hnews h1 hroom (fun j hj=>by obtain ⟨v,hv⟩:=hc j hj; rw [hv]; rfl) (fun j _=>hf _)
 have hr:(Builtin.append_ [t,t].toArray ty [.slice (some ⟨b,off,none⟩) n cap,.slice (some a) m c].toArray).run P w = .ok (.slice (some ⟨b,off,none⟩) (n+m) cap) (w.setCells b (off+n * i.size) news):=this
 simp only [me,dH,hr]
theorem zM {w:World} {b o:Nat} {ob:Obj} (h:∃ v,w.cell? ⟨b,o,none⟩=some v):∃ v,(w.alloc ob).cell? ⟨b,o,none⟩=some v:=by
 obtain ⟨v,h⟩:=h
 exact ⟨v,(aJ ob).cell h⟩
theorem BL {w:World} {b o:Nat} (h:∃ v,w.cell? ⟨b,o,none⟩=some v):∃ v,w.drew.cell? ⟨b,o,none⟩=some v:=h
structure HW (w:World) (U o Bf f:Nat):Prop where
 c0:w.cell? ⟨Bf,f+2,none⟩=some (.func (.func 85) #[] #[])
 c1:∃ b,w.cell? ⟨Bf,f+3,none⟩=some (.bool b)
 c2:∃ m,m≤10∧w.cell? ⟨Bf,f+4,none⟩=some (.slice (some ⟨U,o+50,none⟩) m 10)
 ex:∀ x,o+50≤x→x < o+70→∃ v,w.cell? ⟨U,x,none⟩=some v
theorem HeapAt.hw {w:World} {U o Bf f:Nat} {rev:Bool} {hp:Array Nat} (g:HeapAt w Bf (f+2) U o rev hp):HW w U o Bf f:=⟨g.c0,⟨_,g.c1⟩,⟨_,g.room,g.c2⟩,g.ex⟩
theorem HW.keep {w w2:World} {U o Bf f:Nat} {M:Nat→Nat→Prop} (g:HW w U o Bf f) (hk:Keep M w w2) (h1:∀ x,f+2≤x→x≤f+4→¬ M Bf x) (h2:∀ x,o+50≤x→x < o+70→¬ M U x):HW w2 U o Bf f where
 c0:=hk.some g.c0 (h1 _ (by omega) (by omega))
 c1:=by obtain ⟨b,h⟩:=g.c1; exact ⟨b,hk.some h (h1 _ (by omega) (by omega))⟩
 c2:=by obtain ⟨m,h,h'⟩:=g.c2; exact ⟨m,h,hk.some h' (h1 _ (by omega) (by omega))⟩
 ex x q1 q2:=by obtain ⟨v,hv⟩:=g.ex x q1 q2; exact ⟨v,hk.some hv (h2 x q1 q2)⟩
theorem gw {w:World} {b o:Nat} {v:Value} (h:w.cell? ⟨b,o,none⟩=some v):w.setCell ⟨b,o,none⟩ v=w:=by
 have e:(w.setCell ⟨b,o,none⟩ v).heap=w.heap:=by
  unfold World.setCell
  apply Array.ext
  ·simp
  ·intro i h1 h2
   simp only [Array.getElem_modify]
   split
   ·rename_i hb
    subst hb
    unfold World.cell? at h
    rw [Array.getElem?_eq_getElem h2] at h
    cases hx:w.heap[b] with
    | cells c t fz =>
     simp only [hx] at h ⊢
     simp at h
     simp only [Option.isSome_none,Bool.false_eq_true,if_false]
     congr 1
     apply Array.ext
     ·simp
     ·intro j q1 q2
      rw [Array.getElem_setIfInBounds (by simpa using q1)]
      split
      ·rename_i hj
       subst hj
       rw [Array.getElem?_eq_getElem q2] at h
       exact (bk h).symm
      ·rfl
    | _=>rfl
   ·rfl
 calc w.setCell ⟨b,o,none⟩ v={ w with heap:=(w.setCell ⟨b,o,none⟩ v).heap }:=rfl
  _=w:=by rw [e]
def iM (U o Bf f:Nat):Nat→Nat→Prop:=fun b x=>b=U∧o+50≤x∧x < o+70∨b=Bf∧x=f+4
theorem BM {d w W:World} {U o Bf f i:Nat} {Ls:Array Lvl} {pos:Nat→Int} {rev:Bool} {hp:Array Nat} (c:MC d U Bf Ls) (g:MB d w U o Bf f Ls pos) (h:HeapAt w Bf (f+2) U o rev hp) (kk:Keep (iM U o Bf f) w W) (hi:i < 10) (hz:hp.size < 10)
    (q1:W.cell? ⟨Bf,f+4,none⟩=some (.slice (some ⟨U,o+50,none⟩) (hp.size+1) 10)) (q2:W.cell? ⟨U,o+50+hp.size * 2,none⟩=some (.pointer (some ⟨U,o+10+i * 4+1,none⟩)))
    (q3:W.cell? ⟨U,o+50+hp.size * 2+1,none⟩=some (.int .i64 i)) (qo:∀ x,x < o+50+hp.size * 2→W.cell? ⟨U,x,none⟩=w.cell? ⟨U,x,none⟩) (qe:∀ x,o+50≤x→x < o+70→∃ v,W.cell? ⟨U,x,none⟩=some v) :
    MB d W U o Bf f Ls pos∧HeapAt W Bf (f+2) U o rev (hp.push i)∧Keep (qw U o Bf f Ls) w W:=by
 have nB:∀ x,x≠f+4→¬ iM U o Bf f Bf x:=by
  rintro x hx (⟨h,_⟩ | ⟨_,h⟩)
  ·exact c.ne h
  ·exact hx h
 have nU:∀ x,x < o+50→¬ iM U o Bf f U x:=by
  rintro x hx (⟨_,h,_⟩ | ⟨h,_⟩)
  ·omega
  ·exact c.ne h.symm
 have hb:MB d W U o Bf f Ls pos:=g.keep c kk (nU _ (by omega)) (nB _ (by omega)) (nU _ (by omega)) (fun x _ h2=>nU x h2) (by
  rintro i hi x (⟨h,_⟩ | ⟨h,_⟩)
  ·exact c.iU i hi h
  ·exact c.iB i hi h) (by
  rintro x y (⟨rfl,_⟩ | ⟨rfl,_⟩)
  ·exact c.oU _
  ·exact c.oB _)
 have push_lt:∀ j,j < hp.size→(hp.push i)[j]! = hp[j]! := by
  intro j hj
  rw [aI _ j (by simp; omega),aI _ j hj]
  exact Array.getElem_push_lt hj
 have push_eq:(hp.push i)[hp.size]! = i:=by
  rw [aI _ hp.size (by simp)]
  simp
 refine ⟨hb,⟨kk.some h.c0 (nB _ (by omega)),kk.some h.c1 (nB _ (by omega)),by rw [Array.size_push]; exact q1,?_,?_,by simp; omega,?_,hb.fU,hb.fB,c.ne,qe⟩,kk.mono fun b x _ h => ?_⟩
 ·intro j hj
  rw [Array.size_push] at hj
  by_cases hj2:j=hp.size
  ·subst hj2
   rw [push_eq]; exact q2
  ·rw [push_lt j (by omega),qo _ (by omega)]
   exact h.ptr j (by omega)
 ·intro j hj
  rw [Array.size_push] at hj
  by_cases hj2:j=hp.size
  ·subst hj2
   rw [push_eq]; exact q3
  ·rw [push_lt j (by omega),qo _ (by omega)]
   exact h.ix j (by omega)
 ·intro j hj
  rw [Array.size_push] at hj
  by_cases hj2:j=hp.size
  ·subst hj2
   rw [push_eq]; exact hi
  ·rw [push_lt j (by omega)]; exact h.lv j (by omega)
 ·rcases h with ⟨h1,h2,h3⟩ | ⟨h1,h2⟩
  ·exact .inl ⟨h1,by omega,h3⟩
  ·exact .inr (.inl ⟨h1,by omega,by omega⟩)
def HZ (Ls:Array Lvl) (pos:Nat→Int) (i:Nat):List Nat:=(List.range i).filter fun x=>decide (gY Ls[x]!.L (pos x))
theorem xG (Ls:Array Lvl) (pos:Nat→Int) (i:Nat):HZ Ls pos (i+1)=HZ Ls pos i++if gY Ls[i]!.L (pos i) then [i] else []:=by
 unfold HZ
 rw [List.range_succ,List.filter_append]
 congr 1
 by_cases h:gY Ls[i]!.L (pos i) <;> simp [h]
theorem Fl {Ls:Array Lvl} {pos:Nat→Int} {i x:Nat}:x ∈ HZ Ls pos i↔x < i∧gY Ls[x]!.L (pos x):=by simp [HZ]
theorem BN (Ls:Array Lvl) (pos:Nat→Int) (i:Nat):(HZ Ls pos i).Nodup:=List.Pairwise.filter _ List.nodup_range
end Go.E
namespace Go.Proofs
open Go Go.E Go.Sort Go.Proofs.Tryz
section
variable {k:aq} {d w:World} {U o Bf f:Nat} {Ls:Array Lvl} {pos:Nat→Int} {rev:Bool} {hp:Array Nat}
theorem vQ (hk:k .nilIface w):ai prog 195 #[.nilIface,.nilIface] k w:=by
 refine al [.tmp 4] func195 ?_
 refine bA ?_
 exact hk
set_option maxHeartbeats 1000000 in
theorem vR (c:MC d U Bf Ls) (g:MB d w U o Bf f Ls pos) (hw:HW w U o Bf f) (hrev:w.cell? ⟨Bf,f+3,none⟩=some (.bool rev))
    (hk:∀ w' hp',MB d w' U o Bf f Ls pos→MH w' U o Bf f Ls pos rev hp'→Keep (qw U o Bf f Ls) w w'→k (.tuple #[]) w') :
    ai prog 187 #[.pointer (some ⟨U,o,none⟩)] k w:=by
 have c1:=g.bufs
 obtain ⟨m,hm,c2⟩:=hw.c2
 have fB:=g.fB
 have z0:(0:Int).toNat=0:=rfl
 have z1:(0:Int)≤10:=by decide
 refine al [] func187 ?_
 refine bA ?_
 refine bF (sq [0,1,2] (.read 3 (sq [4,5,6] (.read 7 (sq [8,9,10] (.read 11 (sq [12,13,14,15] (.eff 16 [] .done)))))))) ?_
 have ne:=c.ne
 have lvs:=g.lvls
 simp (disch:=first | exact dZ | fail) only [go_sem,c1,c2,pG Tryz.es189,z0,fB,lvs]
 obtain ⟨w1,hw1⟩:∃ w1,w1=(w.setCell ⟨Bf,f+2+2,none⟩ (.slice (some ⟨U,o+50,none⟩) 0 10)).drew:=⟨_,rfl⟩
 rw [← hw1]
 have k1:Keep (fun b x=>b=Bf∧x=f+4) w w1:=by rw [hw1]; exact ((Keep.refl _ w).set (fun _=>⟨rfl,rfl⟩)).drew
 have k1':Keep (qw U o Bf f Ls) w w1:=k1.mono fun b x _ h => .inr (.inl ⟨h.1,by omega,by omega⟩)
 have g1:MB d w1 U o Bf f Ls pos:=g.keep c k1 (by rintro ⟨h,_⟩; exact c.ne h.symm) (by rintro ⟨_,h⟩; omega) (by rintro ⟨h,_⟩; exact c.ne h.symm) (by rintro x _ _ ⟨h,_⟩; exact c.ne h.symm) (by rintro i hi x ⟨h,_⟩; exact c.iB i hi h) (by rintro x y ⟨rfl,_⟩; exact c.oB _)
 have h1:HeapAt w1 Bf (f+2) U o rev #[]:=by
  refine ⟨k1.some hw.c0 (by rintro ⟨_,h⟩; omega),k1.some hrev (by rintro ⟨_,h⟩; omega),?_,fun j hj=>by simp at hj,fun j hj=>by simp at hj,by simp,fun j hj=>by simp at hj,g1.fU,g1.fB,c.ne,?_⟩
  ·rw [hw1]; exact bX @c2
  ·intro x q1 q2
   obtain ⟨v,hv⟩:=hw.ex x q1 q2
   exact ⟨v,k1.some hv (by rintro ⟨h,_⟩; exact c.ne h.symm)⟩
 refine bZ (fun i:Nat=>[(0,.pointer (some ⟨U,o,none⟩)),(27,.int .i64 Ls.size),(28,.int .i64 i)]) (fun i w'=>MB d w' U o Bf f Ls pos∧(∃ hp:Array Nat,hp.toList=HZ Ls pos i∧HeapAt w' Bf (f+2) U o rev hp)∧Keep (qw U o Bf f Ls) w w'∧i≤Ls.size) (fun i _=>Ls.size - i) 0 (by kernel_rfl) ?_ ⟨g1,⟨#[],rfl,h1⟩,k1',aT _⟩ ?_
 ·exact bU
 clear g1 h1 k1 k1' hw1 w1
 rintro K e i w1 ⟨g1,⟨hp,hhp,h1⟩,k1,hi⟩ hK
 have c1:=g1.bufs
 have lvs:=g1.lvls
 have fB:=g1.fB
 have fU:=g1.fU
 have c2:=h1.c2
 have ce:=g1.err
 have n10:=c.n10
 by_cases hin:i < Ls.size
 ·have hin':(i:Int) < Ls.size:=by omega
  have l1:=g1.lv i hin
  have d0:=l1.it
  have d1:=l1.kd
  have hsz:hp.size≤i:=by
   have:hp.size=hp.toList.length:=by simp
   rw [this,hhp]
   exact ah (bN _ _) (by simp)
  by_cases hv:gY Ls[i]!.L (pos i)
  ·have e5:(ia Ls[i]!.L (pos i) != 0)=true:=by
     unfold ia
     rw [if_pos hv]
     split <;> rfl
   have hUs:=aC c1
   have hBs:=aC lvs
   refine hJ @hin' @c1 @lvs @d1 @e5 ?_
   refine bF (sq [0,1,2] (.read 3 (sq [4,5,6] (.read 7 (sq [8,9,10] (.read 11 (sq [12,13,14,15,16] (.eff 17 [3,7,11] (.eff 18 [3] (sq [19,20,21] (.eff 22 [] .done))))))))))) ?_
   refine dO @c1 @c2 ?_
   have hlv:i < 10:=by omega
   have bridge:∀ (q:aq) (W:World),(∀ j u,[Value.pointer (some ⟨U,o+10+i * 4+1,none⟩),.int .i64 i][j]? = some u→W.cell? ⟨w1.heap.size,j,none⟩=some u)→(∀ x,W.cell? ⟨U,x,none⟩=w1.cell? ⟨U,x,none⟩)→(∀ x,W.frozen? ⟨U,x,none⟩=w1.frozen? ⟨U,x,none⟩) →
       me prog [189,189].toArray 189 [.slice (some ⟨U,o+50,none⟩) hp.size 10,.slice (some ⟨w1.heap.size,0,none⟩) 1 1].toArray q W =
       q (.slice (some ⟨U,o+50,none⟩) (hp.size+1) 10) ((W.setCell ⟨U,o+50+hp.size * 2,none⟩ (.pointer (some ⟨U,o+10+i * 4+1,none⟩))).setCell ⟨U,o+50+hp.size * 2+1,none⟩ (.int .i64 i)):=by
    intro q W hW1 hW2 hW3
    refine qz (by_:=16) (news:=[Value.pointer (some ⟨U,o+10+i * 4+1,none⟩),.int .i64 i]) rw189 rfl ?_ (by simp [Value.oneCell']) (by omega) ?_ ?_
    ·intro j u hu
     rw [dS rfl,Nat.zero_add]
     exact hW1 j u hu
    ·intro j hj
     have hj:j < 2:=hj
     obtain ⟨v,hv⟩:=h1.ex (o+50+hp.size * 2+j) (by omega) (by omega)
     exact ⟨v,by rw [hW2]; exact hv⟩
    ·intro o'
     rw [hW3]; exact fU o'
   rw [bridge]
   rotate_left 1
   ·intro j u hu
    refine bA ?_
    simpa using hu
   ·intro x; simp (disch:=first | exact dZ | fail) only [go_sem]
   ·intro x; simp (disch:=first | exact dZ | fail) only [go_sem]
   refine dQ @c1 @c2 @fB ?_
   have fin:∀ (e2:de) (W:World),gm e2 [(0,Value.pointer (some ⟨U,o,none⟩)),(27,.int .i64 Ls.size),(28,.int .i64 ((i+1:Nat):Int))]→MB d W U o Bf f Ls pos∧HeapAt W Bf (f+2) U o rev (hp.push i)∧Keep (qw U o Bf f Ls) w1 W→K e2 W:=by
    rintro e2 W he ⟨q1,q2,q3⟩
    exact hK e2 W (i+1) he ⟨q1,⟨hp.push i,by rw [xG,if_pos hv,← hhp]; simp,q2⟩,k1.trans q3,by omega⟩ (by omega)
   have live1:=h1.ex (o+50+hp.size * 2) (by omega) (by omega)
   have live2:=h1.ex (o+50+hp.size * 2+1) (by omega) (by omega)
   obtain ⟨x1,live1⟩:=live1
   obtain ⟨x2,live2⟩:=live2
   refine fin _ _ ?_ (BM c g1 h1 ?_ hlv (by omega) ?_ ?_ ?_ ?_ ?_)
   ·exact bU
   ·repeat (first | exact Keep.refl _ _ | refine Keep.drew ?_ | refine Keep.alloc ?_ _ | refine Keep.set ?_ (fun _=>by first | exact .inl ⟨rfl,by omega,by omega⟩ | exact .inr ⟨rfl,rfl⟩))
   ·exact bX @c2
   ·exact bX @live1
   ·exact bX @live2
   ·intro x hx
    exact bU
   ·intro x q1 q2
    have:=h1.ex x q1 q2
    repeat (first | exact this | apply eX | apply zM | apply BL)
  ·have e5:(ia Ls[i]!.L (pos i) != 0)=false:=by rw [mQ hv]; rfl
   refine hJ @hin' @c1 @lvs @d1 @e5 ?_
   refine bF (sq [0,1,2,3] (.read 4 (sq [5,6,7] (.read 8 (.eff 9 [4] (.eff 10 [] (sq [11,12] (.eff 13 [] .done)))))))) ?_
   refine dQ @c1 @ce @d0 ?_
   refine jj ?_
   refine bu @ce ?_
   refine vQ ?_
   refine dQ @ce @fU @c1 ?_
   rw [gw ce]
   refine hK _ _ (i+1) ?_ ⟨g1.drew,⟨hp,by rw [xG,if_neg hv,hhp]; simp,h1.drew⟩,k1.drew,by omega⟩ (by omega)
   exact bU
 ·have hin':¬ (i:Int) < Ls.size:=by omega
  obtain rfl:i=Ls.size:=by omega
  refine dO @hin' @c1 ?_
  have hmem:∀ x,x ∈ hp.toList↔x < Ls.size∧gY Ls[x]!.L (pos x):=fun x=>by rw [hhp]; exact Fl
  refine vP h1 (g1.hkeys fun x hx=>(hmem x).1 hx) g1.inc c.oU fun w2 hp' a2 _ ok2 pm2 k2 => ?_
  have pm:=dU pm2 (aF _)
  refine bA ?_
  refine hk w2 hp' ?_ ⟨a2,ok2,fun x=>pm.mem_iff.trans (hmem x),pm.nodup_iff.2 (by rw [hhp]; exact BN _ _ _)⟩ (k1.trans (k2.mono fun b x _ h => .inl ⟨h.1,by have:=h.2.1; omega,h.2.2⟩))
  exact g1.keep c k2 (by rintro ⟨_,h,_⟩; omega) (by rintro ⟨h,_⟩; exact c.ne h) (by rintro ⟨_,h,_⟩; omega) (by rintro x _ h2 ⟨_,h,_⟩; omega) (by rintro i hi x ⟨h,_⟩; exact c.iU i hi h) (by rintro x y ⟨rfl,_⟩; exact c.oU _)
end
end Go.Proofs
end
section
namespace Go.E
open Go Go.Sort Go.Proofs Go.Proofs.Tryz
def JR (U o Bf f:Nat) (Ls:Array Lvl):Nat→Nat→Prop:=fun b x=>qw U o Bf f Ls b x∨b=U∧x=o+9
theorem HW.step {d w w2:World} {U o Bf f r:Nat} {Ls:Array Lvl} (c:MC d U Bf Ls) (hr:r < Ls.size) (g:HW w U o Bf f) (hk:Keep (Gf U (o+10+r * 4) Ls[r]!.I) w w2):HW w2 U o Bf f:=by
 have:=c.n10
 refine g.keep hk ?_ ?_
 ·rintro x _ _ (⟨h,_⟩ | ⟨h,_⟩)
  ·exact c.ne h
  ·exact c.iB r hr h.symm
 ·rintro x h1 h2 (⟨_,h3,h4⟩ | ⟨h,_⟩)
  ·omega
  ·exact c.iU r hr h.symm
end Go.E
namespace Go.Proofs
open Go Go.E Go.Sort Go.Proofs.Tryz
section
variable {k:aq} {d w:World} {U o Bf f:Nat} {Ls:Array Lvl} {pos:Nat→Int} {rev:Bool} {hp:Array Nat}
theorem lL (c:MC d U Bf Ls) (g:MB d w U o Bf f Ls pos) (hw:HW w U o Bf f) (hdir:∃ v,w.cell? ⟨U,o+9,none⟩=some v)
    (hk:∀ w' hp',MB d w' U o Bf f Ls pos→MH w' U o Bf f Ls pos false hp'→w'.cell? ⟨U,o+9,none⟩=some (.int .i8 (1))→Keep (JR U o Bf f Ls) w w'→k (.tuple #[]) w') :
    ai prog 179 #[.pointer (some ⟨U,o,none⟩)] k w:=by
 obtain ⟨v9,hdir⟩:=hdir
 have c1:=g.bufs
 obtain ⟨b1,hc1⟩:=hw.c1
 have fU:=g.fU
 have fB:=g.fB
 have ne:=c.ne
 refine al [] func179 ?_
 refine hJ @c1 @hdir @hc1 @fU @fB ?_
 obtain ⟨w1,hw1⟩:∃ w1,w1=(w.setCell ⟨U,o+9,none⟩ (.int .i8 (1))).setCell ⟨Bf,f+2+1,none⟩ (.bool false):=⟨_,rfl⟩
 rw [← hw1]
 have kk:Keep (fun b x=>b=Bf∧x=f+3∨b=U∧x=o+9) w w1:=by
  rw [hw1]
  exact (((Keep.refl _ w).set (b:=U) (o:=o+9) (v := .int .i8 (1)) (fun _ => .inr ⟨rfl,rfl⟩)).set (b:=Bf) (o:=f+2+1) (v := .bool false) (fun _ => .inl ⟨rfl,rfl⟩))
 have nB:∀ x,x≠f+3→¬ (Bf=Bf∧x=f+3∨Bf=U∧x=o+9):=by
  rintro x hx (⟨_,h⟩ | ⟨h,_⟩)
  ·exact hx h
  ·exact c.ne h
 have nU:∀ x,x≠o+9→¬ (U=Bf∧x=f+3∨U=U∧x=o+9):=by
  rintro x hx (⟨h,_⟩ | ⟨_,h⟩)
  ·exact c.ne h.symm
  ·exact hx h
 have g1:MB d w1 U o Bf f Ls pos:=g.keep c kk (nU _ (by omega)) (nB _ (by omega)) (nU _ (by omega)) (fun x h1 _=>nU x (by omega)) (by
  rintro i hi x (⟨h,_⟩ | ⟨h,_⟩)
  ·exact c.iB i hi h
  ·exact c.iU i hi h) (by
  rintro x y (⟨rfl,_⟩ | ⟨rfl,_⟩)
  ·exact c.oB _
  ·exact c.oU _)
 have q3:w1.cell? ⟨Bf,f+3,none⟩=some (.bool false):=by rw [hw1]; exact bX @hc1
 have q9:w1.cell? ⟨U,o+9,none⟩=some (.int .i8 (1)):=by rw [hw1]; exact bX @hdir
 have hw2:HW w1 U o Bf f:=by
  refine ⟨kk.some hw.c0 (nB _ (by omega)),⟨_,q3⟩,?_,?_⟩
  ·obtain ⟨m,h,h'⟩:=hw.c2
   exact ⟨m,h,kk.some h' (nB _ (by omega))⟩
  ·intro x h1 h2
   obtain ⟨v,hv⟩:=hw.ex x h1 h2
   exact ⟨v,kk.some hv (nU _ (by omega))⟩
 refine vR c g1 hw2 q3 fun w2 hp' g2 h2 k2 => ?_
 refine bA ?_
 refine hk w2 hp' g2 h2 (k2.some q9 ?_) ((kk.mono fun b x _ h => ?_).trans (k2.mono fun b x _ h => .inl h))
 ·rintro (⟨_,h,_⟩ | ⟨h,_⟩ | ⟨i,hi,h,_⟩)
  ·omega
  ·exact c.ne h.symm
  ·exact c.iU i hi h.symm
 ·rcases h with ⟨h1,h2⟩ | h
  ·exact .inl (.inr (.inl ⟨h1,by omega,by omega⟩))
  ·exact .inr h
def Ck (st:Nat→Int→Int) (pos:Nat→Int) (i:Nat):Nat→Int:=fun x=>if x < i then st x (pos x) else pos x
theorem xH (st:Nat→Int→Int) (pos:Nat→Int) (i:Nat):pT (Ck st pos i) i (st i (pos i))=Ck st pos (i+1):=by
 funext x
 unfold pT Ck
 by_cases h:x=i
 ·subst h; simp
 ·rw [if_neg h]
  by_cases h2:x < i
  ·rw [if_pos h2,if_pos (by omega)]
  ·rw [if_neg h2,if_neg (by omega)]
theorem xI (st:Nat→Int→Int) (pos:Nat→Int):Ck st pos 0=pos:=by
 funext x
 unfold Ck
 rw [if_neg (Nat.not_lt_zero x)]
theorem xJ (st:Nat→Int→Int) (pos:Nat→Int) (i:Nat):Ck st pos i i=pos i:=by unfold Ck; rw [if_neg (iW i)]
theorem lP (c:MC d U Bf Ls) (g:MB d w U o Bf f Ls pos) (hw:HW w U o Bf f) (hdir:∃ v,w.cell? ⟨U,o+9,none⟩=some v)
    (hk:∀ w' hp',MB d w' U o Bf f Ls (Ck (fun x=>lu Ls[x]!.L) pos Ls.size)→MH w' U o Bf f Ls (Ck (fun x=>lu Ls[x]!.L) pos Ls.size) false hp'→w'.cell? ⟨U,o+9,none⟩=some (.int .i8 (1))→Keep (JR U o Bf f Ls) w w'→k (.tuple #[]) w') :
    ai prog 183 #[.pointer (some ⟨U,o,none⟩)] k w:=by
 have c1:=g.bufs
 have lvs:=g.lvls
 refine al [] func183 ?_
 refine dO @c1 @lvs ?_
 refine bZ (fun i:Nat=>[(0,.pointer (some ⟨U,o,none⟩)),(54,.int .i64 Ls.size),(55,.int .i64 i)]) (fun i w'=>MB d w' U o Bf f Ls (Ck (fun x=>lu Ls[x]!.L) pos i)∧HW w' U o Bf f∧(∃ v,w'.cell? ⟨U,o+9,none⟩=some v)∧Keep (qw U o Bf f Ls) w w'∧i≤Ls.size) (fun i _=>Ls.size - i) 0 (by kernel_rfl) ?_ ⟨by rw [xI]; exact g,hw,hdir,Keep.refl _ _,aT _⟩ ?_
 ·exact bU
 rintro K e i w1 ⟨g1,h1,hd1,k1,hi⟩ hK
 have c1:=g1.bufs
 have lvs:=g1.lvls
 have n10:=c.n10
 by_cases hin:i < Ls.size
 ·have hin':(i:Int) < Ls.size:=by omega
  refine dQ @hin' @c1 @lvs ?_
  have l1:=g1.lv i hin
  rw [xJ] at l1
  refine mf l1 g1.inc c.oU (c.oI i hin) (Ne.symm (c.iU i hin)) (c.sp i hin) (c.sz i hin) fun w2 l2 k2 => ?_
  refine bA ?_
  have g2:=g1.step c hin l2 k2
  have e2:=xH (fun x=>lu Ls[x]!.L) pos i
  rw [e2] at g2
  obtain ⟨v9,hd1⟩:=hd1
  refine hK _ _ (i+1) ?_ ⟨g2,h1.step c hin k2,⟨v9,k2.some hd1 ?_⟩,k1.trans (k2.mono fun b x _ h=>qy c hin b x h),by omega⟩ (by omega)
  ·exact bU
  ·rintro (⟨_,h,_⟩ | ⟨h,_⟩)
   ·omega
   ·exact c.iU i hin h.symm
 ·have hin':¬ (i:Int) < Ls.size:=by omega
  obtain rfl:i=Ls.size:=by omega
  refine dO @hin' @c1 ?_
  refine lL c g1 h1 hd1 fun w2 hp' g2 h2 q9 k2 => ?_
  refine bA ?_
  exact hk w2 hp' g2 h2 q9 ((k1.mono fun b x _ h => .inl h).trans k2)
end
end Go.Proofs
end
section
namespace Go.E
open Go Go.Sort Go.Proofs Go.Proofs.Tryz
structure KR where
 k:K
 sv:Value
 vv:Value
 deriving Inhabited
def KR.good (d:World) (x:KR):Prop:=x.k.tr < 18446744073709551616∧dR d x.sv x.k.suf∧dR d x.vv x.k.val
def KR.cells (x:KR):List Value:=[.int .u64 x.k.tr,x.sv,x.vv]
def dA (l:List KR):List Value:=l.flatMap KR.cells
theorem oJ:dA []=[]:=rfl
theorem iJ (x:KR) (l:List KR):dA (x :: l) = .int .u64 x.k.tr :: x.sv :: x.vv :: dA l:=rfl
theorem ib (l m:List KR):dA (l++m)=dA l++dA m:=by simp [dA]
theorem ic (l:List KR):(dA l).length=l.length * 3:=by
 induction l with
 | nil=>rfl
 | cons x l ih=>rw [iJ]; simp [ih]; omega
theorem BO (l:List KR) (n:Nat):(dA l).take (n * 3)=dA (l.take n):=by
 induction l generalizing n with
 | nil=>simp [oJ]
 | cons x l ih =>
  cases n with
  | zero=>simp [oJ]
  | succ n=>rw [iJ,List.take_succ_cons,iJ,← ih,show (n+1) * 3=n * 3+1+1+1 by omega]; rfl
theorem kZ {l:List KR} {i:Nat} {x:KR} (h:l[i]? = some x):(dA l)[i * 3]? = some (.int .u64 x.k.tr)∧(dA l)[i * 3+1]? = some x.sv∧(dA l)[i * 3+2]? = some x.vv:=by
 induction l generalizing i with
 | nil=>simp at h
 | cons y l ih =>
  rw [iJ]
  cases i with
  | zero =>
   simp only [List.getElem?_cons_zero,aP] at h
   subst h
   exact ⟨rfl,rfl,rfl⟩
  | succ i =>
   have:=ih (i:=i) (by simpa using h)
   rw [show (i+1) * 3=i * 3+3 by omega]
   exact this
theorem lx (l:List KR) (i:Nat) (x:KR) (h:i < l.length):(((dA l).set (i * 3) (.int .u64 x.k.tr)).set (i * 3+1) x.sv).set (i * 3+2) x.vv=dA (l.set i x):=by
 induction l generalizing i with
 | nil=>simp at h
 | cons y l ih =>
  rw [iJ]
  cases i with
  | zero=>rfl
  | succ i =>
   have:=ih i (by simpa using h)
   have e:(y :: l).set (i+1) x=y :: l.set i x:=rfl
   rw [show (i+1) * 3=i * 3+3 by omega,e,iJ,← this]
   rfl
structure KRow (d w0 w:World) (Hb ho g cap:Nat) (a:Array KR):Prop where
 hd:w.cell? ⟨Hb,ho,none⟩=some (.slice (some ⟨g,0,none⟩) a.size cap)
 own:w.ownsRow 0 117 3 (.slice (some ⟨g,0,none⟩) a.size cap) a.size (dA a.toList)
 good:∀ x,x ∈ a.toList→x.good d
 keep:Keep (fun b _=>b=g) w0 w
 inc0:cM d w0
 lt:g < w0.heap.size
 hb:Hb < w0.heap.size
 ne:Hb≠g
 out:cj d g
theorem KRow.inc {d w0 w:World} {Hb ho g cap:Nat} {a:Array KR} (h:KRow d w0 w Hb ho g cap a):cM d w:=h.inc0.keep h.keep (by rintro x _ rfl; exact h.out _)
theorem KRow.at {d w0 w:World} {Hb ho g cap:Nat} {a:Array KR} (h:KRow d w0 w Hb ho g cap a) {i:Nat} (hi:i < a.size) :
    w.cell? ⟨g,i * 3,none⟩=some (.int .u64 a[i]!.k.tr)∧w.cell? ⟨g,i * 3+1,none⟩=some a[i]!.sv∧w.cell? ⟨g,i * 3+2,none⟩=some a[i]!.vv∧a[i]!.good d:=by
 have e:a.toList[i]? = some a[i]! := by rw [aI a i hi]; simp [hi]
 obtain ⟨h1,h2,h3⟩:=kZ e
 exact ⟨bW h.own h1,bW h.own h2,bW h.own h3,h.good _ (aO e)⟩
theorem gh {w:World} {g o b:Nat} {v:Value} (h:b≠g):(w.setCell ⟨g,o,none⟩ v).heap[b]? = w.heap[b]? := by
 simp [World.setCell,Array.getElem?_modify,Ne.symm h]
theorem KRow.swapped {d w0 w:World} {Hb ho g cap:Nat} {a:Array KR} (h:KRow d w0 w Hb ho g cap a) {i j:Nat} (hi:i < a.size) (hj:j < a.size) :
    KRow d w0 ((((((w.setCell ⟨g,i * 3,none⟩ (.int .u64 a[j]!.k.tr)).setCell ⟨g,i * 3+1,none⟩ a[j]!.sv).setCell ⟨g,i * 3+2,none⟩ a[j]!.vv).setCell ⟨g,j * 3,none⟩ (.int .u64 a[i]!.k.tr)).setCell ⟨g,j * 3+1,none⟩ a[i]!.sv).setCell ⟨g,j * 3+2,none⟩ a[i]!.vv) Hb ho g cap (swp a i j):=by
 have e1:=cR (cR (cR (cR (cR (cR h.own (i * 3) (.int .u64 a[j]!.k.tr)) (i * 3+1) a[j]!.sv) (i * 3+2) a[j]!.vv) (j * 3) (.int .u64 a[i]!.k.tr)) (j * 3+1) a[i]!.sv) (j * 3+2) a[i]!.vv
 rw [lx _ _ _ (by simpa using hi),lx _ _ _ (by simpa using hj)] at e1
 have ne:=h.ne
 have ne2:=Ne.symm ne
 have es:(swp a i j).toList=(a.toList.set i a[j]!).set j a[i]! := by simp [swp]
 have hz:(swp a i j).size=a.size:=swp_size a i j
 refine ⟨?_,?_,?_,?_,h.inc0,h.lt,h.hb,ne,h.out⟩
 ·have:=h.hd
  rw [hz]
  exact bX @this
 ·rw [hz,es]; exact e1
 ·intro x hx
  rw [es] at hx
  rcases List.mem_or_eq_of_mem_set hx with hx | rfl
  ·rcases List.mem_or_eq_of_mem_set hx with hx | rfl
   ·exact h.good x hx
   ·exact (h.at hj).2.2.2
  ·exact (h.at hi).2.2.2
 ·exact ((((((h.keep.set (fun _=>rfl)).set (fun _=>rfl)).set (fun _=>rfl)).set (fun _=>rfl)).set (fun _=>rfl)).set (fun _=>rfl))
theorem KRow.drew {d w0 w:World} {Hb ho g cap:Nat} {a:Array KR} (h:KRow d w0 w Hb ho g cap a):KRow d w0 w.drew Hb ho g cap a:=⟨h.hd,h.own.drew,h.good,h.keep.drew,h.inc0,h.lt,h.hb,h.ne,h.out⟩
theorem KRow.alloc {d w0 w:World} {Hb ho g cap:Nat} {a:Array KR} (h:KRow d w0 w Hb ho g cap a) (ob:Obj):KRow d w0 (w.alloc ob) Hb ho g cap a:=⟨(aJ ob).cell h.hd,h.own.alloc ob,h.good,h.keep.alloc ob,h.inc0,h.lt,h.hb,h.ne,h.out⟩
theorem KRow.set {d w0 w:World} {Hb ho g cap b o:Nat} {v:Value} {a:Array KR} (h:KRow d w0 w Hb ho g cap a) (hb:w0.heap.size≤b):KRow d w0 (w.setCell ⟨b,o,none⟩ v) Hb ho g cap a:=by
 have h1:=h.lt
 have h2:=h.hb
 have kk:Keep (fun x _=>x=b) w (w.setCell ⟨b,o,none⟩ v):=bY rfl
 refine ⟨kk.some h.hd (by omega),aX h.own kk (fun g' hg o' he => ?_),h.good,h.keep.set (fun hlt=>by omega),h.inc0,h1,h2,h.ne,h.out⟩
 simp only [Value.ownBlock,aP] at hg
 omega
end Go.E
namespace Go.Proofs
open Go Go.E Go.Sort Go.Proofs.Tryz
section
variable {k:aq} {d w0 w:World} {Hb ho g cap:Nat} {a:Array KR}
def E8 (x y:KR):Bool:=decide (y.k.tr < x.k.tr)
theorem AJ:SWO E8 where
 irrefl x:=by unfold E8; simp
 trans x y z:=by unfold E8; simp; omega
 ntrans x y z:=by unfold E8; simp; omega
def wN (x y:KR):Bool:=decide (x.k.suf < y.k.suf)
theorem AK:SWO wN where
 irrefl x:=by unfold wN; simp
 trans x y z:=by unfold wN; simp; grind
 ntrans x y z:=by unfold wN; simp; grind
theorem oK (h:KRow d w0 w Hb ho g cap a) {i j:Nat} (hi:i < a.size) (hj:j < a.size) (hk:k (.bool (E8 a[i]! a[j]!)) w.drew):ai prog 163 #[.pointer (some ⟨Hb,ho,none⟩),.int .i64 i,.int .i64 j] k w:=by
 have c0:=h.hd
 obtain ⟨p1,_,_,_⟩:=h.at hi
 obtain ⟨q1,_,_,_⟩:=h.at hj
 refine al [.tmp 6] func163 ?_
 refine bA ?_
 refine bF (sq [0,1] (.read 2 (sq [3,4,5] (.read 6 (sq [7,8] (.read 9 (sq [10,11,12] (.read 13 (sq [14,15] .done))))))))) ?_
 refine dQ @c0 @p1 @q1 ?_
 have e:decide ((a[j]!.k.tr:Int) < (a[i]!.k.tr:Int))=E8 a[i]! a[j]! := by unfold E8; rw [decide_eq_decide]; omega
 rw [e]; exact hk
theorem oL (h:KRow d w0 w Hb ho g cap a) {i j:Nat} (hi:i < a.size) (hj:j < a.size) (hk:∀ w',KRow d w0 w' Hb ho g cap (swp a i j)→w.heap.size≤w'.heap.size→(∀ b,b≠g→w'.heap[b]? = w.heap[b]?)→k (.tuple #[]) w') :
    ai prog 164 #[.pointer (some ⟨Hb,ho,none⟩),.int .i64 i,.int .i64 j] k w:=by
 have c0:=h.hd
 obtain ⟨p1,p2,p3,p4⟩:=h.at hi
 obtain ⟨q1,q2,q3,q4⟩:=h.at hj
 obtain ⟨a1,n1,e1⟩:=aY p4.2.1
 obtain ⟨a2,n2,e2⟩:=aY p4.2.2
 obtain ⟨a3,n3,e3⟩:=aY q4.2.1
 obtain ⟨a4,n4,e4⟩:=aY q4.2.2
 have ne:=h.ne
 have ne2:=Ne.symm ne
 have fg:∀ o,w.frozen? ⟨g,o,none⟩=false:=fun o=>cl h.own rfl o
 have hsw:=h.swapped hi hj
 rw [e1,e2,e3,e4] at hsw
 rw [e1] at p2
 rw [e2] at p3
 rw [e3] at q2
 rw [e4] at q3
 refine al [] func164 ?_
 refine bF (sq [0,1] (.read 2 (sq [3,4,5] (.read 6 (sq [7,8,9] (.read 10 (sq [11,12] (.read 13 (sq [14,15] (.read 16 (sq [17,18] (.read 19 (sq [20] (.eff 21 [] (sq [22] (.eff 23 [] .done)))))))))))))))) ?_
 have hd:∀ W:World,W.drew.heap=W.heap:=fun _=>rfl
 by_cases hij:i=j
 ·subst hij
  have x1:=e1.symm.trans e3
  have x2:=e2.symm.trans e4
  simp only [aU,true_and] at x1 x2
  obtain ⟨rfl,rfl⟩:=x1
  obtain ⟨rfl,rfl⟩:=x2
  refine hJ @c0 @p1 @p2 @p3 @fg ?_
  refine hk _ hsw.drew ?_ ?_
  ·simp only [World.size_drew,World.size_setCell]; exact aF _
  ·intro b hb
   rw [hd]
   simp only [gh hb]
 ·have d1:i * 3≠j * 3:=by omega
  refine rS @c0 @p1 @p2 @p3 @q1 @q2 @q3 @fg ?_
  refine hk _ hsw.drew ?_ ?_
  ·simp only [World.size_drew,World.size_setCell]; exact aF _
  ·intro b hb
   rw [hd]
   simp only [gh hb]
theorem Fo:Srt prog (.iface 223 (.pointer (some ⟨Hb,ho,none⟩))) E8 w0.heap.size (fun w b=>KRow d w0 w Hb ho g cap b∧b.size < 1000000) where
 size h:=h.1.keep.size
 small h:=by omega
 less' h hi hj hk:=by
  rw [Tryz.iv223_Less]
  exact oK h.1 hi hj (hk _ ⟨h.1.drew,h.2⟩ rfl)
 swap' h hi hj hk:=by
  rw [Tryz.iv223_Swap]
  refine oL h.1 hi hj fun w' h2 h3 h4=>hk w' ⟨h2,by rw [swp_size]; exact h.2⟩ h3 fun b hb _=>h4 b ?_
  have:=h.1.lt
  omega
 alloc ob h:=⟨h.1.alloc ob,h.2⟩
 set h hb:=⟨h.1.set hb,h.2⟩
 drew h:=⟨h.1.drew,h.2⟩
theorem xK (h:KRow d w0 w Hb (ho+1) g cap a) (hc:w.cell? ⟨Hb,ho,none⟩=some (.func (.func 85) #[] #[])) {i j:Nat} (hi:i < a.size) (hj:j < a.size) (hk:k (.bool (wN a[i]! a[j]!)) w.drew) :
    ai prog 252 #[.pointer (some ⟨Hb,ho,none⟩),.int .i64 i,.int .i64 j] k w:=by
 have c0:=h.hd
 obtain ⟨_,p2,_,p4⟩:=h.at hi
 obtain ⟨_,q2,_,q4⟩:=h.at hj
 have hinc:=h.inc
 refine al [.tmp 6] func252 ?_
 refine bA ?_
 refine bF (sq [0,1,2] (.read 3 (sq [4,5,6] (.read 7 (sq [8,9,10] (.read 11 (sq [12,13,14] (.read 15 (sq [16,17,18] (.read 19 (.eff 20 [] (sq [21,22] .done)))))))))))) ?_
 refine eO @hc @c0 @p2 @q2 ?_
 refine dG (p4.2.1.inc hinc) (q4.2.1.inc hinc) ?_
 refine bA ?_
 have e:decide (eH a[i]!.k.suf a[j]!.k.suf < 0)=wN a[i]! a[j]! := by unfold wN; simp [fS]
 rw [e]; exact hk
theorem xL (h:KRow d w0 w Hb (ho+1) g cap a) {i j:Nat} (hi:i < a.size) (hj:j < a.size) (hk:∀ w',KRow d w0 w' Hb (ho+1) g cap (swp a i j)→w.heap.size≤w'.heap.size→(∀ b,b≠g→w'.heap[b]? = w.heap[b]?)→k (.tuple #[]) w') :
    ai prog 253 #[.pointer (some ⟨Hb,ho,none⟩),.int .i64 i,.int .i64 j] k w:=by
 have c0:=h.hd
 obtain ⟨p1,p2,p3,p4⟩:=h.at hi
 obtain ⟨q1,q2,q3,q4⟩:=h.at hj
 obtain ⟨a1,n1,e1⟩:=aY p4.2.1
 obtain ⟨a2,n2,e2⟩:=aY p4.2.2
 obtain ⟨a3,n3,e3⟩:=aY q4.2.1
 obtain ⟨a4,n4,e4⟩:=aY q4.2.2
 have ne:=h.ne
 have ne2:=Ne.symm ne
 have fg:∀ o,w.frozen? ⟨g,o,none⟩=false:=fun o=>cl h.own rfl o
 have hsw:=h.swapped hi hj
 rw [e1,e2,e3,e4] at hsw
 rw [e1] at p2
 rw [e2] at p3
 rw [e3] at q2
 rw [e4] at q3
 refine al [] func253 ?_
 refine bF (sq [0,1,2] (.read 3 (sq [4,5,6,7] (.read 8 (sq [9,10,11,12] (.read 13 (sq [14,15] (.read 16 (sq [17,18,19] (.read 20 (sq [21,22] (.read 23 (sq [24] (.eff 25 [] (sq [26] (.eff 27 [] .done)))))))))))))))) ?_
 have hd:∀ W:World,W.drew.heap=W.heap:=fun _=>rfl
 by_cases hij:i=j
 ·subst hij
  have x1:=e1.symm.trans e3
  have x2:=e2.symm.trans e4
  simp only [aU,true_and] at x1 x2
  obtain ⟨rfl,rfl⟩:=x1
  obtain ⟨rfl,rfl⟩:=x2
  refine hJ @c0 @p1 @p2 @p3 @fg ?_
  refine hk _ hsw.drew ?_ ?_
  ·simp only [World.size_drew,World.size_setCell]; exact aF _
  ·intro b hb
   rw [hd]
   simp only [gh hb]
 ·have d1:i * 3≠j * 3:=by omega
  refine rS @c0 @p1 @p2 @p3 @q1 @q2 @q3 @fg ?_
  refine hk _ hsw.drew ?_ ?_
  ·simp only [World.size_drew,World.size_setCell]; exact aF _
  ·intro b hb
   rw [hd]
   simp only [gh hb]
theorem Ha (hc:w0.cell? ⟨Hb,ho,none⟩=some (.func (.func 85) #[] #[])):Srt prog (.iface 306 (.pointer (some ⟨Hb,ho,none⟩))) wN w0.heap.size (fun w b=>KRow d w0 w Hb (ho+1) g cap b∧b.size < 1000000) where
 size h:=h.1.keep.size
 small h:=by omega
 less' h hi hj hk:=by
  rw [Tryz.iv306_Less]
  exact xK h.1 (h.1.keep.some hc h.1.ne) hi hj (hk _ ⟨h.1.drew,h.2⟩ rfl)
 swap' h hi hj hk:=by
  rw [Tryz.iv306_Swap]
  refine xL h.1 hi hj fun w' h2 h3 h4=>hk w' ⟨h2,by rw [swp_size]; exact h.2⟩ h3 fun b hb _=>h4 b ?_
  have:=h.1.lt
  omega
 alloc ob h:=⟨h.1.alloc ob,h.2⟩
 set h hb:=⟨h.1.set hb,h.2⟩
 drew h:=⟨h.1.drew,h.2⟩
end
end Go.Proofs
end
section
namespace Go.E
open Go Go.Sort Go.Proofs
theorem gV (a b:Bytes):a < b∨a=b∨b < a:=by
 by_cases h:a < b
 ·exact .inl h
 ·by_cases h2:a=b
  ·exact .inr (.inl h2)
  ·exact .inr (.inr (by grind))
def au (t:Nat):Nat:=t % 256
def ju (snap t:Nat):Bool:=decide (t / 256 < snap) || ((t / 256 &&& 36028797018963968) != 0)
section
variable (snap:Nat)
def jk:List KR→List KR
 | []=>[]
 | x :: l=>if ju snap x.k.tr then (if au x.k.tr=19 then [] else x :: jk l) else jk l
def jv:List KR→Option KR
 | []=>none
 | x :: l=>if ju snap x.k.tr then (if au x.k.tr=19 then some x else jv l) else jv l
end
def vS:Option Bytes→List KR→List KR
 | _,[]=>[]
 | p,x :: l=>if p=some x.k.suf then vS p l else x :: vS (some x.k.suf) l
def DK (l:List KR):Prop:=l.Pairwise fun x y=>y.k.tr≤x.k.tr∧(x.k.suf=y.k.suf→y.k.tr < x.k.tr)
theorem ly {snap:Nat} {l:List KR}:(jk snap l).Sublist l:=by
 induction l with
 | nil=>exact List.Sublist.refl _
 | cons x l ih =>
  unfold jk
  split
  ·split
   ·exact List.nil_sublist _
   ·exact ih.cons_cons x
  ·exact ih.cons x
theorem Di {snap:Nat} {l:List KR} {x:KR} (h:jv snap l=some x):x ∈ l:=by
 induction l with
 | nil=>simp [jv] at h
 | cons y l ih =>
  unfold jv at h
  split at h
  ·split at h
   ·simp only [aP] at h
    subst h; exact aK
   ·exact aW _ (ih h)
  ·exact aW _ (ih h)
theorem oP {snap:Nat} {l:List KR} (h:DK l) (x:KR):x ∈ jk snap l↔x ∈ l∧ju snap x.k.tr=true∧au x.k.tr≠19∧∀ y ∈ l,ju snap y.k.tr=true→au y.k.tr=19→y.k.tr < x.k.tr:=by
 induction l with
 | nil=>simp [jk]
 | cons z l ih =>
  have hz:=fun {y:KR}=>bI (a':=y) h
  have ih:=ih h.of_cons
  unfold jk
  split
  ·rename_i hv
   split
   ·rename_i h19
    simp only [List.not_mem_nil,false_iff]
    rintro ⟨hx,hxv,hx9,hall⟩
    have:=hall z aK hv h19
    rcases av.1 hx with rfl | hx
    ·omega
    ·have:=(hz hx).1
     omega
   ·rename_i h19
    rw [av,ih]
    constructor
    ·rintro (rfl | ⟨h1,h2,h3,h4⟩)
     ·refine ⟨aK,hv,h19,fun y hy hyv hy9 => ?_⟩
      rcases av.1 hy with rfl | hy
      ·exact absurd hy9 h19
      ·have:=(hz hy).1
       rcases eE this with hlt | heq
       ·exact hlt
       ·rw [heq] at hy9; exact absurd hy9 h19
     ·refine ⟨aW _ h1,h2,h3,fun y hy hyv hy9 => ?_⟩
      rcases av.1 hy with rfl | hy
      ·exact absurd hy9 h19
      ·exact h4 y hy hyv hy9
    ·rintro ⟨h1,h2,h3,h4⟩
     rcases av.1 h1 with rfl | h1
     ·exact .inl rfl
     ·exact .inr ⟨h1,h2,h3,fun y hy=>h4 y (aW _ hy)⟩
  ·rename_i hv
   rw [ih]
   constructor
   ·rintro ⟨h1,h2,h3,h4⟩
    refine ⟨aW _ h1,h2,h3,fun y hy hyv hy9 => ?_⟩
    rcases av.1 hy with rfl | hy
    ·exact absurd hyv hv
    ·exact h4 y hy hyv hy9
   ·rintro ⟨h1,h2,h3,h4⟩
    rcases av.1 h1 with rfl | h1
    ·exact absurd h2 hv
    ·exact ⟨h1,h2,h3,fun y hy=>h4 y (aW _ hy)⟩
def SS (l:List KR):Prop:=l.Pairwise fun x y=>¬ y.k.suf < x.k.suf∧(x.k.suf=y.k.suf→y.k.tr < x.k.tr)
theorem eY {a b:Bytes} (h1:¬ a < b) (h2:¬ b < a):a=b:=by
 rcases gV a b with h | h | h
 ·exact absurd h h1
 ·exact h
 ·exact absurd h h2
theorem cY {a b c:Bytes} (h1:a < b) (h2:¬ c < b):a < c:=by
 by_cases h:c=b
 ·subst h; exact h1
 ·have:b < c:=by
    rcases gV b c with h3 | h3 | h3
    ·exact h3
    ·exact absurd h3.symm h
    ·exact absurd h3 h2
  exact List.lt_trans h1 this
theorem fQ {a b c:Bytes} (h1:¬ b < a) (h2:b < c):a < c:=by
 by_cases h:a=b
 ·subst h; exact h2
 ·have:a < b:=by
    rcases gV a b with h3 | h3 | h3
    ·exact h3
    ·exact absurd h3 h
    ·exact absurd h3 h1
  exact List.lt_trans this h2
theorem Dk {l:List KR} (h:SS l) (p:Option Bytes) (hp:∀ q,p=some q→∀ x ∈ l,¬ x.k.suf < q) :
    (vS p l).Pairwise (fun x y=>x.k.suf < y.k.suf)∧(∀ q,p=some q→∀ x ∈ vS p l,q < x.k.suf) ∧
    ∀ x,x ∈ vS p l↔x ∈ l∧p≠some x.k.suf∧∀ y ∈ l,y.k.suf=x.k.suf→y.k.tr≤x.k.tr:=by
 induction l generalizing p with
 | nil=>simp [vS]
 | cons z l ih =>
  have hz:=fun {y:KR}=>bI (a':=y) h
  unfold vS
  split
  ·rename_i he
   obtain ⟨i1,i2,i3⟩:=ih h.of_cons p (fun q hq x hx=>hp q hq x (aW _ hx))
   refine ⟨i1,i2,fun x => ?_⟩
   rw [i3]
   constructor
   ·rintro ⟨h1,h2,h3⟩
    refine ⟨aW _ h1,h2,fun y hy hys => ?_⟩
    rcases av.1 hy with rfl | hy
    ·rw [he,hys] at h2; exact absurd rfl h2
    ·exact h3 y hy hys
   ·rintro ⟨h1,h2,h3⟩
    rcases av.1 h1 with rfl | h1
    ·exact absurd he h2
    ·exact ⟨h1,h2,fun y hy=>h3 y (aW _ hy)⟩
  ·rename_i he
   obtain ⟨i1,i2,i3⟩:=ih h.of_cons (some z.k.suf) (fun q hq x hx=>by cases hq; exact (hz hx).1)
   refine ⟨List.pairwise_cons.2 ⟨fun x hx=>i2 _ rfl x hx,i1⟩,fun q hq x hx => ?_,fun x => ?_⟩
   ·have hzq:=hp q hq z aK
    have hlt:q < z.k.suf:=by
     rcases gV q z.k.suf with h3 | h3 | h3
     ·exact h3
     ·rw [hq,h3] at he; exact absurd rfl he
     ·exact absurd h3 hzq
    rcases av.1 hx with rfl | hx
    ·exact hlt
    ·exact List.lt_trans hlt (i2 _ rfl x hx)
   ·rw [av,i3]
    constructor
    ·rintro (rfl | ⟨h1,h2,h3⟩)
     ·refine ⟨aK,he,fun y hy hys => ?_⟩
      rcases av.1 hy with rfl | hy
      ·exact aF _
      ·exact gG ((hz hy).2 hys.symm)
     ·refine ⟨aW _ h1,?_,fun y hy hys => ?_⟩
      ·intro hpe
       have hne:z.k.suf≠x.k.suf:=fun e=>h2 (by rw [e])
       have a1:=hp _ hpe z aK
       have a2:=(hz h1).1
       exact hne (eY a1 a2)
      ·rcases av.1 hy with rfl | hy
       ·exact absurd (by rw [hys]) h2
       ·exact h3 y hy hys
    ·rintro ⟨h1,h2,h3⟩
     rcases av.1 h1 with rfl | h1
     ·exact .inl rfl
     ·refine .inr ⟨h1,fun e => ?_,fun y hy=>h3 y (aW _ hy)⟩
      have e':z.k.suf=x.k.suf:=by simpa using e
      have:=h3 z aK e'
      have:=(hz h1).2 e'
      omega
structure CoR (snap:Nat) (l r:List KR):Prop where
 sorted:r.Pairwise fun x y=>x.k.suf < y.k.suf
 mem:∀ x,x ∈ r↔x ∈ jk snap l∧∀ y ∈ jk snap l,y.k.suf=x.k.suf→y.k.tr≤x.k.tr
theorem CoR.sub {snap:Nat} {l r:List KR} (h:CoR snap l r) {x:KR} (hx:x ∈ r):x ∈ l:=ly.subset ((h.mem x).1 hx).1
theorem Hc {snap:Nat} {l:List KR} {a b:Array KR} (ha:a.toList=jk snap l) (h:Mg wN (fun x=>18446744073709551616 - x.k.tr) 0 a.size a b) (hgood:∀ x ∈ l,x.k.tr < 18446744073709551616):CoR snap l (vS none b.toList):=by
 obtain ⟨h1,h2,h3⟩:=h
 have pm:=dU h1 (aF _)
 have hz:b.size=a.size:=h1.1
 have hs:SS b.toList:=by
  unfold SS
  rw [bJ]
  intro i j hi hj hij
  simp only [Array.length_toList] at hi hj
  have e1:b.toList[i]=b[i]! := by rw [aI b i hi]; simp
  have e2:b.toList[j]=b[j]! := by rw [aI b j hj]; simp
  rw [e1,e2]
  have s:=h2 i j (aT _) hij (by omega)
  have s1:¬ b[j]!.k.suf < b[i]!.k.suf:=by simpa [wN] using s
  refine ⟨s1,fun he => ?_⟩
  have o:=h3 i j hij (by omega) (by unfold wN; simp [he]) (by unfold wN; simp [he])
  have g1:b[i]! ∈ l:=ly.subset (ha ▸ pm.mem_iff.1 (by rw [← e1]; exact an _))
  have:=hgood _ g1
  simp only at o
  omega
 obtain ⟨i1,_,i3⟩:=Dk hs none (fun q h=>by cases h)
 refine ⟨i1,fun x => ?_⟩
 rw [i3,← ha]
 simp only [pm.mem_iff,ne_eq,reduceCtorEq,not_false_eq_true,true_and]
theorem Hd {snap:Nat} {l:List KR} {a:Array KR} (ha:a.toList=jk snap l) (h:DK l) (hgood:∀ x ∈ l,x.k.tr < 18446744073709551616):kN wN (fun x=>18446744073709551616 - x.k.tr) a:=by
 intro i j hij hj h1 h2
 have hp:DK a.toList:=by rw [ha]; exact List.Pairwise.sublist ly h
 unfold DK at hp
 rw [bJ] at hp
 have:=hp i j (by simp; omega) (by simpa using hj) hij
 have e1:a.toList[i]'(by simp; omega)=a[i]! := by rw [aI a i (by omega)]; simp
 have e2:a.toList[j]'(by simpa using hj)=a[j]! := by rw [aI a j hj]; simp
 rw [e1,e2] at this
 have g0:a[i]! ∈ a.toList:=by rw [← e1]; exact an _
 have g1:a[i]! ∈ l:=ly.subset (ha ▸ g0)
 have hg:=hgood _ g1
 have he:a[i]!.k.suf=a[j]!.k.suf:=eY (by simpa [wN] using h1) (by simpa [wN] using h2)
 have:=this.2 he
 simp only
 omega
end Go.E
end
section
namespace Go.E
open Go Go.Sort Go.Proofs
def uI:(Nat→Bool)→Nat→Nat
 | _,0=>0
 | P,N+1=>if P 0 then uI (fun i=>P (i+1)) N+1 else 0
theorem rb (P:Nat→Bool) (N:Nat):uI P N≤N:=by
 induction N generalizing P with
 | zero=>exact aF _
 | succ N ih =>
  unfold uI
  split
  ·have:=ih (fun i=>P (i+1)); omega
  ·omega
theorem re {P:Nat→Bool} {N:Nat} (hd:∀ p q,p≤q→q < N→P q=true→P p=true) {p:Nat} (hp:p < N):p < uI P N↔P p=true:=by
 induction N generalizing P p with
 | zero=>omega
 | succ N ih =>
  unfold uI
  by_cases h0:P 0=true
  ·rw [if_pos h0]
   cases p with
   | zero=>simp [h0]
   | succ p =>
    rw [← ih (P:=fun i=>P (i+1)) (fun a b h1 h2 h3=>hd (a+1) (b+1) (by omega) (by omega) h3) (by omega)]
    omega
  ·rw [if_neg h0]
   constructor
   ·omega
   ·intro h; exact absurd (hd 0 p (aT _) hp h) h0
theorem iw {a b:Bytes} (h:a < b):¬ b < a:=fun h2=>bQ a (List.lt_trans h h2)
theorem oQ {L:List Sp} (h:Wf L) {p q:Nat} (hpq:p≤q) (hq:q < 2 * L.length):¬ iA L q < iA L p:=by
 have hj:q / 2 < L.length:=by omega
 unfold iA
 rcases aH (p / 2) (q / 2) with h1 | h1
 ·have a1:=h.2 _ _ h1 hj
  have a2:=h.1 (p / 2) (by omega)
  have a3:=h.1 (q / 2) hj
  split <;> split <;> grind
 ·have e:p / 2=q / 2:=by omega
  have a3:=h.1 (q / 2) hj
  rw [e]
  by_cases hp2:p % 2=0
  ·rw [if_pos hp2]
   split
   ·exact bQ _
   ·exact iw a3
  ·rw [if_neg hp2,if_neg (by omega)]
   exact bQ _
def cL (L:List Sp) (x:Bytes):Nat:=uI (fun p=>decide (iA L p < x)) (2 * L.length)
def cE (L:List Sp) (x:Bytes):Nat:=uI (fun p=>decide (¬ x < iA L p)) (2 * L.length)
theorem Gh {L:List Sp} (h:Wf L) {x:Bytes} {p:Nat} (hp:p < 2 * L.length):p < cL L x↔iA L p < x:=by
 unfold cL
 rw [re (fun a b h1 h2 h3 => ?_) hp,decide_eq_true_eq]
 rw [decide_eq_true_eq] at h3 ⊢
 exact fQ (oQ h h1 h2) h3
theorem AM {L:List Sp} (h:Wf L) {x:Bytes} {p:Nat} (hp:p < 2 * L.length):p < cE L x↔¬ x < iA L p:=by
 unfold cE
 rw [re (fun a b h1 h2 h3 => ?_) hp,decide_eq_true_eq]
 rw [decide_eq_true_eq] at h3 ⊢
 intro h4
 exact h3 (cY h4 (oQ h h1 h2))
theorem JS (L:List Sp) (x:Bytes):cL L x≤2 * L.length:=rb _ _
theorem Dm (L:List Sp) (x:Bytes):cE L x≤2 * L.length:=rb _ _
theorem pU {a b N:Nat} (ha:a≤N) (hb:b≤N) (h:∀ p,p < N→(p < a↔p < b)):a=b:=by
 rcases dE a b with h1 | h1 | h1
 ·have:=h a (by omega); omega
 ·exact h1
 ·have:=h b (by omega); omega
structure Bds (n:Nat) (L:Nat→List Sp) (B:List Bytes):Prop where
 wf:∀ i,i < n→Wf (L i)
 sorted:B.Pairwise (· < ·)
 mem:∀ x,x ∈ B↔∃ i,i < n∧∃ p,p < 2 * (L i).length∧iA (L i) p=x
section
variable {n:Nat} {L:Nat→List Sp} {B:List Bytes}
theorem Bds.lt (h:Bds n L B) {i j:Nat} (hi:i < B.length) (hj:j < B.length):B[i]! < B[j]! ↔ i < j:=by
 have hp:=bJ.1 h.sorted
 rw [aI B i hi,aI B j hj]
 constructor
 ·intro h1
  rcases dE i j with h2 | h2 | h2
  ·exact h2
  ·subst h2; exact absurd h1 (bQ _)
  ·exact absurd h1 (iw (hp j i hj hi h2))
 ·intro h1; exact hp i j hi hj h1
theorem Bds.at (h:Bds n L B) {i p:Nat} (hi:i < n) (hp:p < 2 * (L i).length):∃ j,j < B.length∧B[j]! = iA (L i) p:=by
 have:=(h.mem (iA (L i) p)).2 ⟨i,hi,p,hp,rfl⟩
 obtain ⟨j,hj,e⟩:=bB this
 exact ⟨j,hj,by rw [aI B j hj]; exact e⟩
def cp (L:Nat→List Sp) (B:List Bytes) (t i:Nat):Nat:=if t=0 then 0 else cE (L i) B[t - 1]!
theorem jw (t i:Nat):cp L B t i≤2 * (L i).length:=by
 unfold cp
 split
 ·omega
 ·exact Dm _ _
theorem iC (h:Bds n L B) {t i p:Nat} (ht:t≤B.length) (hi:i < n) (hp:p < 2 * (L i).length) {j:Nat} (hj:j < B.length) (e:B[j]! = iA (L i) p):p < cp L B t i↔j < t:=by
 unfold cp
 split
 ·omega
 ·rw [AM (h.wf i hi) hp,← e,h.lt (by omega) hj]
  omega
theorem JT (h:Bds n L B) {t i:Nat} (ht:t < B.length) (hi:i < n):cp L B t i=cL (L i) B[t]! := by
 refine pU (jw t i) (JS _ _) fun p hp => ?_
 obtain ⟨j,hj,e⟩:=h.at hi hp
 rw [iC h (by omega) hi hp hj e,Gh (h.wf i hi) hp,← e,h.lt hj ht]
theorem Dn (h:Bds n L B) {i:Nat} (hi:i < n):cp L B B.length i=2 * (L i).length:=by
 refine pU (jw _ i) (aF _) fun p hp => ?_
 obtain ⟨j,hj,e⟩:=h.at hi hp
 rw [iC h (by omega) hi hp hj e]
 omega
theorem AN (h:Bds n L B) {t t2 i:Nat} (ht:t≤t2) (ht2:t2≤B.length) (hi:i < n):cp L B t i≤cp L B t2 i:=by
 rcases aH (cp L B t2 i) (cp L B t i) with h1 | h1
 ·have hp:cp L B t2 i < 2 * (L i).length:=by have:=jw (L:=L) (B:=B) t i; omega
  obtain ⟨j,hj,e⟩:=h.at hi hp
  have a:=(iC h (by omega:t≤B.length) hi hp hj e).1 h1
  have b:=(iC h ht2 hi hp hj e).2 (by omega)
  omega
 ·exact h1
def E9 (n:Nat) (L:Nat→List Sp) (B:List Bytes) (t:Nat) (pos:Nat→Int):Prop:=∀ i,i < n→0 < (L i).length→(cp L B t i:Int)≤pos i∧pos i≤cp L B (min (t+1) B.length) i
structure NearF (n:Nat) (L:Nat→List Sp) (B:List Bytes) (t:Nat) (pos:Nat→Int):Prop where
 le:t≤B.length
 rg:E9 n L B t pos
 ex:t < B.length→∃ i,i < n∧gY (L i) (pos i)∧iA (L i) (pos i).toNat=B[t]!
def FA (n:Nat) (L:Nat→List Sp) (B:List Bytes) (t:Nat) (pos:Nat→Int):Prop:=∀ i,i < n→0 < (L i).length→pos i=cp L B t i
theorem jF {L:List Sp} {p:Int} (h:gY L p):∃ q:Nat,p=q∧q < 2 * L.length∧0 < L.length:=by
 unfold gY at h
 exact ⟨p.toNat,by omega,by omega,by omega⟩
theorem E9.ge (h:Bds n L B) {t i:Nat} {pos:Nat→Int} (g:E9 n L B t pos) (ht:t < B.length) (hi:i < n) (hv:gY (L i) (pos i)):¬ iA (L i) (pos i).toNat < B[t]! := by
 obtain ⟨q,e,hq,h0⟩:=jF hv
 have:=(g i hi h0).1
 rw [e,cH,← Gh (h.wf i hi) hq,← JT h ht hi]
 omega
theorem NearF.root (h:Bds n L B) {t r:Nat} {pos:Nat→Int} (g:NearF n L B t pos) (hr:r < n) (hv:gY (L r) (pos r)) (hmin:∀ x,x < n→gY (L x) (pos x)→¬ iA (L x) (pos x).toNat < iA (L r) (pos r).toNat) :
    t < B.length∧iA (L r) (pos r).toNat=B[t]! := by
 have ht:t < B.length:=by
  rcases aH t B.length with h1 | h1
  ·exact h1
  ·exfalso
   obtain rfl:t=B.length:=by have:=g.le; omega
   obtain ⟨q,e,hq,h0⟩:=jF hv
   have:=(g.rg r hr h0).1
   rw [Dn h hr] at this
   omega
 obtain ⟨i,hi,hvi,ei⟩:=g.ex ht
 have a:=hmin i hi hvi
 rw [ei] at a
 exact ⟨ht,eY (g.rg.ge h ht hr hv) a⟩
theorem NearF.none (h:Bds n L B) {t:Nat} {pos:Nat→Int} (g:NearF n L B t pos) (hn:∀ x,x < n→¬ gY (L x) (pos x)):t=B.length:=by
 rcases aH t B.length with h1 | h1
 ·obtain ⟨i,hi,hv,_⟩:=g.ex h1
  exact absurd hv (hn i hi)
 ·have:=g.le; omega
theorem E9.step (h:Bds n L B) {t r:Nat} {pos:Nat→Int} (g:E9 n L B t pos) (ht:t < B.length) (hr:r < n) (hv:gY (L r) (pos r)) (e:iA (L r) (pos r).toNat=B[t]!):E9 n L B t (pT pos r (lu (L r) (pos r))):=by
 intro i hi h0
 unfold pT
 split
 ·rename_i hir
  subst hir
  obtain ⟨q,eq,hq,_⟩:=jF hv
  rw [eq,cH] at e
  have a:=(iC h (show t+1≤B.length by omega) hi hq ht e.symm).2 (by omega)
  have b:=(g i hi h0).1
  rw [eq] at b ⊢
  unfold lu
  rw [if_neg (by omega),show min (t+1) B.length=t+1 by omega]
  omega
 ·exact g i hi h0
theorem E9.done (h:Bds n L B) {t:Nat} {pos:Nat→Int} (g:E9 n L B t pos) (ht:t < B.length) (hne:∀ x,x < n→gY (L x) (pos x)→iA (L x) (pos x).toNat≠B[t]!):FA n L B (t+1) pos:=by
 intro i hi h0
 obtain ⟨g1,g2⟩:=g i hi h0
 rw [show min (t+1) B.length=t+1 by omega] at g2
 have a:=jw (L:=L) (B:=B) (t+1) i
 rcases Int.lt_or_le (pos i) (cp L B (t+1) i) with h1 | h1
 ·exfalso
  have hv:gY (L i) (pos i):=⟨by omega,by omega⟩
  obtain ⟨q,eq,hq,_⟩:=jF hv
  obtain ⟨j,hj,e⟩:=h.at hi hq
  have hne:=hne i hi hv
  rw [eq] at h1 g1 hne
  have b1:=(iC h (show t+1≤B.length by omega) hi hq hj e).1 (by omega)
  have b2:¬ j < t:=fun hjt=>by
   have:=(iC h (show t≤B.length by omega) hi hq hj e).2 hjt
   omega
  obtain rfl:j=t:=by omega
  rw [cH] at hne
  exact hne e.symm
 ·omega
theorem FA.near (h:Bds n L B) {t:Nat} {pos:Nat→Int} (g:FA n L B t pos) (ht:t≤B.length):NearF n L B t pos where
 le:=ht
 rg i hi h0:=by
  have:=AN h (show t≤min (t+1) B.length by omega) (by omega) hi
  rw [g i hi h0]
  omega
 ex hlt:=by
  have hm:B[t]! ∈ B:=by rw [aI B t hlt]; exact an _
  obtain ⟨i,hi,p,hp,e⟩:=(h.mem _).1 hm
  have h0:0 < (L i).length:=by omega
  have e1:=g i hi h0
  have a1:¬ p < cp L B t i:=by rw [iC h ht hi hp hlt e.symm]; omega
  have a2:cp L B t i < 2 * (L i).length:=by omega
  refine ⟨i,hi,⟨by omega,by omega⟩,?_⟩
  rw [e1,cH]
  obtain ⟨j,hj,ej⟩:=h.at hi a2
  have a3:=iC h ht hi a2 hj ej
  have a4:¬ j < t:=by omega
  have a5:=oQ (h.wf i hi) (show cp L B t i≤p by omega) hp
  rw [e,← ej,h.lt hlt hj] at a5
  obtain rfl:j=t:=by omega
  exact ej.symm
def Gi (n:Nat) (L:Nat→List Sp) (B:List Bytes) (t:Nat) (pos:Nat→Int):Prop:=∀ i,i < n→0 < (L i).length→(cp L B (t - 1) i:Int)≤pos i+1∧pos i+1≤cp L B t i
structure NearB (n:Nat) (L:Nat→List Sp) (B:List Bytes) (t:Nat) (pos:Nat→Int):Prop where
 le:t≤B.length
 rg:Gi n L B t pos
 ex:0 < t→∃ i,i < n∧gY (L i) (pos i)∧iA (L i) (pos i).toNat=B[t - 1]!
def He (n:Nat) (L:Nat→List Sp) (B:List Bytes) (t:Nat) (pos:Nat→Int):Prop:=∀ i,i < n→0 < (L i).length→pos i+1=cp L B t i
theorem Gi.le (h:Bds n L B) {t i:Nat} {pos:Nat→Int} (g:Gi n L B t pos) (ht:t≤B.length) (h0:0 < t) (hi:i < n) (hv:gY (L i) (pos i)):¬ B[t - 1]! < iA (L i) (pos i).toNat:=by
 obtain ⟨q,e,hq,hl⟩:=jF hv
 have:=(g i hi hl).2
 obtain ⟨j,hj,ej⟩:=h.at hi hq
 have a:=(iC h ht hi hq hj ej).1 (by omega)
 rw [e,cH,← ej,h.lt (by omega) hj]
 omega
theorem NearB.root (h:Bds n L B) {t r:Nat} {pos:Nat→Int} (g:NearB n L B t pos) (hr:r < n) (hv:gY (L r) (pos r)) (hmax:∀ x,x < n→gY (L x) (pos x)→¬ iA (L r) (pos r).toNat < iA (L x) (pos x).toNat) :
    0 < t∧iA (L r) (pos r).toNat=B[t - 1]! := by
 have ht:0 < t:=by
  rcases bt t with rfl | h1
  ·exfalso
   obtain ⟨q,e,hq,h0⟩:=jF hv
   have:=(g.rg r hr h0).2
   unfold cp at this
   rw [if_pos rfl] at this
   omega
  ·exact h1
 obtain ⟨i,hi,hvi,ei⟩:=g.ex ht
 have a:=hmax i hi hvi
 rw [ei] at a
 exact ⟨ht,eY a (g.rg.le h g.le ht hr hv)⟩
theorem NearB.none (h:Bds n L B) {t:Nat} {pos:Nat→Int} (g:NearB n L B t pos) (hn:∀ x,x < n→¬ gY (L x) (pos x)):t=0:=by
 rcases bt t with h1 | h1
 ·exact h1
 ·obtain ⟨i,hi,hv,_⟩:=g.ex h1
  exact absurd hv (hn i hi)
theorem Gi.step (h:Bds n L B) {t r:Nat} {pos:Nat→Int} (g:Gi n L B t pos) (ht:t≤B.length) (h0:0 < t) (hr:r < n) (hv:gY (L r) (pos r)) (e:iA (L r) (pos r).toNat=B[t - 1]!):Gi n L B t (pT pos r (LQ (pos r))):=by
 intro i hi hl
 unfold pT
 split
 ·rename_i hir
  subst hir
  obtain ⟨q,eq,hq,_⟩:=jF hv
  rw [eq,cH] at e
  have a:¬ q < cp L B (t - 1) i:=by rw [iC h (show t - 1≤B.length by omega) hi hq (show t - 1 < B.length by omega) e.symm]; omega
  have b:=(g i hi hl).2
  rw [eq] at b ⊢
  unfold LQ
  rw [if_neg (by omega)]
  omega
 ·exact g i hi hl
theorem Gi.done (h:Bds n L B) {t:Nat} {pos:Nat→Int} (g:Gi n L B t pos) (ht:t≤B.length) (h0:0 < t) (hne:∀ x,x < n→gY (L x) (pos x)→iA (L x) (pos x).toNat≠B[t - 1]!):He n L B (t - 1) pos:=by
 intro i hi hl
 obtain ⟨g1,g2⟩:=g i hi hl
 have a:=jw (L:=L) (B:=B) t i
 rcases Int.lt_or_le (cp L B (t - 1) i) (pos i+1) with h1 | h1
 ·exfalso
  have hv:gY (L i) (pos i):=⟨by omega,by omega⟩
  obtain ⟨q,eq,hq,_⟩:=jF hv
  obtain ⟨j,hj,e⟩:=h.at hi hq
  have hne:=hne i hi hv
  rw [eq] at h1 g2 hne
  have b1:=(iC h ht hi hq hj e).1 (by omega)
  have b2:¬ j < t - 1:=fun hjt=>by
   have:=(iC h (show t - 1≤B.length by omega) hi hq hj e).2 hjt
   omega
  obtain rfl:j=t - 1:=by omega
  rw [cH] at hne
  exact hne e.symm
 ·omega
theorem He.near (h:Bds n L B) {t:Nat} {pos:Nat→Int} (g:He n L B t pos) (ht:t≤B.length):NearB n L B t pos where
 le:=ht
 rg i hi h0:=by
  have:=AN h (show t - 1≤t by omega) ht hi
  rw [g i hi h0]
  omega
 ex h0:=by
  have hlt:t - 1 < B.length:=by omega
  have hm:B[t - 1]! ∈ B:=by rw [aI B _ hlt]; exact an _
  obtain ⟨i,hi,p,hp,e⟩:=(h.mem _).1 hm
  have hl:0 < (L i).length:=by omega
  have e1:=g i hi hl
  have a1:p < cp L B t i:=by rw [iC h ht hi hp hlt e.symm]; omega
  have a2:=jw (L:=L) (B:=B) t i
  obtain ⟨q,eq⟩:∃ q:Nat,pos i=q:=⟨(pos i).toNat,by omega⟩
  rw [eq] at e1
  have hq:q < 2 * (L i).length:=by omega
  refine ⟨i,hi,⟨by omega,by omega⟩,?_⟩
  rw [eq,cH]
  obtain ⟨j,hj,ej⟩:=h.at hi hq
  have a3:=(iC h ht hi hq hj ej).1 (by omega)
  have a5:=oQ (h.wf i hi) (show p≤q by omega) hq
  rw [e,← ej,h.lt hj hlt] at a5
  obtain rfl:j=t - 1:=by omega
  exact ej.symm
theorem He.none {pos:Nat→Int} (g:He n L B 0 pos) {x:Nat} (hx:x < n):¬ gY (L x) (pos x):=by
 intro hv
 obtain ⟨q,eq,hq,h0⟩:=jF hv
 have:=g x hx h0
 unfold cp at this
 rw [if_pos rfl] at this
 omega
end
end Go.E
end
section
namespace Go.E
open Go Go.Sort Go.Proofs
def Fp (snap:Nat) (ks:List K) (x:K):Bool :=
 ju snap x.tr && decide (au x.tr=21) && ks.all fun y => !ju snap y.tr || (if au y.tr=19 then decide (y.tr < x.tr) else decide (y.suf=x.suf→y.tr≤x.tr))
def JU (x y:K):Bool:=decide (¬ y.suf < x.suf)
def Tf (snap:Nat) (ks:List K):List K:=(ks.filter (Fp snap ks)).mergeSort JU
structure Cd (ks:List K):Prop where
 dist:ks.Pairwise fun x y=>x.suf=y.suf→x.tr≠y.tr
 kind:∀ x ∈ ks,au x.tr=19∨au x.tr=20∨au x.tr=21
theorem jx {snap:Nat} {ks:List K} {x:K}:Fp snap ks x=true↔ju snap x.tr=true∧au x.tr=21∧∀ y ∈ ks,ju snap y.tr=true→(au y.tr=19→y.tr < x.tr)∧(au y.tr≠19→y.suf=x.suf→y.tr≤x.tr):=by
 unfold Fp
 simp only [bq,decide_eq_true_eq,List.all_eq_true,Bool.or_eq_true,Bool.not_eq_true']
 constructor
 ·rintro ⟨⟨h1,h2⟩,h3⟩
  refine ⟨h1,h2,fun y hy hv => ?_⟩
  rcases h3 y hy with h | h
  ·rw [hv] at h; simp at h
  ·split at h
   ·rename_i h9
    exact ⟨fun _=>by simpa using h,fun h'=>absurd h9 h'⟩
   ·rename_i h9
    exact ⟨fun h'=>absurd h' h9,fun _=>of_decide_eq_true h⟩
 ·rintro ⟨h1,h2,h3⟩
  refine ⟨⟨h1,h2⟩,fun y hy => ?_⟩
  by_cases hv:ju snap y.tr=true
  ·right
   obtain ⟨a,b⟩:=h3 y hy hv
   split
   ·rename_i h9; simpa using a h9
   ·rename_i h9; exact aV (b h9)
  ·left; simpa using hv
theorem vT {a b:List K} (ha:a.Pairwise fun x y=>x.suf < y.suf) (hb:b.Pairwise fun x y=>x.suf < y.suf) (h:∀ x,x ∈ a↔x ∈ b):a=b:=by
 induction a generalizing b with
 | nil =>
  cases b with
  | nil=>rfl
  | cons y b=>exact absurd ((h y).2 aK) (by simp)
 | cons x a ih =>
  cases b with
  | nil=>exact absurd ((h x).1 aK) (by simp)
  | cons y b =>
   have ha':=fun {z}=>bI (a':=z) ha
   have hb':=fun {z}=>bI (a':=z) hb
   have hxy:x=y:=by
    rcases av.1 ((h x).1 aK) with e | h1
    ·exact e
    ·rcases av.1 ((h y).2 aK) with e | h2
     ·exact e.symm
     ·exact absurd (ha' h2) (iw (hb' h1))
   subst hxy
   congr 1
   refine ih ha.of_cons hb.of_cons fun z => ?_
   have:=h z
   rw [av,av] at this
   constructor
   ·intro hz
    rcases this.1 (.inr hz) with e | h1
    ·subst e; exact absurd (ha' hz) (bQ _)
    ·exact h1
   ·intro hz
    rcases this.2 (.inr hz) with e | h1
    ·subst e; exact absurd (hb' hz) (bQ _)
    ·exact h1
theorem nH {snap:Nat} {ks:List K} {x:K}:x ∈ Tf snap ks↔x ∈ ks∧Fp snap ks x=true:=by
 unfold Tf
 rw [List.mem_mergeSort,bH]
theorem uJ {snap:Nat} {ks:List K} (h:Cd ks):(Tf snap ks).Pairwise fun x y=>x.suf < y.suf:=by
 have h1:(Tf snap ks).Pairwise fun x y=>JU x y=true:=by
  unfold Tf
  refine List.pairwise_mergeSort (fun a b c h1 h2 => ?_) (fun a b => ?_) _
  ·simp only [JU,decide_eq_true_eq] at h1 h2 ⊢
   intro h3
   exact h1 (fQ h2 h3)
  ·simp only [JU,Bool.or_eq_true,decide_eq_true_eq]
   by_cases hab:b.suf < a.suf
   ·exact .inr (iw hab)
   ·exact .inl hab
 have h2:(Tf snap ks).Pairwise fun x y=>x.suf=y.suf→x.tr≠y.tr:=by
  unfold Tf
  refine (List.Perm.pairwise_iff ?_ (List.mergeSort_perm _ _)).2 (List.Pairwise.sublist List.filter_sublist h.dist)
  intro x y hxy e e2
  exact hxy e.symm e2.symm
 have h3:=h1.and h2
 rw [bJ] at h3 ⊢
 intro i j hi hj hij
 obtain ⟨a,b⟩:=h3 i j hi hj hij
 simp only [JU,decide_eq_true_eq] at a
 rcases gV (Tf snap ks)[i].suf (Tf snap ks)[j].suf with c | c | c
 ·exact c
 ·exfalso
  have m1:=nH.1 (an hi)
  have m2:=nH.1 (an hj)
  obtain ⟨v1,k1,a1⟩:=jx.1 m1.2
  obtain ⟨v2,k2,a2⟩:=jx.1 m2.2
  have e1:=(a1 _ m2.1 v2).2 (by omega) c.symm
  have e2:=(a2 _ m1.1 v1).2 (by omega) c
  exact b c (by omega)
 ·exact absurd c a
theorem JV {snap:Nat} {l r:List KR} {ks:List K} (hd:DK l) (hc:CoR snap l r) (hks:(l.map KR.k).Perm ks) (h:Cd ks):(r.filter fun x=>au x.k.tr == 21).map KR.k=Tf snap ks:=by
 refine vT ?_ (uJ h) fun x => ?_
 ·rw [List.pairwise_map]
  exact hc.sorted.filter _
 ·rw [nH,jx,bj]
  constructor
  ·rintro ⟨a,ha,rfl⟩
   rw [bH,hc.mem,oP hd] at ha
   obtain ⟨⟨⟨p1,p2,p3,p4⟩,p5⟩,p6⟩:=ha
   have p6:au a.k.tr=21:=by simpa using p6
   refine ⟨hks.mem_iff.1 (List.mem_map_of_mem p1),p2,p6,fun y hy hv => ?_⟩
   obtain ⟨b,hb,rfl⟩:=bj.1 (hks.mem_iff.2 hy)
   refine ⟨p4 b hb hv,fun h9 hs => ?_⟩
   by_cases hbp:b ∈ jk snap l
   ·exact p5 b hbp hs
   ·rw [oP hd] at hbp
    have:∃ z ∈ l,ju snap z.k.tr=true∧au z.k.tr=19∧¬ b.k.tr > z.k.tr:=by
     refine Classical.byContradiction fun hno=>hbp ⟨hb,hv,h9,fun z hz hzv hz9 => ?_⟩
     refine Classical.byContradiction fun hlt=>hno ⟨z,hz,hzv,hz9,hlt⟩
    obtain ⟨z,hz,hzv,hz9,hlt⟩:=this
    have:=p4 z hz hzv hz9
    omega
  ·rintro ⟨h1,h2,h3,h4⟩
   obtain ⟨a,ha,rfl⟩:=bj.1 (hks.mem_iff.2 h1)
   refine ⟨a,?_,rfl⟩
   rw [bH,hc.mem,oP hd]
   refine ⟨⟨⟨ha,h2,by omega,fun y hy hv h9=>(h4 y.k (hks.mem_iff.1 (List.mem_map_of_mem hy)) hv).1 h9⟩,fun y hy hs => ?_⟩,by simpa using h3⟩
   obtain ⟨q1,q2,q3,_⟩:=(oP hd y).1 hy
   exact (h4 y.k (hks.mem_iff.1 (List.mem_map_of_mem q1)) q2).2 q3 hs
section
variable (F:List K→List K) (n:Nat) (L:Nat→List Sp) (B:List Bytes)
def cy (u:Nat):List K:=(List.range n).flatMap fun i=>if cp L B u i % 2=1 then (L i)[cp L B u i / 2]!.ks else []
def tE (u:Nat):Bool:=(List.range n).any fun i=>decide (cp L B u i % 2=1)
def eK:List Nat:=(List.range (B.length+1)).filter (tE n L B)
def lz (u:Nat):Sp:=⟨B[u - 1]!,B[u]!,F (cy n L B u)⟩
def GL:List Sp:=(eK n L B).map (lz F n L B)
end
section
variable {n:Nat} {L:Nat→List Sp} {B:List Bytes}
theorem oR {u:Nat}:tE n L B u=true↔∃ i,i < n∧cp L B u i % 2=1:=by
 unfold tE
 simp only [List.any_eq_true,List.mem_range,decide_eq_true_eq]
theorem rh (h:Bds n L B) {u:Nat} (hu:u≤B.length) (hc:tE n L B u=true):0 < u∧u < B.length:=by
 obtain ⟨i,hi,h1⟩:=oR.1 hc
 constructor
 ·rcases bt u with rfl | h2
  ·unfold cp at h1; rw [if_pos rfl] at h1; omega
  ·exact h2
 ·rcases aH u B.length with h2 | h2
  ·exact h2
  ·obtain rfl:u=B.length:=by omega
   rw [Dn h hi] at h1
   omega
theorem gO {u:Nat}:u ∈ eK n L B↔u≤B.length∧tE n L B u=true:=by
 unfold eK
 rw [bH,List.mem_range,Nat.lt_succ_iff]
theorem ja:(eK n L B).Pairwise (· < ·):=by
 unfold eK
 exact List.Pairwise.filter _ List.pairwise_lt_range
end
def AO (S:List Nat) (m c:Nat) (p:Int):Prop:=(∃ j:Nat,p=j∧S[j]? = some c)∨(p=S.length∧c=m)∨(p = -1∧c=0)
section
variable {S:List Nat} {m c u:Nat} {p:Int}
theorem mX (hS:S.Pairwise (· < ·)) {i j a b:Nat} (hi:S[i]? = some a) (hj:S[j]? = some b):a < b↔i < j:=by
 obtain ⟨hi',rfl⟩:=aQ.1 hi
 obtain ⟨hj',rfl⟩:=aQ.1 hj
 have hp:=bJ.1 hS
 constructor
 ·intro h1
  rcases dE i j with h2 | h2 | h2
  ·exact h2
  ·subst h2; omega
  ·have:=hp j i hj' hi' h2; omega
 ·exact hp i j hi' hj'
theorem AO.rg (h:AO S m c p) : -1≤p∧p≤S.length:=by
 rcases h with ⟨j,rfl,h⟩ | ⟨rfl,_⟩ | ⟨rfl,_⟩
 ·have:=(aQ.1 h).1; omega
 ·omega
 ·omega
theorem AO.next (hS:S.Pairwise (· < ·)) (hb:∀ x ∈ S,0 < x∧x < m) (h:AO S m c p) (hu:u ∈ S) (hcu:c < u) (hno:∀ v ∈ S,c < v→¬ v < u):AO S m u (p+1)∧p+1 < S.length:=by
 obtain ⟨j,hj,e⟩:=bB hu
 have ej:S[j]? = some u:=by rw [aD hj,e]
 have key:p+1=j:=by
  rcases h with ⟨i,rfl,hi⟩ | ⟨rfl,rfl⟩ | ⟨rfl,rfl⟩
  ·have hij:=(mX hS hi ej).1 hcu
   rcases aH (i+1) j with h1 | h1
   ·exfalso
    have e1:S[i+1]? = some S[i+1]:=aD (by omega)
    exact hno _ (an _) ((mX hS hi e1).2 (by omega)) ((mX hS e1 ej).2 h1)
   ·omega
  ·have:=(hb u hu).2; omega
  ·rcases bt j with rfl | h1
   ·omega
   ·exfalso
    have e1:S[0]? = some S[0]:=aD (by omega)
    exact hno _ (an _) (hb _ (an (by omega))).1 ((mX hS e1 ej).2 h1)
 exact ⟨.inl ⟨j,key,ej⟩,by omega⟩
theorem AO.next_none (hS:S.Pairwise (· < ·)) (hb:∀ x ∈ S,0 < x∧x < m) (h:AO S m c p) (hno:∀ v ∈ S,¬ c < v):(S.length:Int)≤p+1:=by
 rcases h with ⟨i,rfl,hi⟩ | ⟨rfl,rfl⟩ | ⟨rfl,rfl⟩
 ·rcases aH (i+1) S.length with h1 | h1
  ·exfalso
   have e1:S[i+1]? = some S[i+1]:=aD h1
   exact hno _ (an _) ((mX hS hi e1).2 (by omega))
  ·omega
 ·omega
 ·rcases bt S.length with h1 | h1
  ·omega
  ·exact absurd (hb _ (an h1)).1 (hno _ (an h1))
theorem AO.prev (hS:S.Pairwise (· < ·)) (hb:∀ x ∈ S,0 < x∧x < m) (h:AO S m c p) (hu:u ∈ S) (hcu:u < c) (hno:∀ v ∈ S,v < c→¬ u < v):AO S m u (p - 1)∧0≤p - 1:=by
 obtain ⟨j,hj,e⟩:=bB hu
 have ej:S[j]? = some u:=by rw [aD hj,e]
 have key:p - 1=j:=by
  rcases h with ⟨i,rfl,hi⟩ | ⟨rfl,rfl⟩ | ⟨rfl,rfl⟩
  ·have hij:=(mX hS ej hi).1 hcu
   rcases aH (j+1) i with h1 | h1
   ·exfalso
    have hil:=(aQ.1 hi).1
    have e1:S[j+1]? = some S[j+1]:=aD (by omega)
    exact hno _ (an _) ((mX hS e1 hi).2 h1) ((mX hS ej e1).2 (by omega))
   ·omega
  ·rcases aH (j+1) S.length with h1 | h1
   ·exfalso
    have e1:S[j+1]? = some S[j+1]:=aD (by omega)
    exact hno _ (an _) (hb _ (an _)).2 ((mX hS ej e1).2 (by omega))
   ·omega
  ·omega
 exact ⟨.inl ⟨j,key,ej⟩,by omega⟩
end
def qj (G:List Sp) (key:Bytes):Nat:=uI (fun j=>decide (¬ key < G[j]!.e)) G.length
def tQ (G:List Sp) (key:Bytes):Int:=(uI (fun j=>decide (G[j]!.s < key)) G.length:Int) - 1
end Go.E
end
