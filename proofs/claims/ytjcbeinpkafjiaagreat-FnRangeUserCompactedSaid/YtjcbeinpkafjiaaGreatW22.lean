/- Parts of the proof: Xg, Xf, Xh, Xi, Ua, Vi. -/
import Derived.Test.YtjcbeinpkafjiaaGreatW19
import Derived.Test.YtjcbeinpkafjiaaGreatW20
import Derived.Test.YtjcbeinpkafjiaaGreatW21
set_option linter.all false
set_option maxRecDepth 10000
section
namespace Go.E
open Go Go.Sort Go.Proofs Go.Proofs.Tryz
def z9 (x:Bytes):List Value:=[str x]
theorem uy (x:Bytes):(z9 x).length=1:=rfl
theorem FL {P:Program} {k:au} {w:World} {dT sT ty el:TypeId} {by_:Nat} {b o n c m cc:Nat} {a:Addr} {l:List Value} (h:iA P dT=some (el,1,by_)) (hl:l.length=n) (hn:n≤m) (hv:∀ j u,l[j]? = some u→w.cell? (a.add j)=some u) (h1:∀ u ∈ l,u.oneCell'=true) (hc:∀ j,j < n→(w.cell? ⟨b,o+j,none⟩).isSome=true) (hf:∀ j,w.frozen? ⟨b,j,none⟩=false)
    (hk:k (.int .i64 n) (w.setCells b o l)):EX P #[dT,sT] ty #[.slice (some ⟨b,o,none⟩) n c,.slice (some a) m cc] k w:=by
 obtain ⟨i,z,e1,e2,e3,e4,e5,e6,e7⟩:=kt h
 have:=run_copy_cells (P:=P) w dT sT ty el b o n c a m cc l e1 (by rw [e2]; simpa using e4) (by rw [hl]; exact (Nat.min_eq_right hn).symm) hv (fun j hj=>hc j (by omega)) (fun j _=>hf _) h1
 simp only [EX,du,this,hl]
 exact hk
def GP (xs:List Value) (o:Nat):List Value→List Value
 | []=>xs
 | v :: l=>GP (xs.set o v) (o+1) l
theorem tz {w:World} {g n cap o:Nat} {xs:List Value} {e:TypeId} {sz:Nat} (l:List Value) (h:w.ownsRow 0 e sz (.slice (some ⟨g,0,none⟩) n cap) n xs):(w.setCells g o l).ownsRow 0 e sz (.slice (some ⟨g,0,none⟩) n cap) n (GP xs o l):=by
 induction l generalizing w o xs with
 | nil=>exact h
 | cons v l ih=>exact ih (cS h o v)
theorem uz (xs:List Value) (o:Nat) (l:List Value):(GP xs o l).length=xs.length:=by
 induction l generalizing xs o with
 | nil=>rfl
 | cons v l ih=>unfold GP; rw [ih,dR]
theorem Em (xs:List Value) (o:Nat) (l:List Value) (h:o+l.length≤xs.length) (p:Nat):(GP xs o l)[p]? = if o≤p∧p < o+l.length then l[p - o]? else xs[p]? := by
 induction l generalizing xs o with
 | nil=>rw [if_neg (by simp only [List.length_nil]; omega)]; rfl
 | cons v l ih =>
  simp only [aY] at h ⊢
  unfold GP
  rw [ih _ _ (by rw [dR]; omega)]
  by_cases hp:p=o
  ·subst hp
   rw [if_neg (by omega),if_pos (by omega),List.getElem?_set_self (by omega),Nat.sub_self]
   rfl
  ·by_cases hp2:o+1≤p∧p < o+1+l.length
   ·rw [if_pos hp2,if_pos (by omega),show p - o=p - (o+1)+1 by omega,List.getElem?_cons_succ]
   ·rw [if_neg hp2,if_neg (by omega),List.getElem?_set_ne (by omega)]
theorem vA (b:List Bytes):b.flatMap z9=b.map str:=by
 induction b with
 | nil=>rfl
 | cons x b ih=>rw [ax,ih]; rfl
theorem uA (b:List Bytes) (key:Bytes) {i:Nat} (h:i≤b.length):(GP ((b++[[]]).map str) (i+1) ((b.drop i).map str)).set i (str key)=(b.take i++key :: b.drop i).map str:=by
 refine List.ext_getElem? fun p => ?_
 have hl:((b++[[]]).map str).length=b.length+1:=by simp
 by_cases hp:p=i
 ·subst hp
  rw [List.getElem?_set_self (by rw [uz,hl]; omega),br,bC (by simp; omega)]
  simp [Nat.min_eq_left h]
 ·rw [List.getElem?_set_ne (by omega),Em _ _ _ (by rw [hl]; simp; omega),br]
  rcases aG p i with h1 | h1
  ·rw [if_neg (by omega),br,br,bV (by omega),bV (by rw [bB]; omega),List.getElem?_take_of_lt h1]
  ·rw [br (l:=b.take i++key :: b.drop i),bC (by rw [bB]; omega)]
   obtain ⟨q,rfl⟩:∃ q,p=i+1+q:=⟨p - (i+1),by omega⟩
   rw [show i+1+q - (b.take i).length=q+1 by rw [bB]; omega,List.getElem?_cons_succ]
   by_cases hq:q < (b.drop i).length
   ·rw [if_pos (by simp only [aS]; omega),show i+1+q - (i+1)=q by omega]
   ·rw [if_neg (by simp only [aS]; omega),List.getElem?_eq_none (by rw [hl]; rw [List.length_drop] at hq; omega),List.getElem?_eq_none (by omega)]
    rfl
end Go.E
namespace Go.Proofs
open Go Go.E Go.Sort Go.Proofs.Tryz
section
variable {k:au} {d w:World}
set_option maxHeartbeats 1000000 in
theorem xN {B:Nat} {v:Value} {b:List Bytes} {key:Bytes} (hc:w.cell? ⟨B,0,none⟩=some v) (hf:∀ x,w.frozen? ⟨B,x,none⟩=false) (o:OwnC z9 1 9 w v b) (hB:v.ownBlock≠some B) (hl:b.length < 100000)
    (hk:∀ v2 w2,OwnC z9 1 9 w2 v2 (jb b key)→w2.cell? ⟨B,0,none⟩=some v2→Keep (fun x _=>x=B∨v.ownBlock=some x) w w2→cP w v v2→k (.tuple #[]) w2):aX prog 130 #[.string ⟨key.toArray⟩,.pointer (some ⟨B,0,none⟩)] k w:=by
 obtain ⟨va,vc,rfl,hcl,hcm⟩:=o.form
 refine ae [] func130 ?_
 refine bf @hc ?_
 refine iq (fun i:Nat=>[(0,.string ⟨key.toArray⟩),(1,.pointer (some ⟨B,0,none⟩)),(3,.int .i64 i)]) (fun i w'=>i≤b.length∧w'=w∧gN EF key b b.length=i) (by kernel_rfl) (fun K hK => ?_) ?_
 ·refine bR (fun i:Nat=>[(0,.string ⟨key.toArray⟩),(1,.pointer (some ⟨B,0,none⟩)),(3,.int .i64 i)])
    (fun i w'=>i≤b.length∧w'=w∧gN EF key b b.length=gN EF key b i) (fun i _=>i) b.length (by kernel_rfl) ?_ ⟨aE _,rfl,rfl⟩ ?_
  ·exact bO
  rintro K2 e i w' ⟨i1,rfl,i3⟩ hK2
  rcases i with _ | i
  ·have hz:¬ (0:Int) < ((0:Nat):Int):=by omega
   refine dU @hc @hz ?_
   refine hK _ _ 0 ?_ ⟨aP _,rfl,by rw [i3]; rfl⟩
   exact bO
  have hz:(0:Int) < ((i+1:Nat):Int):=by omega
  have e1:((i+1:Nat):Int) - 1=(i:Nat):=by omega
  obtain ⟨y,hy⟩:∃ y,b[i]? = some y:=⟨_,aC (by omega)⟩
  obtain ⟨g,c,hve,_⟩:=o.block (show i < b.length by omega)
  obtain ⟨rfl,rfl⟩:va=some ⟨g,0,none⟩∧vc=c:=by simpa using hve
  have p0:=o.cell hy (j:=0) rfl
  simp only [str,Nat.add_zero] at p0
  by_cases hge:y < key
  ·refine pI @hc @hz @e1 @p0 @hge @not_true_eq_false ?_
   refine hK _ _ (i+1) ?_ ⟨i1,rfl,by rw [i3,jc hy,if_neg (by unfold EF; simpa using hge)]⟩
   exact bO
  ·refine pI @hc @hz @e1 @p0 @hge @not_false_eq_true ?_
   refine hK2 _ _ i ?_ ⟨by omega,rfl,by rw [i3,jc hy,if_pos (by unfold EF; exact aU hge)]⟩ (by omega)
   exact bO
 rintro e i w' ⟨i1,rfl,hidx⟩
 by_cases he:b[i]? = some key
 ·have ha:jb b key=b:=by unfold jb; rw [hidx,if_pos he]
  rw [ha] at hk
  have hlt:i < b.length:=(aR.1 he).1
  have hlt':(i:Int) < b.length:=by omega
  obtain ⟨g,c,hve,_⟩:=o.block hlt
  obtain ⟨rfl,rfl⟩:va=some ⟨g,0,none⟩∧vc=c:=by simpa using hve
  have p0:=o.cell he (j:=0) rfl
  simp only [str,Nat.add_zero] at p0
  refine eA @hc @hlt' @p0 ?_
  exact hk _ w' o hc (Keep.refl _ w') (cP.refl _ _)
 have ha:jb b key=b.take i++key :: b.drop i:=by unfold jb mj; rw [hidx,if_neg he]
 rw [ha] at hk
 obtain ⟨vn,hvn⟩:∃ vn:Value,vn = .slice va b.length vc:=⟨_,rfl⟩
 rw [← hvn] at o hc hk hB
 have next:∀ (v2:Value) (w2:World),OwnC z9 1 9 w2 v2 (b++[[]])→Keep (fun x _=>vn.ownBlock=some x) w' w2→cP w' vn v2→∃ g c,v2 = .slice (some ⟨g,0,none⟩) (b.length+1) c∧b.length+1≤c∧c≤9223372036854775807∧g≠B:=by
  intro v2 w2 o2 k2 n2
  obtain ⟨a,c,e1,e2,e3⟩:=o2.form
  obtain ⟨g,c',e4,_⟩:=o2.block (i:=0) (by simp)
  rw [e1] at e4
  obtain ⟨rfl,rfl⟩:a=some ⟨g,0,none⟩∧c=c':=by simpa using e4
  refine ⟨g,c,by rw [e1]; simp,by simpa using e2,e3,fun hg => ?_⟩
  rcases n2 g (by rw [e1]; rfl) with h | h
  ·exact hB (by rw [h,hg])
  ·have:=aD hc; omega
 by_cases hlt:i < b.length
 ·have hlt':(i:Int) < b.length:=by omega
  obtain ⟨y,hy⟩:=gEl hlt
  have hyk:¬ y=key:=fun h=>he (by rw [hy,h])
  obtain ⟨g,c,hve,_⟩:=o.block hlt
  rw [hvn] at hve
  obtain ⟨rfl,rfl⟩:va=some ⟨g,0,none⟩∧vc=c:=by simpa using hve
  have p0:=(by rw [← hvn]; exact o:OwnC z9 1 9 w' (.slice (some ⟨g,0,none⟩) b.length vc) b).cell hy (j:=0) rfl
  simp only [str,Nat.add_zero] at p0
  refine gq @hc @hvn @hlt' @p0 @hyk ?_
  rw [← hvn]
  refine z8 ([]:Bytes) rw66 o rfl (.inl rfl) rfl (by simp [z9,str,Value.oneCell']) (by omega) fun v2 w2 o2 k2 n2 => ?_
  obtain ⟨g2,c2,rfl,c3,c4,hgB⟩:=next v2 w2 o2 k2 n2
  have hc2:=k2.some hc fun h=>hB h
  have hBl:=aD hc
  have f2:∀ x,w2.frozen? ⟨B,x,none⟩=false:=fun x=>by rw [k2.frozen B x hBl]; exact hf x
  refine dU @hc2 @f2 ?_
  obtain ⟨w3,hw3⟩:∃ w3,w3=w2.setCell ⟨B,0,none⟩ (.slice (some ⟨g2,0,none⟩) (b.length+1) c2):=⟨_,rfl⟩
  rw [← hw3]
  have hc3:w3.cell? ⟨B,0,none⟩=some (.slice (some ⟨g2,0,none⟩) (b.length+1) c2):=by rw [hw3,bu,hc2]; rfl
  have o3:OwnC z9 1 9 w3 (.slice (some ⟨g2,0,none⟩) (b.length+1) c2) (b++[[]]):=by rw [hw3]; exact o2.keep (bW (M:=fun x _=>x=B) rfl) fun g hg _ h=>hgB (by cases hg; exact h)
  have k3:Keep (fun x _=>x=B∨vn.ownBlock=some x∨x=g2) w' w3:=by rw [hw3]; exact (k2.mono fun x _ _ h => .inr (.inl h)).set fun _ => .inl rfl
  have f3:∀ x,w3.frozen? ⟨g2,x,none⟩=false:=fun x=>cl o3.own rfl x
  have ew:IntKind.i64.wrap ((i:Int)+1)=((i+1:Nat):Int):=by rw [jD (by omega) (by omega)]; omega
  have s1:∀ q,de prog 66 (.slice (some ⟨g2,0,none⟩) (b.length+1) c2) (some (.int .i64 ((i+1:Nat):Int))) none none q=q (.slice (if (c2:Int)=((i+1:Nat):Int) then some ⟨g2,0,none⟩ else some ⟨g2,i+1,none⟩) (b.length - i) (c2 - (i+1))):=fun q=>by
   rw [gp Tryz.es66 rfl rfl (by omega) (by simp [bd]; omega) (by simp [bd]; omega) (by simp [bd]) (by simp)]
   simp only [oE,az,Nat.mul_one,Option.map_some,ik,Nat.zero_add]
   rw [show b.length+1 - (i+1)=b.length - i by omega]
  have s2:∀ q,de prog 66 (.slice (some ⟨g2,0,none⟩) (b.length+1) c2) (some (.int .i64 (i:Int))) none none q=q (.slice (some ⟨g2,i,none⟩) (b.length+1 - i) (c2 - i)):=fun q=>by
   rw [gp Tryz.es66 rfl rfl (by omega) (by simp [bd]; omega) (by simp [bd]; omega) (by simp [bd]) (by simp)]
   simp only [oE,az,Nat.mul_one,Option.map_some,ik,Nat.zero_add]
   rw [if_neg (by omega)]
  refine ay (.read 0 (sq [1,2,3] (.read 4 (sq [5,6] (.eff 7 [] .done))))) ?_
  refine fI @hc3 @ew @s1 @s2 ?_
  obtain ⟨l4,hl4⟩:∃ l4,l4=(b.drop i).map str:=⟨_,rfl⟩
  have hll:l4.length=b.length - i:=by rw [hl4,aS,List.length_drop]
  have hcell:∀ (p:Nat) (x:Bytes),(b++[[]])[p]? = some x→w3.cell? ⟨g2,p,none⟩=some (str x):=fun p x hx=>by
   have o3':OwnC z9 1 9 w3 (.slice (some ⟨g2,0,none⟩) (b++[[]]).length c2) (b++[[]]):=by rw [aJ]; exact o3
   have:=o3'.cell hx (j:=0) rfl
   rwa [Nat.mul_one,Nat.add_zero] at this
  have cp:∀ q:au,q (.int .i64 ((b.length - i:Nat):Int)) (w3.drew.setCells g2 (i+1) l4)→EX prog #[66,66] 3 #[.slice (if (c2:Int)=((i+1:Nat):Int) then some ⟨g2,0,none⟩ else some ⟨g2,i+1,none⟩) (b.length - i) (c2 - (i+1)),.slice (some ⟨g2,i,none⟩) (b.length+1 - i) (c2 - i)] q w3.drew:=fun q hq=>by
   rcases aG i b.length with h1 | h1
   ·rw [if_neg (by omega)]
    refine FL rw66 hll (by omega) (fun j u hu => ?_) (fun u hu => ?_) (fun j hj => ?_) f3 hq
    ·rw [ik rfl]
     rw [hl4,br,List.getElem?_drop] at hu
     obtain ⟨x,hx,rfl⟩:=Option.map_eq_some_iff.1 hu
     exact hcell _ x (by rw [bV (aR.1 hx).1]; exact hx)
    ·rw [hl4] at hu
     obtain ⟨x,_,rfl⟩:=bU.1 hu
     exact zq x
    ·have:(w3.cell? ⟨g2,i+1+j,none⟩).isSome=true:=by rw [hcell (i+1+j) _ (aC (by simp; omega))]; rfl
     exact this
   ·have hz:b.length - i=0:=by omega
    have hl0:l4=[]:=aZ.1 (by omega)
    rw [hz,hl0] at hq
    rw [hz]
    exact yq rw66 hq
  refine cp _ ?_
  obtain ⟨w4,hw4⟩:∃ w4,w4=w3.drew.setCells g2 (i+1) l4:=⟨_,rfl⟩
  rw [← hw4]
  have k4:Keep (fun x _=>x=g2) w3 w4:=by rw [hw4]; exact me l4 (i+1) (Keep.refl _ w3).drew fun j _=>rfl
  have hc4:=k4.some hc3 fun h=>hgB h.symm
  have o4:=tz (n:=b.length+1) (o:=i+1) l4 (by have:=o3.own.drew; rwa [aJ] at this)
  rw [← hw4,vA,hl4] at o4
  have q4:∃ u,w4.cell? ⟨g2,i,none⟩=some u:=⟨_,bL o4 (aC (by rw [uz]; simp; omega))⟩
  obtain ⟨u4,q4⟩:=q4
  have f4:∀ x,w4.frozen? ⟨g2,x,none⟩=false:=fun x=>cl o4 rfl x
  refine fI @hc4 @Nat.mul_one @q4 @f4 ?_
  have o5:=cS o4 i (str key)
  rw [uA b key i1] at o5
  refine hk _ _ ⟨?_,uy⟩ ((vr hgB).trans hc4) ?_ n2
  ·rw [vA,show (b.take i++key :: b.drop i).length=b.length+1 by simp; omega]
   exact o5
  ·refine ((k3.tr k4 fun x _ _ h => .inr (.inr h)).set fun _ => .inr (.inr rfl)).mono fun x _ hx h => ?_
   rcases h with h | h | h
   ·exact .inl h
   ·exact .inr h
   ·rcases n2 g2 rfl with h2 | h2
    ·exact .inr (by rw [h]; exact h2)
    ·omega
 ·have hlt':¬ (i:Int) < b.length:=by omega
  refine eA @hc @hvn @hlt' ?_
  rw [← hvn]
  refine z8 ([]:Bytes) rw66 o rfl (.inl rfl) rfl (by simp [z9,str,Value.oneCell']) (by omega) fun v2 w2 o2 k2 n2 => ?_
  obtain ⟨g2,c2,rfl,c3,c4,hgB⟩:=next v2 w2 o2 k2 n2
  have hc2:=k2.some hc fun h=>hB h
  have hBl:=aD hc
  have f2:∀ x,w2.frozen? ⟨B,x,none⟩=false:=fun x=>by rw [k2.frozen B x hBl]; exact hf x
  refine dU @hc2 @f2 ?_
  obtain ⟨w3,hw3⟩:∃ w3,w3=w2.setCell ⟨B,0,none⟩ (.slice (some ⟨g2,0,none⟩) (b.length+1) c2):=⟨_,rfl⟩
  rw [← hw3]
  have hc3:w3.cell? ⟨B,0,none⟩=some (.slice (some ⟨g2,0,none⟩) (b.length+1) c2):=by rw [hw3,bu,hc2]; rfl
  have o3:OwnC z9 1 9 w3 (.slice (some ⟨g2,0,none⟩) (b.length+1) c2) (b++[[]]):=by rw [hw3]; exact o2.keep (bW (M:=fun x _=>x=B) rfl) fun g hg _ h=>hgB (by cases hg; exact h)
  have k3:Keep (fun x _=>x=B∨vn.ownBlock=some x∨x=g2) w' w3:=by rw [hw3]; exact (k2.mono fun x _ _ h => .inr (.inl h)).set fun _ => .inl rfl
  have f3:∀ x,w3.frozen? ⟨g2,x,none⟩=false:=fun x=>cl o3.own rfl x
  have ew:IntKind.i64.wrap ((i:Int)+1)=((i+1:Nat):Int):=by rw [jD (by omega) (by omega)]; omega
  have s1:∀ q,de prog 66 (.slice (some ⟨g2,0,none⟩) (b.length+1) c2) (some (.int .i64 ((i+1:Nat):Int))) none none q=q (.slice (if (c2:Int)=((i+1:Nat):Int) then some ⟨g2,0,none⟩ else some ⟨g2,i+1,none⟩) (b.length - i) (c2 - (i+1))):=fun q=>by
   rw [gp Tryz.es66 rfl rfl (by omega) (by simp [bd]; omega) (by simp [bd]; omega) (by simp [bd]) (by simp)]
   simp only [oE,az,Nat.mul_one,Option.map_some,ik,Nat.zero_add]
   rw [show b.length+1 - (i+1)=b.length - i by omega]
  have s2:∀ q,de prog 66 (.slice (some ⟨g2,0,none⟩) (b.length+1) c2) (some (.int .i64 (i:Int))) none none q=q (.slice (some ⟨g2,i,none⟩) (b.length+1 - i) (c2 - i)):=fun q=>by
   rw [gp Tryz.es66 rfl rfl (by omega) (by simp [bd]; omega) (by simp [bd]; omega) (by simp [bd]) (by simp)]
   simp only [oE,az,Nat.mul_one,Option.map_some,ik,Nat.zero_add]
   rw [if_neg (by omega)]
  refine ay (.read 0 (sq [1,2,3] (.read 4 (sq [5,6] (.eff 7 [] .done))))) ?_
  refine fI @hc3 @ew @s1 @s2 ?_
  obtain ⟨l4,hl4⟩:∃ l4,l4=(b.drop i).map str:=⟨_,rfl⟩
  have hll:l4.length=b.length - i:=by rw [hl4,aS,List.length_drop]
  have hcell:∀ (p:Nat) (x:Bytes),(b++[[]])[p]? = some x→w3.cell? ⟨g2,p,none⟩=some (str x):=fun p x hx=>by
   have o3':OwnC z9 1 9 w3 (.slice (some ⟨g2,0,none⟩) (b++[[]]).length c2) (b++[[]]):=by rw [aJ]; exact o3
   have:=o3'.cell hx (j:=0) rfl
   rwa [Nat.mul_one,Nat.add_zero] at this
  have cp:∀ q:au,q (.int .i64 ((b.length - i:Nat):Int)) (w3.drew.setCells g2 (i+1) l4)→EX prog #[66,66] 3 #[.slice (if (c2:Int)=((i+1:Nat):Int) then some ⟨g2,0,none⟩ else some ⟨g2,i+1,none⟩) (b.length - i) (c2 - (i+1)),.slice (some ⟨g2,i,none⟩) (b.length+1 - i) (c2 - i)] q w3.drew:=fun q hq=>by
   rcases aG i b.length with h1 | h1
   ·rw [if_neg (by omega)]
    refine FL rw66 hll (by omega) (fun j u hu => ?_) (fun u hu => ?_) (fun j hj => ?_) f3 hq
    ·rw [ik rfl]
     rw [hl4,br,List.getElem?_drop] at hu
     obtain ⟨x,hx,rfl⟩:=Option.map_eq_some_iff.1 hu
     exact hcell _ x (by rw [bV (aR.1 hx).1]; exact hx)
    ·rw [hl4] at hu
     obtain ⟨x,_,rfl⟩:=bU.1 hu
     exact zq x
    ·have:(w3.cell? ⟨g2,i+1+j,none⟩).isSome=true:=by rw [hcell (i+1+j) _ (aC (by simp; omega))]; rfl
     exact this
   ·have hz:b.length - i=0:=by omega
    have hl0:l4=[]:=aZ.1 (by omega)
    rw [hz,hl0] at hq
    rw [hz]
    exact yq rw66 hq
  refine cp _ ?_
  obtain ⟨w4,hw4⟩:∃ w4,w4=w3.drew.setCells g2 (i+1) l4:=⟨_,rfl⟩
  rw [← hw4]
  have k4:Keep (fun x _=>x=g2) w3 w4:=by rw [hw4]; exact me l4 (i+1) (Keep.refl _ w3).drew fun j _=>rfl
  have hc4:=k4.some hc3 fun h=>hgB h.symm
  have o4:=tz (n:=b.length+1) (o:=i+1) l4 (by have:=o3.own.drew; rwa [aJ] at this)
  rw [← hw4,vA,hl4] at o4
  have q4:∃ u,w4.cell? ⟨g2,i,none⟩=some u:=⟨_,bL o4 (aC (by rw [uz]; simp; omega))⟩
  obtain ⟨u4,q4⟩:=q4
  have f4:∀ x,w4.frozen? ⟨g2,x,none⟩=false:=fun x=>cl o4 rfl x
  refine fI @hc4 @Nat.mul_one @q4 @f4 ?_
  have o5:=cS o4 i (str key)
  rw [uA b key i1] at o5
  refine hk _ _ ⟨?_,uy⟩ ((vr hgB).trans hc4) ?_ n2
  ·rw [vA,show (b.take i++key :: b.drop i).length=b.length+1 by simp; omega]
   exact o5
  ·refine ((k3.tr k4 fun x _ _ h => .inr (.inr h)).set fun _ => .inr (.inr rfl)).mono fun x _ hx h => ?_
   rcases h with h | h | h
   ·exact .inl h
   ·exact .inr h
   ·rcases n2 g2 rfl with h2 | h2
    ·exact .inr (by rw [h]; exact h2)
    ·omega
theorem zD {l:List Sp} {i:Nat} {x:Sp} (h:l[i]? = some x):cG (l.take (i+1))=jb (jb (cG (l.take i)) x.s) x.e:=by
 rw [bw h]
 unfold cG
 rw [List.foldl_append]
 rfl
theorem zE {v:Value} {l:List Sp} (hv:Sl eJ 3 w v l) (hl:l.length≤10000) (hk:∀ v2 w2,bj w w2→OwnC z9 1 9 w2 v2 (cG l)→(∀ g,v2.ownBlock=some g→w.heap.size≤g)→k v2 w2):aX prog 95 #[v] k w:=by
 obtain ⟨ka,kc,rfl⟩:=hv.form
 refine ae [.tmp 2] func95 ?_
 refine an ?_
 obtain ⟨B,hB⟩:∃ B,B=w.heap.size:=⟨_,rfl⟩
 obtain ⟨w0,hw0⟩:∃ w0,w0=w.alloc (.cells #[.slice none 0 0] 66):=⟨_,rfl⟩
 have x0:bj w w0:=by rw [hw0]; exact aM _
 have c0:w0.cell? ⟨B,0,none⟩=some (.slice none 0 0):=by rw [hw0,hB]; exact bk @aA
 have f0:∀ y,w0.frozen? ⟨B,y,none⟩=false:=fun y=>by rw [hw0,hB]; simp (disch:=first | exact dZ | fail) only [go_sem]
 rw [← hw0,← hB]
 refine bR (fun i:Nat=>[(3,.pointer (some ⟨B,0,none⟩)),(4,.func (.func 130) #[] #[.pointer (some ⟨B,0,none⟩)]),(8,.slice ka l.length kc),(9,.int .i64 l.length),(10,.int .i64 i)])
  (fun i w'=>i≤l.length∧bj w w'∧∃ v,w'.cell? ⟨B,0,none⟩=some v∧(∀ y,w'.frozen? ⟨B,y,none⟩=false)∧OwnC z9 1 9 w' v (cG (l.take i))∧(∀ g,v.ownBlock=some g→B < g)) (fun i _=>l.length - i) 0 (by kernel_rfl) ?_ ⟨aP _,x0,_,c0,f0,OwnC.nil uy,by simp [Value.ownBlock]⟩ ?_
 ·exact bO
 rintro K2 e i w1 ⟨i2,i3,v,i4,i5,i6,i7⟩ hK2
 have hB1:=aD i4
 rcases aG i l.length with hi | hi
 rotate_left
 ·have hi':¬ (i:Int) < l.length:=by omega
  obtain rfl:i=l.length:=by omega
  rw [ah] at i6
  obtain ⟨va,vc,rfl,_⟩:=i6.form
  refine dU @hi' @i4 ?_
  exact hk _ w1 i3 i6 fun g hg=>by have:=i7 g hg; omega
 have hi':(i:Int) < l.length:=by omega
 obtain ⟨g,f,c,hv',hc,hat⟩:=(hv.inc eJ.mono i3.inc).at (by omega)
 obtain ⟨rfl,rfl⟩:=sEq hv'
 obtain ⟨x,hx⟩:=gEl hi
 obtain ⟨h0,h1,a,cc,h2,_⟩:=eL (hat i x hx)
 refine gq @hi' @h0 @h1 @h2 @aA ?_
 obtain ⟨C,hC⟩:∃ C,C=w1.heap.size:=⟨_,rfl⟩
 obtain ⟨w2,hw2⟩:∃ w2,w2=w1.alloc (.cells #[.string ⟨x.s.toArray⟩,.string ⟨x.e.toArray⟩,.slice a x.ks.length cc] 46):=⟨_,rfl⟩
 have x2:bj w1 w2:=by rw [hw2]; exact aM _
 have z2:w2.heap.size=C+1:=by rw [hw2,World.size_alloc,hC]
 have c1:w2.cell? ⟨C,1,none⟩=some (.string ⟨x.e.toArray⟩):=by rw [hw2,hC]; exact bk @aA
 rw [← hw2,← hC]
 have hbl:(cG (l.take i)).length≤20000:=by have:=gL (l.take i); rw [dS i2] at this; omega
 refine xN (x2.cell i4) (fun y=>by rw [x2.frozen B y hB1]; exact i5 y) (i6.ext x2) (fun h=>by have:=i7 B h; omega) (by omega) fun v3 w3 o3 c3 k3 n3 => ?_
 have hb2:=mJ (cG (l.take i)) x.s
 have hown:∀ {g},v.ownBlock=some g→g < w1.heap.size:=fun h=>(i6.own.lt _ h).2
 have nC:∀ _:Nat,¬ (C=B∨v.ownBlock=some C):=fun y h=>by
  rcases h with h | h
  ·omega
  ·have:=hown h; omega
 have n3':∀ g,v3.ownBlock=some g→B < g∧g≠C:=fun g hg=>by
  rcases n3 g hg with h | h
  ·have:=i7 g h
   have:=hown h
   omega
  ·omega
 have c1:=k3.some c1 (nC 1)
 have f3:∀ y,w3.frozen? ⟨B,y,none⟩=false:=fun y=>by rw [k3.frozen B y (aI hB1 x2.size),x2.frozen B y hB1]; exact i5 y
 have e3:bj w w3:=(i3.trans x2).tr k3 fun b o hb h=>by
  rcases h with h | h
  ·omega
  ·have:=i7 b h; omega
 refine bf @c1 ?_
 refine xN c3 f3 o3 (fun h=>by have:=(n3' B h).1; omega) (by omega) fun v4 w4 o4 c4 k4 n4 => ?_
 refine an ?_
 refine hK2 _ _ (i+1) ?_ ⟨hi,e3.tr k4 fun b o hb h => ?_,v4,c4,fun y=>by rw [k4.frozen B y (aD c3)]; exact f3 y,by rw [zD hx]; exact o4,fun g hg => ?_⟩ (by omega)
 ·exact bO
 ·rcases h with h | h
  ·omega
  ·have:=(n3' b h).1; omega
 ·rcases n4 g hg with h | h
  ·exact (n3' g h).1
  ·have:=aD c3; omega
end
end Go.Proofs
end
section
namespace Go.E
open Go Go.Sort Go.Proofs Go.Proofs.Tryz
section
variable {α:Type} {R:iK α} {sz:Nat} {el:TypeId} {d w:World} {v u:Value} {l m:List α} {css:List (List Value)}
theorem Sl.lie [Inhabited α] (h:Sl R sz d v l) (hp:0 < sz):∃ css:List (List Value),css.length=l.length∧(∀ cs ∈ css,cs.length=sz)∧(∀ (i:Nat) (x:α) (cs:List Value),l[i]? = some x→css[i]? = some cs→R d cs x)∧∀ w,cN d w→rW w v l.length css.flatten:=by
 rcases bE l.length with h0 | h0
 ·obtain ⟨a,c,rfl⟩:=h.form
  refine ⟨[],by simp [h0],by simp,by simp,fun w _ => ?_⟩
  rw [h0]
  cases a
  ·exact ⟨rfl,rfl,rfl⟩
  ·exact ⟨rfl,by simp⟩
 obtain ⟨b,o,c,rfl,_,hat⟩:=h.at h0
 have:∀ i,∃ cs:List Value,i < l.length→cs.length=sz∧(∀ j u,cs[j]? = some u→d.cell? ⟨b,o+i * sz+j,none⟩=some u)∧R d cs l[i]! := fun i=>by
  by_cases hi:i < l.length
  ·obtain ⟨cs,h1,h2,h3⟩:=hat i l[i] (aC hi)
   exact ⟨cs,fun _=>⟨h1,h2,by rw [aH l i hi]; exact h3⟩⟩
  ·exact ⟨[],fun h=>absurd h hi⟩
 obtain ⟨f,hf⟩:=Classical.skolem.1 this
 have hsz:∀ cs ∈ (List.range l.length).map f,cs.length=sz:=fun cs hcs=>by
  obtain ⟨i,hi,rfl⟩:=bU.1 hcs
  exact (hf i (List.mem_range.1 hi)).1
 refine ⟨(List.range l.length).map f,by simp,hsz,fun i x cs hx hcs => ?_,fun w hw=>⟨rfl,fun p u hu => ?_⟩⟩
 ·have hi:=(aR.1 hx).1
  have:=hf i hi
  rw [aH l i hi,(aR.1 hx).2] at this
  have e:f i=cs:=by simpa [br,List.getElem?_range hi] using hcs
  rw [← e]
  exact this.2.2
 ·rw [ik rfl]
  have hl:=(aR.1 hu).1
  rw [wj hsz] at hl
  simp only [aS,List.length_range] at hl
  obtain ⟨q,r,hr,rfl⟩:∃ q r,r < sz∧p=q * sz+r:=⟨p / sz,p % sz,Nat.mod_lt _ hp,by rw [Nat.mul_comm]; exact (Nat.div_add_mod p sz).symm⟩
  have hq:q < l.length:=by
   rcases aG q l.length with h1 | h1
   ·exact h1
   ·have:=bN sz h1; omega
  have hfq:=hf q hq
  have hcs:((List.range l.length).map f)[q]? = some (f q):=by simp [List.getElem?_range hq]
  have hj:(f q)[r]? = some ((f q)[r]'(by rw [hfq.1]; exact hr)):=aC _
  have:=ry hsz hcs hj
  rw [this] at hu
  have:=hfq.2.1 r _ hj
  rw [Nat.add_assoc] at this
  rw [← hu]
  exact hw _ _ _ this
theorem JA [Inhabited α] {P:Program} {q:au} {t ty:TypeId} {by_:Nat} (row:iA P t=some (el,sz,by_)) (h:OwnL R sz el d w v l css) (hp:0 < sz) (hu:Sl R sz d u m) (h1:∀ cs x,R d cs x→∀ y ∈ cs,y.oneCell'=true) (hb:(l.length+m.length) * (by_+1)≤140737488355328) (hinc:cN d w)
    (hk:∀ v2 w2 css2,OwnL R sz el d w2 v2 (l++m) css2→Keep (fun b _=>v.ownBlock=some b) w w2→cP w v v2→cN d w2→q v2 w2):lY P #[t,t] ty #[v,u] q w:=by
 obtain ⟨cs2,c1,c2,c3,c4⟩:=hu.lie hp
 refine lW row h.own (by rw [wj c2,c1]) (c4 w hinc) (fun y hy => ?_) hb fun v2 w2 o2 k2 n2 _ => ?_
 ·obtain ⟨cs,hcs,hy⟩:=cu.1 hy
  obtain ⟨i,hi,rfl⟩:=aq hcs
  exact h1 _ _ (c3 i _ _ (aC (by omega)) (aC hi)) y hy
 ·have hk2:=k2 (fun b _=>v.ownBlock=some b) fun b _ hb _=>hb
  have hn:cP w v v2:=fun g hg=>by
   rcases n2 with h | ⟨g',h,h',_⟩
   ·left; rw [← h]; exact hg
   ·right; rw [h] at hg; cases hg; exact h'
  refine hk v2 w2 (css++cs2) ⟨by rw [aJ,aJ,h.len,c1],by rw [aJ,List.flatten_append]; exact o2,fun cs hcs => ?_,fun i x cs hx hcs => ?_,fun g hg => ?_⟩ hk2 hn (hinc.keep hk2 fun b x hb=>h.out b hb x)
  ·rcases aV.1 hcs with h3 | h3
   ·exact h.sz cs h3
   ·exact c2 cs h3
  ·rcases aG i l.length with hi | hi
   ·rw [bV hi] at hx
    rw [bV (by rw [h.len]; exact hi)] at hcs
    exact h.R i x cs hx hcs
   ·rw [bC hi] at hx
    rw [bC (by rw [h.len]; exact hi),h.len] at hcs
    exact c3 _ x cs hx hcs
  ·rcases hn g hg with h3 | h3
   ·exact h.out g h3
   ·exact hinc.out h3
end
theorem eJ.one {d:World} {cs:List Value} {x:Sp} (h:eJ d cs x):∀ y ∈ cs,y.oneCell'=true:=by
 obtain ⟨v,rfl,hv⟩:=h
 obtain ⟨a,c,rfl⟩:=hv.form
 simp [Value.oneCell',str]
end Go.E
namespace Go.Proofs
open Go Go.E Go.Sort Go.Proofs.Tryz
section
variable {k:au} {d w:World}
theorem qX {v:Value} {l:List (List Sp)} (hv:Sl mf 1 d v l) (hl:l.length≤1000) (hs:∀ x ∈ l,x.length≤1000) (hinc:cN d w) (hk:∀ d2 w2 v2,Gr d w d2 w2→Sl eJ 3 d2 v2 l.flatten→k v2 w2):aX prog 25 #[v] k w:=by
 obtain ⟨ka,kc,rfl⟩:=hv.form
 refine ae [.tmp 2] func25 ?_
 refine an ?_
 refine bR (fun b:Nat × Value=>[(3,b.2),(6,.slice ka l.length kc),(7,.int .i64 l.length),(8,.int .i64 b.1)])
  (fun b w'=>b.1≤l.length∧LoopL eJ 3 46 d w d w' b.2 (l.take b.1).flatten) (fun b _=>l.length - b.1) (0,.slice none 0 0) (by kernel_rfl) ?_ ⟨aP _,LoopL.nil hinc⟩ ?_
 ·exact bO
 rintro K2 e ⟨i,v⟩ w1 ⟨i2,i3⟩ hK2
 simp only at i2 i3
 rcases aG i l.length with hi | hi
 rotate_left
 ·have hi':¬ (i:Int) < l.length:=by omega
  refine bf @hi' ?_
  obtain rfl:i=l.length:=by omega
  rw [ah] at i3
  obtain ⟨d2,g2,_,_,s2⟩:=i3.done eJ.mono
  exact hk d2 w1 v g2 s2
 have hi':(i:Int) < l.length:=by omega
 obtain ⟨g,f,c,hv',hc,hat⟩:=hv.at (by omega)
 obtain ⟨rfl,rfl⟩:=sEq hv'
 obtain ⟨x,hx⟩:=gEl hi
 obtain ⟨cs,_,hcs,kv,rfl,hkv⟩:=hat i x hx
 obtain ⟨kva,kvc,rfl⟩:=hkv.form
 have h0:w1.cell? ⟨g,f+i * 1,none⟩=some (.slice kva x.length kvc):=i3.g.j _ _ _ (hcs 0 _ rfl)
 have hfl:(l.take i).flatten.length≤i * 1000:=by
  have:=fj (Lv:=l.take i) (n:=1000) fun L hL=>hs L (List.mem_of_mem_take hL)
  rwa [dS i2] at this
 have hxl:=hs x (aK hx)
 obtain ⟨va,vcap,rfl,_⟩:=i3.form
 refine dU @hi' @h0 ?_
 obtain ⟨css,o4⟩:=i3.o
 refine JA rw28 o4 (by decide) hkv (fun cs x h=>h.one) (by have:i * 1000≤1000 * 1000:=bN _ (by omega); omega) i3.g.j fun v2 w2 css2 o2 k2 n2 j2 => ?_
 refine an ?_
 refine hK2 _ _ (i+1,v2) ?_ ⟨hi,?_⟩ (by simp only; omega)
 ·exact bO
 ·rw [bw hx,List.flatten_append]
  simp only [List.flatten_cons,List.flatten_nil,av]
  exact i3.more o2 k2 n2 j2
end
end Go.Proofs
end
section
namespace Go.E
open Go Go.Sort Go.Proofs Go.Proofs.Tryz
theorem AA {d w:World} {v:Value} {l:List K} (h:Sl KE 3 d v l) (hi:cN d w):rW w v l.length (l.flatMap xw):=by
 obtain ⟨css,c1,c2,c3,c4⟩:=h.lie (by decide)
 have e:css=l.map xw:=by
  refine List.ext_getElem? fun i => ?_
  rw [br]
  rcases aG i l.length with hi | hi
  ·have a:=aC hi
   have b:=aC (show i < css.length by omega)
   rw [a,b,(c3 i _ _ a b).1]
   rfl
  ·rw [List.getElem?_eq_none hi,List.getElem?_eq_none (by omega)]
   rfl
 have:=c4 w hi
 rw [e] at this
 rwa [List.flatMap_def]
theorem OwnC.slg {α:Type} {ce:α→List Value} {sz:Nat} {el:TypeId} {w d:World} {v:Value} {l:List α} {R:iK α} (h:OwnC ce sz el w v l) (hR:∀ x ∈ l,R d (ce x) x) (hd:∀ g,v.ownBlock=some g→∀ o u,w.cell? ⟨g,o,none⟩=some u→d.cell? ⟨g,o,none⟩=some u):Sl R sz d v l:=by
 rcases cR h.own with ⟨rfl,h0,_⟩ | ⟨g,cap,rfl,hc,_⟩
 ·exact ⟨rfl,aZ.1 h0⟩
 ·refine ⟨fun _=>rfl,rfl,hc,fun i x hx=>⟨ce x,h.sz x,fun j u hu => ?_,hR x (aK hx)⟩⟩
  have:=h.cell hx hu
  rw [show 0+i * sz+j=i * sz+j by omega]
  exact hd g rfl _ _ this
theorem xO {l:List Sp} {s e:Bytes} {j:Nat} {x:Sp} (h:l[j]? = some x):cj (l.take (j+1)) s e=cj (l.take j) s e++if ¬ s < x.s∧¬ x.e < e then x.ks else []:=by
 rw [bw h]
 unfold cj
 rw [bP]
 simp
theorem lK {l:List Sp} {s e:Bytes} {m:Nat} (h:∀ x ∈ l,x.ks.length≤m):(cj l s e).length≤l.length * m:=by
 unfold cj
 induction l with
 | nil=>simp
 | cons x l ih =>
  have h1:=h x aO
  have h2:=ih fun y hy=>h y (aj _ hy)
  rw [ax,aJ,aY,Nat.add_mul]
  have:(if ¬ s < x.s∧¬ x.e < e then x.ks else []).length≤m:=by
   split
   ·exact h1
   ·exact aP _
  omega
theorem zF {l:List Sp} {s e:Bytes} {x:K} (h:x ∈ cj l s e):∃ y ∈ l,x ∈ y.ks:=by
 unfold cj at h
 obtain ⟨y,hy,hx⟩:=dX.1 h
 split at hx
 ·exact ⟨y,hy,hx⟩
 ·simp at hx
def H8 (l:List K):Prop:=∀ x ∈ l,x.tr < 18446744073709551616
theorem GQ {d:World} {v:Value} {l:List K} (h:Sl KE 3 d v l):H8 l:=fun x hx=>by
 obtain ⟨i,hi,rfl⟩:=aq hx
 obtain ⟨_,_,_,_,_,hat⟩:=h.at (by omega)
 obtain ⟨_,_,_,h⟩:=hat i _ (aC hi)
 exact h.2
theorem AB {d:World} {v:Value} {l:List Sp} (h:Sl eJ 3 d v l):∀ y ∈ l,H8 y.ks:=fun y hy=>by
 obtain ⟨i,hi,rfl⟩:=aq hy
 obtain ⟨_,_,_,_,_,hat⟩:=h.at (by omega)
 obtain ⟨_,_,_,v,_,h⟩:=hat i _ (aC hi)
 exact GQ h
theorem OwnC.ke {w:World} {v:Value} {l:List K} (h:OwnC xw 3 88 w v l) (ht:H8 l):Sl KE 3 w v l:=h.sl fun x hx=>⟨rfl,ht x hx⟩
end Go.E
namespace Go.Proofs
open Go Go.E Go.Sort Go.Proofs.Tryz
section
variable {k:au} {d w:World}
set_option maxHeartbeats 1000000 in
theorem Bb {v:Value} {l:List Sp} (hv:Sl eJ 3 d v l) (hl:l.length≤1000) (hks:∀ x ∈ l,x.ks.length≤40) (hinc:cN d w) (hk:∀ d2 w2 v2,Gr d w d2 w2→Sl eJ 3 d2 v2 (dw l)→k v2 w2):aX prog 58 #[v] k w:=by
 have htr:=AB hv
 obtain ⟨ka,kc,rfl⟩:=hv.form
 refine ae [.tmp 2] func58 ?_
 refine an ?_
 refine zE (hv.inc eJ.mono hinc) (by omega) fun vb w0 x0 ob nb => ?_
 obtain ⟨ba,bc,rfl,_⟩:=ob.form
 obtain ⟨b,hb⟩:∃ b,b=cG l:=⟨_,rfl⟩
 have hbl:=gL l
 rw [← hb] at ob hbl ⊢
 refine an ?_
 refine bR (fun c:Nat × Value=>[(0,.slice ka l.length kc),(3,c.2),(4,.slice ba b.length bc),(5,.int .i64 ((c.1+1:Nat):Int))])
  (fun c w'=>∃ d1,LoopL eJ 3 46 d w d1 w' c.2 ((List.range c.1).flatMap (gC l b))∧bj w0 w'∧(c.1=0∨c.1 < b.length)∧∀ g,c.2.ownBlock=some g→w0.heap.size≤g) (fun c _=>b.length - c.1) (0,.slice none 0 0) (by kernel_rfl) ?_ ⟨d,(LoopL.nil hinc).ext eJ.mono x0,bj.refl _,.inl rfl,by simp [Value.ownBlock]⟩ ?_
 ·exact bO
 rintro K2 e ⟨i,vo⟩ w1 ⟨d1,i1,i2,i3,i4⟩ hK2
 simp only at i1 i3 i4
 rcases aG (i+1) b.length with hi | hi
 rotate_left
 ·have hi':¬ ((i+1:Nat):Int) < b.length:=by omega
  refine bf @hi' ?_
  have hr:dw l=(List.range i).flatMap (gC l b):=by
   unfold dw
   rw [← hb,show b.length - 1=i by omega]
  obtain ⟨d2,g2,_,_,s2⟩:=i1.done eJ.mono
  exact hk d2 w1 vo g2 (by rw [hr]; exact s2)
 have hi':((i+1:Nat):Int) < b.length:=by omega
 obtain ⟨bg,bc',hbv,hbg⟩:=ob.block (show i < b.length by omega)
 have hbg:=aI hbg i2.size
 obtain ⟨rfl,rfl⟩:ba=some ⟨bg,0,none⟩∧bc=bc':=by simpa using hbv
 have ob1:=ob.ext i2
 have e1:((i+1:Nat):Int) - 1=(i:Nat):=by omega
 have bx:b[i]? = some b[i]! := by rw [aH b i (by omega)]; exact aC _
 have by_:b[i+1]? = some b[i+1]! := by rw [aH b (i+1) hi]; exact aC _
 have p0:=ob1.cell bx (j:=0) rfl
 have p1:=ob1.cell by_ (j:=0) rfl
 simp only [str,Nat.add_zero] at p0 p1
 obtain ⟨s,hs⟩:∃ s,s=b[i]! := ⟨_,rfl⟩
 obtain ⟨t,ht⟩:∃ t,t=b[i+1]! := ⟨_,rfl⟩
 rw [← hs] at p0
 rw [← ht] at p1
 refine bf @hi' ?_
 refine ay (sq [0,1,2,3] (.read 4 (sq [5,6,7] (.read 8 (sq [9] (.eff 10 [4,8] (.eff 11 [] .done))))))) ?_
 refine eA @e1 @p0 @p1 ?_
 obtain ⟨S,hS⟩:∃ S,S=w1.heap.size:=⟨_,rfl⟩
 obtain ⟨w2,hw2⟩:∃ w2,w2=(w1.alloc (.cells #[.string ⟨s.toArray⟩,.string ⟨t.toArray⟩,.slice none 0 0] 46)).drew:=⟨_,rfl⟩
 have x2:bj w1 w2:=by rw [hw2]; exact bj.drew' (aM _)
 have z2:w2.heap.size=S+1:=by rw [hw2,World.size_drew,World.size_alloc,hS]
 have c0:w2.cell? ⟨S,0,none⟩=some (.string ⟨s.toArray⟩):=by rw [hw2,hS]; exact bk @aA
 have c1:w2.cell? ⟨S,1,none⟩=some (.string ⟨t.toArray⟩):=by rw [hw2,hS]; exact bk @aA
 have c2:w2.cell? ⟨S,2,none⟩=some (.slice none 0 0):=by rw [hw2,hS]; exact bk @aA
 have f2:∀ y,w2.frozen? ⟨S,y,none⟩=false:=fun y=>by rw [hw2,hS]; simp (disch:=first | exact dZ | fail) only [go_sem]
 rw [← hw2,← hS]
 refine iq (fun _:Unit=>[(0,.slice ka l.length kc),(3,vo),(4,.slice (some ⟨bg,0,none⟩) b.length bc),(5,.int .i64 ((i+1:Nat):Int)),(6,.pointer (some ⟨S,0,none⟩))])
  (fun _ w'=>bj w1 w'∧w'.cell? ⟨S,0,none⟩=some (.string ⟨s.toArray⟩)∧w'.cell? ⟨S,1,none⟩=some (.string ⟨t.toArray⟩)∧(∀ y,w'.frozen? ⟨S,y,none⟩=false)∧∃ v,w'.cell? ⟨S,2,none⟩=some v∧OwnC xw 3 88 w' v (cj l s t)∧∀ g,v.ownBlock=some g→S < g) (by kernel_rfl) (fun K hK => ?_) ?_
 ·refine bR (fun j:Nat=>[(0,.slice ka l.length kc),(3,vo),(4,.slice (some ⟨bg,0,none⟩) b.length bc),(5,.int .i64 ((i+1:Nat):Int)),(6,.pointer (some ⟨S,0,none⟩)),(27,.slice ka l.length kc),(28,.int .i64 l.length),(29,.int .i64 j)])
    (fun j w'=>j≤l.length∧bj w1 w'∧w'.cell? ⟨S,0,none⟩=some (.string ⟨s.toArray⟩)∧w'.cell? ⟨S,1,none⟩=some (.string ⟨t.toArray⟩)∧(∀ y,w'.frozen? ⟨S,y,none⟩=false)∧∃ v,w'.cell? ⟨S,2,none⟩=some v∧OwnC xw 3 88 w' v (cj (l.take j) s t)∧∀ g,v.ownBlock=some g→S < g) (fun j _=>l.length - j) 0 (by kernel_rfl) ?_ ⟨aP _,x2,c0,c1,f2,_,c2,OwnC.nil rB,by simp [Value.ownBlock]⟩ ?_
  ·exact bO
  rintro K3 e3 j w3 ⟨j1,j2,j3,j4,j5,v,j6,j7,j8⟩ hK3
  rcases aG j l.length with hj | hj
  rotate_left
  ·have hj':¬ (j:Int) < l.length:=by omega
   refine bf @hj' ?_
   obtain rfl:j=l.length:=by omega
   rw [ah] at j7
   refine hK _ _ () ?_ ⟨j2,j3,j4,j5,v,j6,j7,j8⟩
   exact bO
  have hj':(j:Int) < l.length:=by omega
  obtain ⟨g,f,c,hv',hc,hat⟩:=hv.at (by omega)
  obtain ⟨rfl,rfl⟩:=sEq hv'
  obtain ⟨x,hx⟩:=gEl hj
  have hxm:=aK hx
  obtain ⟨h0,h1,a,cc,h2,hkx⟩:=eL (hat j x hx)
  have hd3:cN d w3:=(i1.g.i.trans i1.g.j).trans j2.inc
  have h0:=hd3 _ _ _ h0
  have h1:=hd3 _ _ _ h1
  have h2:=hd3 _ _ _ h2
  have hSl:=aD j6
  obtain ⟨C,hC⟩:∃ C,C=w3.heap.size:=⟨_,rfl⟩
  have more:=xO (s:=s) (e:=t) hx
  by_cases q1:s < x.s
  ·rw [if_neg (fun h=>h.1 q1),av] at more
   refine zV @hj' @h0 @h1 @h2 @aA @j3 @j4 @q1 @not_true_eq_false ?_
   have x4:=aM (w:=w3) (.cells #[.string ⟨x.s.toArray⟩,.string ⟨x.e.toArray⟩,.slice a x.ks.length cc] 46)
   refine hK3 _ _ (j+1) ?_ ⟨hj,j2.trans x4,x4.cell j3,x4.cell j4,fun y=>by rw [x4.frozen S y hSl]; exact j5 y,v,x4.cell j6,by rw [more]; exact j7.ext x4,j8⟩ (by omega)
   exact bO
  by_cases q2:x.e < t
  ·rw [if_neg (fun h=>h.2 q2),av] at more
   refine F3 @hj' @h0 @h1 @h2 @aA @j3 @j4 @q1 @q2 @not_true_eq_false @not_false_eq_true ?_
   have x4:=aM (w:=w3) (.cells #[.string ⟨x.s.toArray⟩,.string ⟨x.e.toArray⟩,.slice a x.ks.length cc] 46)
   refine hK3 _ _ (j+1) ?_ ⟨hj,j2.trans x4,x4.cell j3,x4.cell j4,fun y=>by rw [x4.frozen S y hSl]; exact j5 y,v,x4.cell j6,by rw [more]; exact j7.ext x4,j8⟩ (by omega)
   exact bO
  rw [if_pos ⟨q1,q2⟩] at more
  have x4:=aM (w:=w3) (.cells #[.string ⟨x.s.toArray⟩,.string ⟨x.e.toArray⟩,.slice a x.ks.length cc] 46)
  obtain ⟨va,vc,rfl,_⟩:=j7.form
  refine F3 @hj' @h0 @h1 @h2 @aA @j3 @j4 @j6 @q1 @q2 @not_false_eq_true ?_
  have hcl:=lK (l:=l.take j) (s:=s) (e:=t) (m:=40) fun y hy=>hks y (List.mem_of_mem_take hy)
  rw [dS j1] at hcl
  have hxl:=hks x hxm
  have hjm:j * 40≤1000 * 40:=bN _ (by omega)
  refine GO (m:=x.ks) rw44 (j7.ext x4) (AA hkx (hd3.trans x4.inc)) (fun y _=>rC y) (by omega) fun v5 w5 o5 k5 n5 => ?_
  have j8':∀ g,v5.ownBlock=some g→S < g:=fun g hg=>by
   rcases n5 g hg with h | h
   ·exact j8 g h
   ·rw [World.size_alloc] at h; omega
  have nS:(Value.slice va (cj (l.take j) s t).length vc).ownBlock≠some S:=fun h=>by have:=j8 S h; omega
  have c6:=k5.some (x4.cell j6) fun h=>nS h
  have f6:∀ y,w5.frozen? ⟨S,y,none⟩=false:=fun y=>by rw [k5.frozen S y (aI hSl x4.size),x4.frozen S y hSl]; exact j5 y
  obtain ⟨va5,vc5,rfl,_⟩:=o5.form
  refine dU @c6 @f6 ?_
  have k6:Keep (fun b y=>b=S∧y=2) w5 (w5.setCell ⟨S,2,none⟩ (.slice va5 (cj (l.take j) s t++x.ks).length vc5)):=bW ⟨rfl,rfl⟩
  refine hK3 _ _ (j+1) ?_ ⟨hj,?_,k6.some (k5.some (x4.cell j3) fun h=>nS h) (by omega),k6.some (k5.some (x4.cell j4) fun h=>nS h) (by omega),fun y=>by rw [World.frozen?_setCell]; exact f6 y,_,by rw [bu,c6]; rfl,?_,j8'⟩ (by omega)
  ·exact bO
  ·exact cC ((j2.trans x4).tr k5 fun b o hb h=>by have:=j8 b h; omega) (by omega)
  ·rw [more]
   exact o5.keep k6 fun g hg o h=>by have:=j8' g hg; omega
 rintro e _ w3 ⟨j2,j3,j4,j5,v,j6,j7,j8⟩
 obtain ⟨va,vc,rfl,_⟩:=j7.form
 have hSl:=aD j6
 have hfl:(List.range (i+1)).flatMap (gC l b)=(List.range i).flatMap (gC l b)++gC l b i:=by rw [List.range_succ,bP]; simp
 have hfa:gC l b i=if cj l s t=[] then [] else [⟨s,t,eF (cj l s t)⟩]:=by rw [hs,ht]; rfl
 by_cases hce:cj l s t=[]
 ·have hz:¬ (0:Int) < (cj l s t).length:=by rw [hce]; simp
  refine dU @j6 @hz ?_
  refine hK2 _ _ (i+1,vo) ?_ ⟨d1,?_,i2.trans j2,by omega,i4⟩ (by simp only; omega)
  ·exact bO
  ·simp only
   rw [hfl,hfa,if_pos hce,av]
   exact i1.ext eJ.mono j2
 have hz:(0:Int) < (cj l s t).length:=by have:=List.length_pos_iff.2 hce; omega
 have hct:H8 (cj l s t):=fun y hy=>by obtain ⟨z,hz,hy⟩:=zF hy; exact htr z hz y hy
 have hcl:=lK (l:=l) (s:=s) (e:=t) hks
 have hlm:l.length * 40≤1000 * 40:=bN _ hl
 refine dU @j6 @hz ?_
 refine tx (j7.ke hct) (by omega) fun v' w4 x4 o4 n4 => ?_
 have c0:=x4.cell j3
 have c1:=x4.cell j4
 have c2:=x4.cell j6
 have f4:∀ y,w4.frozen? ⟨S,y,none⟩=false:=fun y=>by rw [x4.frozen S y hSl]; exact j5 y
 obtain ⟨va',vc',rfl,_⟩:=o4.form
 obtain ⟨vo1,vo2,rfl,_⟩:=i1.form
 refine fI @c0 @c1 @c2 @f4 ?_
 obtain ⟨w5,hw5⟩:∃ w5,w5=w4.setCell ⟨S,2,none⟩ (.slice va' (eF (cj l s t)).length vc'):=⟨_,rfl⟩
 rw [← hw5]
 have k5:Keep (fun b y=>b=S∧y=2) w4 w5:=by rw [hw5]; exact bW ⟨rfl,rfl⟩
 have x5:bj w1 w5:=by rw [hw5]; exact cC (j2.trans x4) (by omega)
 have o5:=o4.keep k5 fun g hg o h=>by have:=n4 g hg; omega
 obtain ⟨d2,g2,e2⟩:=tq i1.g.j x5
 have i5:=i1.call eJ.mono g2
 obtain ⟨css,oo⟩:=i5.o
 have hsl:Sl KE 3 d2 (.slice va' (eF (cj l s t)).length vc') (eF (cj l s t)):=o5.slg (fun x hx=>⟨rfl,hct x ((ef _).mem_iff.1 hx)⟩) fun g hg o u hu=>e2 _ _ _ (by have:=n4 g hg; omega) hu
 have hfll:((List.range i).flatMap (gC l b)).length≤i:=by
  have:∀ m,((List.range m).flatMap (gC l b)).length≤m:=fun m=>by
   induction m with
   | zero=>simp
   | succ m ih =>
    rw [List.range_succ,bP,aJ]
    have:(gC l b m).length≤1:=by unfold gC; split <;> simp
    simp only [ax,List.flatMap_nil,av]
    omega
  exact this i
 refine ju (⟨s,t,eF (cj l s t)⟩:Sp) [.string ⟨s.toArray⟩,.string ⟨t.toArray⟩,.slice va' (eF (cj l s t)).length vc'] rw28 oo ⟨_,rfl,hsl⟩ rfl (.inl rfl) (by rw [hw5,World.size_setCell]) rfl (by simp [Value.oneCell']) (by omega) i5.g.j fun v2 w2' oo2 k2 n2 jj2 _ => ?_
 refine an ?_
 refine hK2 _ _ (i+1,v2) ?_ ⟨d2,?_,(i2.trans x5).tr k2 fun b o _ h => ?_,by omega,fun g hg => ?_⟩ (by simp only; omega)
 ·exact bO
 ·simp only
  rw [hfl,hfa,if_neg hce]
  exact i5.more oo2 k2 n2 jj2
 ·have:=i4 b h; omega
 ·rcases n2 g hg with h | h
  ·exact i4 g h
  ·have:=(i2.trans x5).size; omega
end
end Go.Proofs
end
section
namespace Go.E
open Go Go.Sort Go.Proofs Go.Proofs.Tryz
def H9 (x:K):Prop:=(bI x.tr=19∨bI x.tr=20∨bI x.tr=21)∧(bI x.tr=19→x.suf=[])∧(bI x.tr≠21→x.val=[])
def IA (x k:K):Prop:=¬ x.tr < k.tr∧¬ (x.tr / 256=k.tr / 256∧x.suf=k.suf∧(bI k.tr=19↔bI x.tr=19))
theorem nH.snoc {l:List K} {x:K} (h:nH l) (h1:H9 x) (h2:∀ y ∈ l,IA y x):nH (l++[x]):=by
 refine ⟨fun y hy => ?_,List.pairwise_append.2 ⟨h.2,by simp,fun a ha b hb => ?_⟩⟩
 ·rcases aV.1 hy with hy | hy
  ·exact h.1 y hy
  ·rw [aQ.1 hy]; exact h1
 ·rw [aQ.1 hb]; exact h2 a ha
theorem kI {x:K} {a b:Bool} (h:19≤bI x.tr∧bI x.tr≤21) (ha:bI x.tr=19↔a=true) (hb:bI x.tr=21↔b=true):¬ (bI x.tr:Int) < 19∧¬ (21:Int) < bI x.tr∧((bI x.tr:Int) == 19)=a∧((bI x.tr:Int) != 21) = !b:=by
 refine ⟨by omega,by omega,?_,?_⟩
 ·rw [bF,← ha,beq_iff_eq]; omega
 ·rw [bne,Bool.not_inj_iff,bF,← hb,beq_iff_eq]; omega
theorem tG (l:List Sp):(dw l).length≤2 * l.length:=by
 have:∀ m,((List.range m).flatMap (gC l (cG l))).length≤m:=fun m=>by
  induction m with
  | zero=>simp
  | succ m ih =>
   rw [List.range_succ,bP,aJ]
   have:(gC l (cG l) m).length≤1:=by unfold gC; split <;> simp
   simp only [ax,List.flatMap_nil,av]
   omega
 have:=this ((cG l).length - 1)
 have:=gL l
 unfold dw
 omega
theorem AC {l:List Sp} {f:Sp} (h:f ∈ dw l):∃ s t,f.ks=eF (cj l s t):=by
 unfold dw at h
 obtain ⟨i,_,h⟩:=dX.1 h
 unfold gC at h
 split at h
 ·simp at h
 ·rw [aQ.1 h]; exact ⟨_,_,rfl⟩
end Go.E
namespace Go.Proofs
open Go Go.E Go.Sort Go.Proofs.Tryz
section
variable {k:au} {d w:World}
theorem tH {v:Value} {l:List K} (hv:Sl KE 3 w v l) (hl:l.length≤2147483647) (hk:wq (nH l) k w):aX prog 59 #[v] k w:=by
 obtain ⟨ka,kc,rfl⟩:=hv.form
 refine ae [.tmp 2] func59 ?_
 refine an ?_
 refine bR (fun i:Nat=>[(0,.slice ka l.length kc),(2,.bool false),(8,.slice ka l.length kc),(9,.int .i64 l.length),(10,.int .i64 i)])
  (fun i w'=>i≤l.length∧bj w w'∧nH (l.take i)) (fun i _=>l.length - i) 0 (by kernel_rfl) ?_ ⟨aP _,bj.refl _,by simp [nH]⟩ ?_
 ·exact bO
 rintro K2 e i w1 ⟨i2,i3,i4⟩ hK2
 rcases aG i l.length with hi | hi
 rotate_left
 ·have hi':¬ (i:Int) < l.length:=by omega
  refine bf @hi' ?_
  obtain rfl:i=l.length:=by omega
  rw [ah] at i4
  exact hk.yes i3 i4
 have hi':(i:Int) < l.length:=by omega
 obtain ⟨g,f,c,hv',hc,hat⟩:=(hv.inc KE.mono i3.inc).at (by omega)
 obtain ⟨rfl,rfl⟩:=sEq hv'
 obtain ⟨x,hx⟩:=gEl hi
 obtain ⟨h0,h1,h2,h3⟩:=iw (hat i x hx)
 obtain ⟨S,hS⟩:∃ S,S=w1.heap.size:=⟨_,rfl⟩
 obtain ⟨w2,hw2⟩:∃ w2,w2=w1.alloc (.cells #[.int .u64 x.tr,.string ⟨x.suf.toArray⟩,.string ⟨x.val.toArray⟩] 88):=⟨_,rfl⟩
 have x2:bj w1 w2:=by rw [hw2]; exact aM _
 have c0:w2.cell? ⟨S,0,none⟩=some (.int .u64 x.tr):=by rw [hw2,hS]; exact bk @aA
 have c1:w2.cell? ⟨S,1,none⟩=some (.string ⟨x.suf.toArray⟩):=by rw [hw2,hS]; exact bk @aA
 have c2:w2.cell? ⟨S,2,none⟩=some (.string ⟨x.val.toArray⟩):=by rw [hw2,hS]; exact bk @aA
 refine fI @hi' @h0 @h1 @h2 ?_
 rw [← hS,← hw2]
 refine xK ?_
 have x3:=i3.trans x2
 by_cases hone:H9 x
 rotate_left
 ·rcases (by omega:bI x.tr < 19∨21 < bI x.tr∨bI x.tr=19∨bI x.tr=20∨bI x.tr=21) with q | q | q | q | q
  ·have q1:(bI x.tr:Int) < 19:=by omega
   refine bf @q1 ?_
   exact hk.no x3
  ·have q1:¬ (bI x.tr:Int) < 19:=by omega
   have q2:(21:Int) < bI x.tr:=by omega
   refine dU @q1 @q2 ?_
   exact hk.no x3
  ·obtain ⟨q1,q2,q3,q4⟩:=kI (x:=x) (a:=true) (b:=false) (by omega) (by simp; omega) (by simp; omega)
   by_cases s1:x.suf=[]
   ·have s2:decide (x.val≠[])=true:=aU fun h=>hone ⟨.inl q,fun _=>s1,fun _=>h⟩
    have s1:decide (x.suf≠[])=false:=by simp [s1]
    refine xq @q1 @q2 @q3 @q4 @c1 @c2 @s1 @s2 ?_
    exact hk.no x3
   ·have s1:decide (x.suf≠[])=true:=by simp [s1]
    refine vO @q1 @q2 @q3 @q4 @c1 @c2 @s1 ?_
    exact hk.no x3
  ·have s2:decide (x.val≠[])=true:=aU fun h=>hone ⟨.inr (.inl q),fun h2=>by omega,fun _=>h⟩
   obtain ⟨q1,q2,q3,q4⟩:=kI (x:=x) (a:=false) (b:=false) (by omega) (by simp; omega) (by simp; omega)
   refine vO @q1 @q2 @q3 @q4 @c1 @c2 @s2 ?_
   exact hk.no x3
  ·exact absurd ⟨.inr (.inr q),fun h2=>by omega,fun h2=>absurd q h2⟩ hone
 have o1:=hone.1
 obtain ⟨a,ha⟩:∃ a,a=decide (bI x.tr=19):=⟨_,rfl⟩
 obtain ⟨b,hb⟩:∃ b,b=decide (bI x.tr=21):=⟨_,rfl⟩
 obtain ⟨q1,q2,q3,q4⟩:=kI (x:=x) (a:=a) (b:=b) (by omega) (by simp [ha]) (by simp [hb])
 have s1:a=true→decide (x.suf≠[])=false:=fun h=>by simp [hone.2.1 (by simpa [ha] using h)]
 have s2:b=false→decide (x.val≠[])=false:=fun h=>by simp [hone.2.2 (by simpa [hb] using h)]
 have sl:∀ q:au,de prog 44 (.slice (some ⟨g,f,none⟩) l.length kc) none (some (.int .i64 (i:Int))) none (xp q w2)=q (.slice (some ⟨g,f,none⟩) i kc) w2:=fun q=>by
  rw [qF Tryz.es44 rfl rfl (by simp [bd]) (by simp [bd]; omega) (by simp [bd]) (by simp)]; simp [bd,xp]
 cases a <;> cases b
 rotate_right
 ·simp at ha hb; omega
 refine vO @q1 @q2 @q3 @q4 @c2 (s2 rfl) @sl ?_
 rotate_left
 refine gq @q1 @q2 @q3 @q4 @sl ?_
 rotate_left
 refine zV @q1 @q2 @q3 @q4 @c1 @c2 (s1 rfl) (s2 rfl) @sl ?_
 rotate_left
 all_goals
  refine bR (fun j:Nat=>[(0,.slice (some ⟨g,f,none⟩) l.length kc),(2,.bool false),(4,.pointer (some ⟨S,0,none⟩)),(5,.int .u8 (bI x.tr)),(8,.slice (some ⟨g,f,none⟩) l.length kc),(9,.int .i64 l.length),(10,.int .i64 i),(44,.slice (some ⟨g,f,none⟩) i kc),(45,.int .i64 i),(46,.int .i64 j)])
   (fun j w'=>j≤i∧bj w2 w'∧∀ y ∈ (l.take i).take j,IA y x) (fun j _=>i - j) 0 (by kernel_rfl) ?_ ⟨aP _,bj.refl _,by simp⟩ ?_
  ·exact bO
  rintro K3 e3 j w3 ⟨j1,j2,j3⟩ hK3
  rcases aG j i with hj | hj
  rotate_left
  ·have hj':¬ (j:Int) < i:=by omega
   refine bf @hj' ?_
   obtain rfl:j=i:=by omega
   rw [List.take_take,Nat.min_self] at j3
   refine hK2 _ _ (j+1) ?_ ⟨hi,x3.trans j2,by rw [bw hx]; exact i4.snoc hone j3⟩ (by omega)
   exact bO
  have hj':(j:Int) < i:=by omega
  obtain ⟨y,hy⟩:∃ y,l[j]? = some y:=⟨_,aC (by omega)⟩
  have hy2:(l.take i)[j]? = some y:=by rw [List.getElem?_take_of_lt hj,hy]
  obtain ⟨p0,p1,p2,p3⟩:=iw (hat j y hy)
  have xx:=x2.trans j2
  have p0:=xx.cell p0
  have p1:=xx.cell p1
  have p2:=xx.cell p2
  have c0:=j2.cell c0
  have c1:=j2.cell c1
  refine fI @hj' @p0 @p1 @p2 ?_
  refine ay (sq [0] (.read 1 (sq [2] (.read 3 (sq [4,5,6] (.read 7 (sq [9] (.read 10 (.eff 8 [10] (.eff 11 [] (sq [12,13,14] (.read 15 (sq [16] (.read 17 (sq [18,19,20,21,22,23] (.read 24 (.eff 25 [] (sq [26,27,28,29] .done)))))))))))))))))) ?_
  obtain ⟨w4,hw4⟩:∃ w4,w4=(w3.alloc (.cells #[.int .u64 y.tr,.string ⟨y.suf.toArray⟩,.string ⟨y.val.toArray⟩] 88)).drew:=⟨_,rfl⟩
  have x4:bj w3 w4:=by rw [hw4]; exact bj.drew' (aM _)
  obtain ⟨T,hT⟩:∃ T,T=w3.heap.size:=⟨_,rfl⟩
  have t0:w4.cell? ⟨T,0,none⟩=some (.int .u64 y.tr):=by rw [hw4,hT]; exact bk @aA
  have t1:w4.cell? ⟨T,1,none⟩=some (.string ⟨y.suf.toArray⟩):=by rw [hw4,hT]; exact bk @aA
  have c0:=x4.cell c0
  have c1:=x4.cell c1
  rw [← hw4,← hT]
  have x5:=(x3.trans j2).trans x4
  by_cases p1:(y.tr:Int) < x.tr
  ·refine eA @t0 @c0 @p1 ?_
   exact hk.no x5
  refine eA @t0 @c0 @p1 ?_
  refine z7 ?_
  refine bf @c0 ?_
  refine z7 ?_
  by_cases p2:y.tr / 256=x.tr / 256
  rotate_left
  ·have e2:(((y.tr / 256:Nat):Int) == (x.tr / 256:Nat))=false:=beq_false_of_ne (by omega)
   refine bf @e2 ?_
   refine hK3 _ _ (j+1) ?_ ⟨hj,j2.trans x4,gX j3 hy2 ⟨by omega,fun h=>p2 h.1⟩⟩ (by omega)
   exact bO
  have e2:(((y.tr / 256:Nat):Int) == (x.tr / 256:Nat))=true:=beq_iff_eq.2 (by omega)
  by_cases p3:y.suf=x.suf
  rotate_left
  ·simp (disch:=first | exact dZ | fail) only [go_sem,e2,t1,c1,p3]
   refine hK3 _ _ (j+1) ?_ ⟨hj,j2.trans x4,gX j3 hy2 ⟨by omega,fun h=>p3 h.2.1⟩⟩ (by omega)
   exact bO
  simp (disch:=first | exact dZ | fail) only [go_sem,e2,t0,t1,c1,p3]
  refine xK ?_
  by_cases p4:bI y.tr=19
  ·have p4':((bI y.tr:Int) == 19)=true:=beq_iff_eq.2 (by omega)
   simp (disch:=first | exact dZ | fail) only [go_sem,q3,p4',beq_self_eq_true,Bool.true_beq,Bool.false_beq,Bool.not_false,Bool.not_true]
   first
   | exact hk.no x5
   | refine hK3 _ _ (j+1) ?_ ⟨hj,j2.trans x4,gX j3 hy2 ⟨by omega,fun h=>by simp at ha; omega⟩⟩ (by omega)
     exact bO
  ·have p4':((bI y.tr:Int) == 19)=false:=beq_false_of_ne (by omega)
   simp (disch:=first | exact dZ | fail) only [go_sem,q3,p4',beq_self_eq_true,Bool.true_beq,Bool.false_beq,Bool.not_false,Bool.not_true]
   first
   | exact hk.no x5
   | refine hK3 _ _ (j+1) ?_ ⟨hj,j2.trans x4,gX j3 hy2 ⟨by omega,fun h=>by simp at ha; omega⟩⟩ (by omega)
     exact bO
theorem qt {v:Value} {l:List (List Sp)} {n:Nat} (hv:Sl mf 1 d v l) (hl:l.length≤2147483647) (hs:∀ x ∈ l,x.length≤2147483647∧∀ y ∈ x,y.ks.length≤2147483647) (hn:n≤100) (hinc:cN d w) (hk:wq (LvOk l n) k w):aX prog 15 #[v,.int .i64 n] k w:=by
 obtain ⟨ka,kc,rfl⟩:=hv.form
 refine ae [.tmp 4] func15 ?_
 refine an ?_
 refine sL (hv.inc mf.mono hinc) hl hs fun b w1 x1 hb => ?_
 cases b with
 | false =>
  refine an ?_
  exact hk.no x1
 | true =>
  obtain ⟨b1,b2⟩:=hb rfl
  refine an ?_
  have l6:l.length * n≤6 * 100:=Nat.mul_le_mul b1 hn
  have hfl:=fj (Lv:=l) (n:=n) fun L hL=>(b2 L hL).1
  refine qX hv (by omega) (fun x hx=>by have:=(b2 x hx).1; omega) (hinc.trans x1.inc) fun d2 w2 v2 g2 s2 => ?_
  refine an ?_
  refine Bb s2 (by omega) (fun x hx => ?_) g2.j fun d3 w3 v3 g3 s3 => ?_
  ·obtain ⟨L,hL,hx⟩:=cu.1 hx
   exact ((b2 L hL).2.2 x hx).2
  have x3:bj w w3:=(x1.trans g2.x).trans g3.x
  have hfk:∀ f ∈ dw l.flatten,f.ks.length≤2147483647:=fun f hf=>by
   obtain ⟨s,t,e⟩:=AC hf
   have:=lK (l:=l.flatten) (s:=s) (e:=t) (m:=40) fun x hx=>by
    obtain ⟨L,hL,hx⟩:=cu.1 hx
    exact ((b2 L hL).2.2 x hx).2
   rw [e,(ef _).length_eq]
   have h2:l.flatten.length * 40≤600 * 40:=bN _ (by omega)
   omega
  have hfn:=tG l.flatten
  obtain ⟨va,vc,rfl⟩:=s3.form
  refine an ?_
  refine bR (fun i:Nat=>[(4,.bool false),(13,.slice va (dw l.flatten).length vc),(14,.int .i64 (dw l.flatten).length),(15,.int .i64 i)])
   (fun i w'=>i≤(dw l.flatten).length∧bj w3 w'∧∀ x ∈ (dw l.flatten).take i,nH x.ks) (fun i _=>(dw l.flatten).length - i) 0 (by kernel_rfl) ?_ ⟨aP _,bj.refl _,by simp⟩ ?_
  ·exact bO
  rintro K2 e i w1 ⟨i2,i3,i4⟩ hK2
  rcases aG i (dw l.flatten).length with hi | hi
  rotate_left
  ·have hi':¬ (i:Int) < (dw l.flatten).length:=by omega
   obtain rfl:i=(dw l.flatten).length:=by omega
   rw [ah] at i4
   refine bf @hi' ?_
   exact hk.yes (x3.trans i3) ⟨b1,fun L hL=>(b2 L hL).1,fun L hL=>(b2 L hL).2.1,fun L hL=>(b2 L hL).2.2,i4⟩
  have hi':(i:Int) < (dw l.flatten).length:=by omega
  obtain ⟨g,f,c,hv',hc,hat⟩:=(s3.inc eJ.mono (g3.j.trans i3.inc)).at (by omega)
  obtain ⟨rfl,rfl⟩:=sEq hv'
  obtain ⟨x,hx⟩:∃ x,(dw l.flatten)[i]? = some x:=⟨_,aC hi⟩
  obtain ⟨h0,h1,a,cc,h2,hkx⟩:=eL (hat i x hx)
  have x4:=aM (w:=w1) (.cells #[.string ⟨x.s.toArray⟩,.string ⟨x.e.toArray⟩,.slice a x.ks.length cc] 46)
  refine gq @hi' @h0 @h1 @h2 @aA ?_
  refine tH (hkx.inc KE.mono x4.inc) (hfk x (aK hx)) fun b w5 x5 hb => ?_
  have x6:=(i3.trans x4).trans x5
  cases b with
  | false =>
   refine an ?_
   exact hk.no (x3.trans x6)
  | true =>
   refine an ?_
   refine hK2 _ _ (i+1) ?_ ⟨hi,x6,gX i4 hx (hb rfl)⟩ (by omega)
   exact bO
end
end Go.Proofs
end
section
namespace Go.E
open Go Go.Sort Go.Proofs
theorem LoopL.mut {α:Type} {R:iK α} {sz:Nat} {el:TypeId} {d w d1 w1 w2:World} {v:Value} {l:List α} {M:Nat→Nat→Prop} (h:LoopL R sz el d w d1 w1 v l) (k:Keep M w1 w2) (hM:∀ b o,M b o→w.heap.size≤b∧cx d1 b∧v.ownBlock≠some b):LoopL R sz el d w d1 w2 v l:=by
 obtain ⟨css,o⟩:=h.o
 refine ⟨⟨h.g.x.tr k fun b o hb hm=>by have:=(hM b o hm).1; omega,h.g.i,fun b o u hu=>k.some (h.g.j _ _ _ hu) fun hm => ?_,h.g.o⟩,⟨css,o.keep k fun g hg o hm=>(hM g o hm).2.2 hg⟩,h.n⟩
 rw [(hM b o hm).2.1 o] at hu
 simp at hu
theorem dA {w:World} {b o:Nat} {c:Array Value} {t:TypeId} (h:w.heap.size≤b) (h2:b < w.heap.size+1):(w.alloc (.cells c t)).frozen? ⟨b,o,none⟩=false:=by
 obtain rfl:b=w.heap.size:=by omega
 exact World.frozen?_alloc_new w c t o
theorem vB (st:List SV) (k:K):(mH st k).length≤st.length+1:=by
 unfold mH
 split
 ·exact aP _
 ·rw [aJ]
  have:=bz (fun x:SV=>decide (x.1≠k.suf)) st
  split
  ·rw [ar]; omega
  ·rw [List.length_nil]; omega
theorem tI (l:List K):(pf [] l).length≤l.length:=by
 unfold pf
 rw [pB]
 have:∀ l:List K,(l.reverse.foldl mH []).length≤l.length:=by
  intro l
  induction l with
  | nil=>simp
  | cons x l ih =>
   rw [List.reverse_cons,List.foldl_append,aY]
   exact ai (vB _ _) (by omega)
 exact this l
theorem Ju {d:World} {N:Nat} {kv:Value} {x:Sp} (h0:d.cell? ⟨N,0,none⟩=some (.string ⟨x.s.toArray⟩)) (h1:d.cell? ⟨N,1,none⟩=some (.string ⟨x.e.toArray⟩)) (h2:d.cell? ⟨N,2,none⟩=some kv) (hk:Sl KE 3 d kv x.ks):Sl eJ 3 d (.slice (some ⟨N,0,none⟩) 1 1) [x]:=by
 refine ⟨fun _=>rfl,rfl,aE _,fun i y hy => ?_⟩
 rcases i with _ | i
 ·obtain rfl:x=y:=by simpa using hy
  refine ⟨[str x.s,str x.e,kv],rfl,fun j u hu => ?_,_,rfl,hk⟩
  match j,hu with
  | 0,hu=>obtain rfl:=bn hu; exact h0
  | 1,hu=>obtain rfl:=bn hu; exact h1
  | 2,hu=>obtain rfl:=bn hu; exact h2
 ·simp at hy
theorem pj {w:World} {g o:Nat} {x:An} (h:Ej yx 5 w g o x):w.cell? ⟨g,o,none⟩=some (.bool x.dn)∧w.cell? ⟨g,o+1,none⟩=some (.bool x.ok)∧w.cell? ⟨g,o+2,none⟩=some (.string ⟨x.sp.s.toArray⟩)∧w.cell? ⟨g,o+3,none⟩=some (.string ⟨x.sp.e.toArray⟩)∧∃ a c,w.cell? ⟨g,o+4,none⟩=some (.slice a x.sp.ks.length c)∧Sl KE 3 w (.slice a x.sp.ks.length c) x.sp.ks:=by
 obtain ⟨cs,_,hcs,v,rfl,h⟩:=h
 obtain ⟨a,c,rfl⟩:=h.form
 exact ⟨hcs 0 _ rfl,hcs 1 _ rfl,hcs 2 _ rfl,hcs 3 _ rfl,a,c,hcs 4 _ rfl,h⟩
theorem zG (V:List Sp) (p:Int) (got:Bool) (last:Nat) (steps:List (Nat × Bytes)):(pX V p got last steps).length=steps.length:=by
 induction steps generalizing p got last with
 | nil=>rfl
 | cons x r ih =>
  obtain ⟨op,key⟩:=x
  show (if tm op got last then _ else _:List (Option Int)).length=_
  split <;> rw [aY,ih,aY]
end Go.E
end
section
namespace Go.E
open Go Go.Sort Go.Proofs
section
variable {Lv:List (List Sp)} {n:Nat}
theorem LvOk.cdF (h:LvOk Lv n) (u:Nat):Cd (dO Lv.length (fY Lv) (cG Lv.flatten) u):=by
 have hB:=lI h.wf
 have h0:mV Lv.length (fY Lv) (cG Lv.flatten) u=false→Cd (dO Lv.length (fY Lv) (cG Lv.flatten) u):=fun hcv=>by
  have h0:dO Lv.length (fY Lv) (cG Lv.flatten) u=[]:=by
   unfold dO
   refine List.flatMap_eq_nil_iff.2 fun i hi => ?_
   rw [if_neg fun h1 => ?_]
   rw [oW.2 ⟨i,List.mem_range.1 hi,h1⟩] at hcv
   cases hcv
  rw [h0]
  exact ⟨.nil,by simp⟩
 rcases aG (cG Lv.flatten).length u with hu | hu
 ·have hf:=pC h.wf [] u fun i hi=>by
    unfold cp
    rw [if_neg (by omega),getElem!_neg (cG Lv.flatten) (u - 1) (by omega)]
    rfl
  rw [hf]
  exact h.cd []
 cases hcv:mV Lv.length (fY Lv) (cG Lv.flatten) u with
 | true =>
  have hm:(⟨(cG Lv.flatten)[u - 1]!,(cG Lv.flatten)[u]!,eF (dO Lv.length (fY Lv) (cG Lv.flatten) u)⟩:Sp) ∈ dw Lv.flatten:=by
   rw [sD h.wf fun L hL s hs=>(h.ks L hL s hs).1,bU]
   exact ⟨_,dF.2 ⟨hu,hcv⟩,rfl⟩
  exact (h.rk _ hm).cd.perm (ef _)
 | false=>exact h0 hcv
theorem DY {l:List Sp} {snap m:Nat} {lo hi:Option Bytes} (h:∀ x ∈ l,x.ks.length≤m):∀ x ∈ tu l snap lo hi,x.ks.length≤l.length * m:=by
 have hm:∀ x ∈ ((jl l snap).filter (EG lo hi)).map sF,x.ks.length≤l.length * m:=fun x hx=>by
  obtain ⟨y,hy,rfl⟩:=bU.1 hx
  have hy:=(bp.1 hy).1
  unfold jl at hy
  obtain ⟨f,hf,rfl⟩:=bU.1 hy
  obtain ⟨s,t,e⟩:=AC hf
  have h1:=lK (l:=l) (s:=s) (e:=t) h
  have h2:=tI (wz snap f.ks)
  have h3:(wz snap f.ks).length≤f.ks.length:=bz _ _
  rw [e,(ef _).length_eq] at h3
  show ((pf [] (wz snap f.ks)).map iu).length≤_
  rw [aS,e]
  rw [e] at h2
  omega
 unfold tu
 generalize ((jl l snap).filter (EG lo hi)).map sF=q at hm
 have aux:∀ (q out:List Sp),(∀ x ∈ q,x.ks.length≤l.length * m)→(∀ x ∈ out,x.ks.length≤l.length * m)→∀ x ∈ q.foldl sG out,x.ks.length≤l.length * m:=by
  intro q
  induction q with
  | nil=>exact fun out _ h=>h
  | cons y q ih =>
   intro out h1 h2
   rw [List.foldl_cons]
   refine ih _ (fun x hx=>h1 x (aj _ hx)) fun x hx => ?_
   have hy:=h1 y aO
   unfold sG at hx
   split at hx
   ·rename_i z hz
    have hzm:=h2 z (List.mem_of_getLast? hz)
    split at hx
    ·rcases aV.1 hx with hx | hx
     ·exact h2 x (List.dropLast_subset _ hx)
     ·rw [aQ.1 hx]; exact hzm
    ·rcases aV.1 hx with hx | hx
     ·exact h2 x hx
     ·rw [aQ.1 hx]; exact hy
   ·rw [aQ.1 hx]; exact hy
 exact aux q [] hm (by simp)
end
end Go.E
end
