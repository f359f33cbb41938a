/- Parts of the proof: Oh, Oi, Oj, Ok, Ol. -/
import Derived.Test.YtlmoafgebiffaaaGreatDoorV16
import Derived.Test.YtlmoafgebiffaaaGreatDoorV17
import Derived.Test.YtlmoafgebiffaaaGreatDoorV21
set_option linter.all false
set_option maxRecDepth 10000
section
namespace Go.E
open Go Go.Sort Go.Proofs Go.Proofs.Tryz
open Go.Lib (uvarint)
def valOf (f:Sp):Bytes :=
 if au f.ks.head!.tr=21 then uvarint f.e.length++(f.e++eZ (f.ks.map K.sv))
 else if au f.ks.head!.tr=20 then uvarint f.e.length++(f.e++eN (f.ks.map K.suf))
 else f.e
def gy (f:Sp):En3:=⟨f.s,f.ks.head!.tr,valOf f⟩
theorem rB {cur:List K} {q n:Nat} {p:K→Bool} (h1:∀ x ∈ cur,x.tr / 256=q) (hp:∀ x,p x=true→au x.tr=n) (h:cur.filter p≠[]):(cur.filter p).head!.tr=q * 256+n:=by
 obtain ⟨z,l,e⟩:=List.exists_cons_of_ne_nil h
 rw [e]
 show z.tr=q * 256+n
 have hz:z ∈ cur.filter p:=by rw [e]; exact aK
 obtain ⟨m1,m2⟩:=bH.1 hz
 have a1:=h1 z m1
 have a2:=hp z m2
 unfold au at a2
 omega
theorem H4 {s:Sp} {cur:List K} {q:Nat} (h1:∀ x ∈ cur,x.tr / 256=q) :
    Jl s.s s.e q ((cur.filter qQ).map K.suf) ((cur.filter qq).map K.sv) (decide (cur.filter kJ≠[]))=(dI s cur).map gy:=by
 unfold Jl dI
 rw [az,az]
 have p1:(if (cur.filter qq).map K.sv=[] then [] else [(⟨s.s,q * 256+21,uvarint s.e.length++(s.e++eZ ((cur.filter qq).map K.sv))⟩:En3)])=(if cur.filter qq=[] then [] else [(⟨s.s,s.e,cur.filter qq⟩:Sp)]).map gy:=by
  by_cases h:cur.filter qq=[]
  ·rw [if_pos (by rw [h]; rfl),if_pos h]; rfl
  ·rw [if_neg (by simpa using h),if_neg h]
   have ht:=rB (p:=qq) (n:=21) h1 (fun x hx=>by simpa [qq] using hx) h
   simp only [List.map_cons,List.map_nil,gy,valOf,ht]
   rw [if_pos (by unfold au; omega)]
 have p2:(if (cur.filter qQ).map K.suf=[] then [] else [(⟨s.s,q * 256+20,uvarint s.e.length++(s.e++eN ((cur.filter qQ).map K.suf))⟩:En3)])=(if cur.filter qQ=[] then [] else [(⟨s.s,s.e,cur.filter qQ⟩:Sp)]).map gy:=by
  by_cases h:cur.filter qQ=[]
  ·rw [if_pos (by rw [h]; rfl),if_pos h]; rfl
  ·rw [if_neg (by simpa using h),if_neg h]
   have ht:=rB (p:=qQ) (n:=20) h1 (fun x hx=>by simpa [qQ] using hx) h
   simp only [List.map_cons,List.map_nil,gy,valOf,ht]
   rw [if_neg (by unfold au; omega),if_pos (by unfold au; omega)]
 have p3:(if decide (cur.filter kJ≠[])=true then [(⟨s.s,q * 256+19,s.e⟩:En3)] else [])=(if cur.filter kJ=[] then [] else [(⟨s.s,s.e,[⟨(cur.filter kJ).head!.tr,[],[]⟩]⟩:Sp)]).map gy:=by
  by_cases h:cur.filter kJ=[]
  ·rw [if_neg (by simp [h]),if_pos h]; rfl
  ·rw [if_pos (by simp [h]),if_neg h]
   have ht:=rB (p:=kJ) (n:=19) h1 (fun x hx=>by simpa [kJ] using hx) h
   have hh:([(⟨q * 256+19,[],[]⟩:K)]).head! = ⟨q * 256+19,[],[]⟩:=rfl
   simp only [List.map_cons,List.map_nil,gy,valOf,ht,hh]
   rw [if_neg (by unfold au; omega),if_neg (by unfold au; omega)]
 rw [p1,p2,p3]
theorem sY (s:Sp) (cur:List K):(dI s cur).length≤3:=by
 unfold dI
 rw [aE,aE]
 split <;> split <;> split <;> simp
def dL (x:Sp) (i:Nat):List Sp × List K:=(x.ks.take i).foldl (fI x) ([],[])
theorem um {x:Sp} {i:Nat} {k:K} (h:x.ks[i]? = some k):dL x (i+1)=fI x (dL x i) k:=by
 unfold dL; rw [bz h,List.foldl_append]; rfl
structure EncG (x:Sp) (a:List Sp × List K) (i q:Nat):Prop where
 n:a.1.length≤3 * i
 m:∀ y ∈ a.2,y ∈ x.ks∧y.tr / 256=q
 l:a.2.length≤i
 z:a.2=[]↔i=0
def im (c:List K):List Bytes:=(c.filter qQ).map K.suf
def qR (c:List K):List (Bytes × Bytes):=(c.filter qq).map K.sv
theorem GG {s:Sp} {cur:List K} {q:Nat} (h1:∀ x ∈ cur,x.tr / 256=q):Jl s.s s.e q (im cur) (qR cur) (decide (cur.filter kJ≠[]))=(dI s cur).map gy:=H4 h1
theorem jL (c:List K) (k:K):im (c++[k])=if au k.tr=20 then im c++[k.suf] else im c:=by
 unfold im; rw [List.filter_append,az]
 by_cases h:au k.tr=20
 ·rw [if_pos h,List.filter_cons_of_pos (by simp [qQ,h])]; rfl
 ·rw [if_neg h,List.filter_cons_of_neg (by simp [qQ,h])]; simp
theorem kL (c:List K) (k:K):qR (c++[k])=if au k.tr=21 then qR c++[k.sv] else qR c:=by
 unfold qR; rw [List.filter_append,az]
 by_cases h:au k.tr=21
 ·rw [if_pos h,List.filter_cons_of_pos (by simp [qq,h])]; rfl
 ·rw [if_neg h,List.filter_cons_of_neg (by simp [qq,h])]; simp
theorem jM (c:List K) (k:K):decide ((c++[k]).filter kJ≠[])=if au k.tr=19 then true else decide (c.filter kJ≠[]):=by
 rw [List.filter_append]
 by_cases h:au k.tr=19
 ·rw [if_pos h,List.filter_cons_of_pos (by simp [kJ,h])]; simp
 ·rw [if_neg h,List.filter_cons_of_neg (by simp [kJ,h])]; simp
section
variable {d w0 w:World} {be bl:Nat} {bv uv sv lv v2:Value} {us:List Bytes} {ss:List (Bytes × Bytes)} {es:List En3}
theorem En.clrS {a:Option Addr} {n c:Nat} (h:En d w0 w be bl bv uv (.slice a n c) lv us ss es):En d w0 (w.setCell ⟨be,3,none⟩ (.slice a 0 c)) be bl bv uv (.slice a 0 c) lv us [] es:=by
 obtain ⟨_,o⟩:=h.so
 obtain ⟨a',c',e,_⟩:=o.form
 simp only [aU] at e
 obtain ⟨rfl,rfl,rfl⟩:=e
 exact h.usets ⟨[],rfl,by simpa using eQ o.own,by simp,by simp,fun g hg=>o.out g (by cases a <;> exact hg)⟩ (Keep.refl _ w) fun g hg => .inl (by cases a <;> exact hg)
theorem En.clrU {a:Option Addr} {n c:Nat} (h:En d w0 w be bl bv (.slice a n c) sv lv us ss es):En d w0 (w.setCell ⟨be,2,none⟩ (.slice a 0 c)) be bl bv (.slice a 0 c) sv lv [] ss es:=by
 obtain ⟨_,o⟩:=h.uo
 obtain ⟨a',c',e,_⟩:=o.form
 simp only [aU] at e
 obtain ⟨rfl,rfl,rfl⟩:=e
 exact h.uuns ⟨[],rfl,by simpa using eQ o.own,by simp,by simp,fun g hg=>o.out g (by cases a <;> exact hg)⟩ (Keep.refl _ w) fun g hg => .inl (by cases a <;> exact hg)
end
end Go.E
namespace Go.Proofs
open Go Go.E Go.Sort Go.Proofs.Tryz
open Go.Lib (uvarint)
section
variable {k:aq} {d w0 w:World} {be bl:Nat} {bv uv sv lv:Value}
theorem zt {sb:Nat} {sa ea kv:Value} {x:Sp} (h:En d w0 w be bl bv uv sv lv [] [] []) (hsa:d.cell? ⟨sb,0,none⟩=some sa) (hea:d.cell? ⟨sb,1,none⟩=some ea) (hkv:d.cell? ⟨sb,2,none⟩=some kv) (hst:dR d sa x.s) (hen:dR d ea x.e) (hks:Sl KB 3 d kv x.ks)
    (hl:x.ks.length≤40) (hfit:∀ k ∈ x.ks,au k.tr=19∨au k.tr=20∨au k.tr=21) (hsh:∀ k ∈ x.ks,k.suf.length≤1048576∧k.val.length≤1048576) (htr:∀ k ∈ x.ks,k.tr < 18446744073709551616) (he2:x.e.length≤1048576)
    (hk:∀ w2 bv uv sv lv us ss,En d w0 w2 be bl bv uv sv lv us ss ((fT x).map gy)→k .nilIface w2):ai prog 48 #[.pointer (some ⟨be,0,none⟩),.pointer (some ⟨sb,0,none⟩)] k w:=by
 obtain ⟨ka,kc,rfl⟩:=hks.form
 have j2:=h.inc _ _ _ hkv
 have c0:(0:Int)≤0:=by decide
 have fl:∀ (w1:World) (bv uv sv lv:Value) (a:List Sp × List K) (i q:Nat) (K2:aq),En d w0 w1 be bl bv uv sv lv (im a.2) (qR a.2) (a.1.map gy)→EncG x a i q→i≤40→a.2≠[] →
     (∀ w2 bv2 lv2,En d w0 w2 be bl bv2 uv sv lv2 (im a.2) (qR a.2) ((a.1++dI x a.2).map gy)→K2 .nilIface w2)→ai prog 78 #[.pointer (some ⟨be,0,none⟩),.pointer (some ⟨sb,0,none⟩),.int .u64 q,.bool (decide (a.2.filter kJ≠[]))] K2 w1:=by
  intro w1 bv uv sv lv a i q K2 h1 hg hi hne hK2
  obtain ⟨z,l,hz⟩:=List.exists_cons_of_ne_nil hne
  have hzm:=hg.m z (by rw [hz]; exact aK)
  have hzt:=htr z hzm.1
  have gl:=hg.l
  have gn:=hg.n
  refine za h1 hsa hea hst hen he2 (by omega) ?_ ?_ ?_ ?_ ?_ fun w2 bv2 lv2 h2=>hK2 w2 bv2 lv2 ?_
  ·unfold im; rw [aR]; exact ah (bN _ _) (by omega)
  ·unfold qR; rw [aR]; exact ah (bN _ _) (by omega)
  ·intro y hy
   unfold qR at hy
   obtain ⟨z,hz,rfl⟩:=bj.1 hy
   exact hsh z (hg.m z (bH.1 hz).1).1
  ·intro y hy
   unfold im at hy
   obtain ⟨z,hz,rfl⟩:=bj.1 hy
   exact (hsh z (hg.m z (bH.1 hz).1).1).1
  ·rw [aR]; omega
  ·rw [GG fun y hy=>(hg.m y hy).2,← az] at h2
   exact h2
 refine al [.tmp 4] func48 ?_
 refine bA ?_
 refine mS (o:=0) (ka:=ka) (n:=x.ks.length) (c:=kc) j2 ?_
 by_cases h0:x.ks.length=0
 ·have h0':=aV h0
  refine bu @h0' ?_
  have e0:x.ks=[]:=ak.1 h0
  have e1:(fT x).map gy=[]:=by unfold fT; rw [e0]; rfl
  exact hk w bv uv sv lv [] [] (by rw [e1]; exact h)
 have h0':=aG h0
 refine dO @h0' @j2 ?_
 refine bZ (fun b:Nat × Bool × Nat=>[(0,.pointer (some ⟨be,0,none⟩)),(1,.pointer (some ⟨sb,0,none⟩)),(5,.bool b.2.1),(6,.int .u64 b.2.2),(15,.int .i64 x.ks.length),(16,.int .i64 b.1)])
  (fun b w'=>b.1≤x.ks.length∧(∃ bv uv sv lv,En d w0 w' be bl bv uv sv lv (im (dL x b.1).2) (qR (dL x b.1).2) ((dL x b.1).1.map gy))∧b.2.1=decide ((dL x b.1).2.filter kJ≠[])∧EncG x (dL x b.1) b.1 b.2.2)
  (fun b _=>x.ks.length - b.1) (0,false,0) (by kernel_rfl) ?_ ⟨aT _,⟨_,_,_,_,h⟩,rfl,⟨aF _,by simp [dL],aF _,⟨fun _=>rfl,fun _=>rfl⟩⟩⟩ ?_
 ·exact bU
 rintro K2 e ⟨i,del,q⟩ w1 ⟨i2,⟨bv,uv,sv,lv,h1⟩,i4,i5⟩ hK2
 simp only at i2 h1 i4 i5
 have i4:del=decide ((dL x i).2.filter kJ≠[]):=i4
 subst i4
 rcases aH i x.ks.length with hi | hi
 rotate_left
 ·have hi':¬ (i:Int) < x.ks.length:=by omega
  refine bu @hi' ?_
  obtain rfl:i=x.ks.length:=by omega
  refine fl _ _ _ _ _ _ _ _ _ h1 i5 hl (fun e=>h0 (i5.z.1 e)) fun w2 bv2 lv2 h2 => ?_
  refine bA ?_
  have e1:fT x=(dL x x.ks.length).1++dI x (dL x x.ks.length).2:=by unfold fT dL; rw [ag]
  rw [← e1] at h2
  exact hk _ _ _ _ _ _ _ h2
 have hi':(i:Int) < x.ks.length:=by omega
 have hinc:=h1.inc
 obtain ⟨b,f,c,hv',hc',hat⟩:=hks.at (by omega)
 obtain ⟨rfl,rfl⟩:=sEq hv'
 obtain ⟨y,hy⟩:=gEl hi
 have hmem:=aO hy
 obtain ⟨cs,_,hcs,ya,yb,rfl,hyt,hA,hB⟩:=hat i y hy
 have p0:=hcs 0 _ rfl
 have p1:=hcs 1 _ rfl
 have p2:=hcs 2 _ rfl
 have g0:w1.cell? ⟨b,f+i * 3,none⟩=some (.int .u64 y.tr):=hinc _ _ _ p0
 have g1:w1.cell? ⟨b,f+i * 3+1,none⟩=some ya:=hinc _ _ _ p1
 have g2:w1.cell? ⟨b,f+i * 3+2,none⟩=some yb:=hinc _ _ _ p2
 have j2:=hinc _ _ _ hkv
 obtain ⟨kr,hkr⟩:∃ kr:KR,kr=⟨y,ya,yb⟩:=⟨_,rfl⟩
 have krg:kr.good d:=by rw [hkr]; exact ⟨hyt,hA,hB⟩
 have krv:(.agg #[.int .u64 y.tr,ya,yb]:Value)=kr.v:=by rw [hkr]; rfl
 have krt:kr.k=y:=by rw [hkr]
 have es:=um hy
 obtain ⟨ua,uc,hu⟩:∃ ua uc,uv = .slice ua (im (dL x i).2).length uc:=by obtain ⟨_,o⟩:=h1.uo; obtain ⟨a,c,e,_⟩:=o.form; exact ⟨a,c,e⟩
 obtain ⟨va,vc,hs⟩:∃ va vc,sv = .slice va (qR (dL x i).2).length vc:=by obtain ⟨_,o⟩:=h1.so; obtain ⟨a,c,e,_⟩:=o.form; exact ⟨a,c,e⟩
 obtain ⟨yaa,yac,rfl⟩:=aY hA
 obtain ⟨yba,ybc,rfl⟩:=aY hB
 have nh:∀ (hne:i≠0),(dL x i).2.head!.tr / 256=q:=fun hne=>by
  obtain ⟨z,l,e⟩:=List.exists_cons_of_ne_nil (fun e=>hne (i5.z.1 e))
  rw [e]
  exact (i5.m z (by rw [e]; exact aK)).2
 by_cases hz:i=0
 ·obtain ⟨t,ht⟩:∃ t,((i:Int) == 0)=t:=⟨_,rfl⟩
  have ht1:t=true:=by rw [← ht,hz]; rfl
  have ht2:(t == false)=false:=by rw [ht1]; rfl
  have ht3:∀ (v:Value) (q:Value→Prop),AC (.bool t) (.bool true) v q=q (.bool t):=fun v q=>by rw [ht1]; rfl
  refine eO @hi' @ht @ht2 @ht3 ?_
  refine mW (fun b:(List Sp × List K) × Nat=>[(0,.pointer (some ⟨be,0,none⟩)),(1,.pointer (some ⟨sb,0,none⟩)),(5,.bool (decide (b.1.2.filter kJ≠[]))),(6,.int .u64 b.2),(7,.int .i64 i),(15,.int .i64 x.ks.length),(16,.int .i64 i)])
   (fun b w'=>(∃ bv uv sv lv,En d w0 w' be bl bv uv sv lv (im b.1.2) (qR b.1.2) (b.1.1.map gy))∧b.2=y.tr / 256∧fI x (dL x i) y=(b.1.1,b.1.2++[y])∧b.1.1.length≤3 * (i+1)∧(∀ z ∈ b.1.2,z ∈ x.ks∧z.tr / 256=y.tr / 256)∧b.1.2.length≤i) (by kernel_rfl) (by kernel_rfl) (fun K hK => ?_) ?_
  rotate_left
  ·
   rintro e3 ⟨⟨a1,c⟩,q2⟩ w3 ⟨⟨bv,uv,sv,lv,h3⟩,hq,hstep,hn,hm,hc⟩
   simp only at h3 hq hstep hn hm hc
   subst hq
   have j2:=h3.inc _ _ _ hkv
   have g0:w3.cell? ⟨b,f+i * 3,none⟩=some (.int .u64 y.tr):=h3.inc _ _ _ p0
   have g1:w3.cell? ⟨b,f+i * 3+1,none⟩=some (.slice yaa y.suf.length yac):=h3.inc _ _ _ p1
   have g2:w3.cell? ⟨b,f+i * 3+2,none⟩=some (.slice yba y.val.length ybc):=h3.inc _ _ _ p2
   refine eO @j2 @g0 @g1 @g2 ?_
   rw [krv]
   refine oW krg fun w4 x4 => ?_
   rw [krt]
   have h4:=h3.ext x4
   have j2:=x4.cell j2
   have g1:=x4.cell g1
   have g2:=x4.cell g2
   rw [hstep] at es
   have ei:IntKind.i64.wrap ((i:Int)+1)=((i+1:Nat):Int):=by rw [dP (by omega) (by omega)]; omega
   have eg:EncG x (dL x (i+1)) (i+1) (y.tr / 256):=by
    rw [es]
    refine ⟨hn,fun z hz => ?_,by simp only [aE,ar]; omega,by simp⟩
    rcases aS.1 hz with hz | hz
    ·exact hm z hz
    ·rw [aM.1 hz]; exact ⟨hmem,rfl⟩
   rcases hfit y hmem with hf | hf | hf
   ·rw [hf]
    have e1:(((19:Nat):Int) == 21)=false:=by decide
    have e2:(((19:Nat):Int) == 20)=false:=by decide
    have e3:(((19:Nat):Int) == 19)=true:=by decide
    refine eO @e1 @e2 @e3 @ei ?_
    refine hK2 _ _ (i+1,true,y.tr / 256) ?_ ⟨hi,⟨bv,uv,sv,lv,?_⟩,?_,eg⟩ (by simp only; omega)
    ·exact bU
    ·simp only
     rw [es,jL,kL]
     simp only [hf,Nat.reduceEqDiff,if_false]
     exact h4
    ·simp only
     rw [es,jM,if_pos hf]
   ·rw [hf]
    have e1:(((20:Nat):Int) == 21)=false:=by decide
    have e2:(((20:Nat):Int) == 20)=true:=by decide
    refine dO @e1 @e2 ?_
    have h5:=h4.ext (Keep.drew (bp.refl w4))
    obtain ⟨css,o5⟩:=h5.uo
    have kc2:=h4.c2
    have lbe:=aC h4.c0
    have lg0:=aC g1
    have kc3:=h4.c3
    refine bF (sq [0,1,2,3] (.read 4 (sq [5,6,7] (.read 8 (sq [9,10,11] (.read 12 (.eff 13 [4] (.eff 14 [] (sq [15,16] (.eff 17 [] .done)))))))))) ?_
    refine hJ @kc2 @kc3 @j2 @g1 @g2 ?_
    refine iL y.suf [.slice yaa y.suf.length yac] rw102 o5 ⟨_,rfl,hA⟩ rfl (.inl rfl) rfl rfl (by simp [Value.oneCell']) (by rw [im,aR]; have:=bN qQ c; omega) h5.inc fun v2 w5 o6 k6 n6 j6 hv2 => ?_
    have h6:=h5.uuns ⟨_,o6⟩ k6 n6
    obtain ⟨la,lc,rfl⟩:=hv2
    have nbe:¬ uv.ownBlock=some be:=fun e=>by
     obtain ⟨col,e1,_,_,e4,e5,_⟩:=h5.col
     have:=e4 be e; omega
    have f5:∀ o,w5.frozen? ⟨be,o,none⟩=false:=fun o=>by rw [k6.frozen _ o (aC h5.c0)]; exact h5.f o
    have c5:=k6.some h5.c2 nbe
    refine dQ @c5 @f5 @ei ?_
    have eA:=congrArg (fun a=>im a.2) es
    have eB:=congrArg (fun a=>qR a.2) es
    have eC:=congrArg (fun a=>a.1) es
    simp only [jL,kL,hf,Nat.reduceEqDiff,if_true,if_false] at eA eB eC
    rw [← eA,← eB,← eC] at h6
    refine hK2 _ _ (i+1,decide ((c++[y]).filter kJ≠[]),y.tr / 256) ?_ ⟨hi,⟨_,_,_,_,h6⟩,by simp only; rw [es],eg⟩ (by simp only; omega)
    rw [jM,if_neg (by omega)]
    exact bU
   ·rw [hf]
    have e1:(((21:Nat):Int) == 21)=true:=by decide
    refine dO @e1 @e1 ?_
    have h5:=h4.ext (Keep.drew (bp.refl w4))
    obtain ⟨css,o5⟩:=h5.so
    have kc2:=h4.c2
    have lbe:=aC h4.c0
    have lg0:=aC g1
    have kc3:=h4.c3
    refine bF (sq [0,1,2,3] (.read 4 (sq [5,6,7] (.read 8 (sq [9,10,11] (.read 12 (sq [13,14,15] (.read 16 (sq [17,18,19] (.read 20 (sq [21] (.eff 22 [4] (.eff 23 [] (sq [24,25] (.eff 26 [] .done))))))))))))))) ?_
    refine hJ @kc2 @kc3 @j2 @g1 @g2 ?_
    refine iL y.sv [.slice yaa y.suf.length yac,.slice yba y.val.length ybc] rw103 o5 ⟨_,_,rfl,hA,hB⟩ rfl (.inl rfl) rfl rfl (by simp [Value.oneCell']) (by rw [qR,aR]; have:=bN qq c; omega) h5.inc fun v2 w5 o6 k6 n6 j6 hv2 => ?_
    have h6:=h5.usets ⟨_,o6⟩ k6 n6
    obtain ⟨la,lc,rfl⟩:=hv2
    have nbe:¬ sv.ownBlock=some be:=fun e=>by
     obtain ⟨col,e1,_,_,e4,e5,_⟩:=h5.col
     have:=e5 be e; omega
    have f5:∀ o,w5.frozen? ⟨be,o,none⟩=false:=fun o=>by rw [k6.frozen _ o (aC h5.c0)]; exact h5.f o
    have c5:=k6.some h5.c3 nbe
    refine dQ @c5 @f5 @ei ?_
    have eA:=congrArg (fun a=>im a.2) es
    have eB:=congrArg (fun a=>qR a.2) es
    have eC:=congrArg (fun a=>a.1) es
    simp only [jL,kL,hf,Nat.reduceEqDiff,if_true,if_false] at eA eB eC
    rw [← eA,← eB,← eC] at h6
    refine hK2 _ _ (i+1,decide ((c++[y]).filter kJ≠[]),y.tr / 256) ?_ ⟨hi,⟨_,_,_,_,h6⟩,by simp only; rw [es],eg⟩ (by simp only; omega)
    rw [jM,if_neg (by omega)]
    exact bU
  ·subst ht1
   have hp:¬ (0:Int) < i:=by omega
   have hnil:(dL x i).2=[]:=i5.z.2 hz
   refine hJ @hp @j2 @g0 @g1 @g2 ?_
   have h1:En d w0 w1 be bl bv uv sv lv (im (dL x i).2) (qR (dL x i).2) (((dL x i).1++dI x (dL x i).2).map gy):=by
    have e0:dI x (dL x i).2=[]:=by rw [hnil]; rfl
    rw [e0,ao]; exact h1
   rw [krv]
   refine kg krg fun w6 x6 => ?_
   rw [krt]
   have h6:=h1.ext x6
   obtain ⟨ua6,uc6,hu6,hu7⟩:∃ ua uc,uv = .slice ua (im (dL x i).2).length uc∧(im (dL x i).2).length≤uc:=by obtain ⟨_,o⟩:=h6.uo; obtain ⟨a,c,e,h,_⟩:=o.form; exact ⟨a,c,e,h⟩
   obtain ⟨va6,vc6,hs6,hs7⟩:∃ va vc,sv = .slice va (qR (dL x i).2).length vc∧(qR (dL x i).2).length≤vc:=by obtain ⟨_,o⟩:=h6.so; obtain ⟨a,c,e,h,_⟩:=o.form; exact ⟨a,c,e,h⟩
   have r3:=h6.c3
   rw [hs6] at r3
   have z1:(0:Int)≤vc6:=by omega
   have z2:(0:Int)≤uc6:=by omega
   have h7:=En.clrS (a:=va6) (n:=(qR (dL x i).2).length) (c:=vc6) (by rw [← hs6]; exact h6)
   have h8:=En.clrU (a:=ua6) (n:=(im (dL x i).2).length) (c:=uc6) (by rw [← hu6]; exact h7)
   have r2:=h6.c2
   rw [hu6] at r2
   have f6:=h6.f
   simp (disch:=first | exact dZ | fail) only [go_sem,r3,r2,f6,pG Tryz.es103 (Int.le_refl 0) z1,pG Tryz.es102 (Int.le_refl 0) z2]
   refine hK _ _ (((dL x i).1++dI x (dL x i).2,[]),y.tr / 256) ?_ ⟨⟨_,_,_,_,h8⟩,rfl,?_,?_,by simp,aT _⟩
   ·have ef:decide (([]:List E.K).filter kJ≠[])=false:=rfl
    rw [ef]
    exact bU
   ·simp only [fI]
    rw [if_neg (fun h=>h.1 hnil)]
    rfl
   ·have:=i5.n
    have:=sY x (dL x i).2
    simp only [aE]
    omega
 ·have e1:((i:Int) == 0)=false:=by rw [Bool.eq_false_iff]; intro e; have:=eq_of_beq e; omega
  refine qh @hi' @e1 @j2 @g0 @g1 @g2 ?_
  rw [krv]
  refine kg krg fun w2 x2 => ?_
  rw [krt]
  obtain ⟨t,ht⟩:∃ t,(((y.tr / 256:Nat):Int) != (q:Int))=t:=⟨_,rfl⟩
  have h2:=h1.ext x2
  have j2:=x2.cell j2
  have g0:=x2.cell g0
  have g1:=x2.cell g1
  have g2:=x2.cell g2
  refine bu @ht ?_
  refine mW (fun b:(List Sp × List K) × Nat=>[(0,.pointer (some ⟨be,0,none⟩)),(1,.pointer (some ⟨sb,0,none⟩)),(5,.bool (decide (b.1.2.filter kJ≠[]))),(6,.int .u64 b.2),(7,.int .i64 i),(15,.int .i64 x.ks.length),(16,.int .i64 i)])
   (fun b w'=>(∃ bv uv sv lv,En d w0 w' be bl bv uv sv lv (im b.1.2) (qR b.1.2) (b.1.1.map gy))∧b.2=y.tr / 256∧fI x (dL x i) y=(b.1.1,b.1.2++[y])∧b.1.1.length≤3 * (i+1)∧(∀ z ∈ b.1.2,z ∈ x.ks∧z.tr / 256=y.tr / 256)∧b.1.2.length≤i) (by kernel_rfl) (by kernel_rfl) (fun K hK => ?_) ?_
  rotate_left
  ·
   rintro e3 ⟨⟨a1,c⟩,q2⟩ w3 ⟨⟨bv,uv,sv,lv,h3⟩,hq,hstep,hn,hm,hc⟩
   simp only at h3 hq hstep hn hm hc
   subst hq
   have j2:=h3.inc _ _ _ hkv
   have g0:w3.cell? ⟨b,f+i * 3,none⟩=some (.int .u64 y.tr):=h3.inc _ _ _ p0
   have g1:w3.cell? ⟨b,f+i * 3+1,none⟩=some (.slice yaa y.suf.length yac):=h3.inc _ _ _ p1
   have g2:w3.cell? ⟨b,f+i * 3+2,none⟩=some (.slice yba y.val.length ybc):=h3.inc _ _ _ p2
   refine eO @j2 @g0 @g1 @g2 ?_
   rw [krv]
   refine oW krg fun w4 x4 => ?_
   rw [krt]
   have h4:=h3.ext x4
   have j2:=x4.cell j2
   have g1:=x4.cell g1
   have g2:=x4.cell g2
   rw [hstep] at es
   have ei:IntKind.i64.wrap ((i:Int)+1)=((i+1:Nat):Int):=by rw [dP (by omega) (by omega)]; omega
   have eg:EncG x (dL x (i+1)) (i+1) (y.tr / 256):=by
    rw [es]
    refine ⟨hn,fun z hz => ?_,by simp only [aE,ar]; omega,by simp⟩
    rcases aS.1 hz with hz | hz
    ·exact hm z hz
    ·rw [aM.1 hz]; exact ⟨hmem,rfl⟩
   rcases hfit y hmem with hf | hf | hf
   ·rw [hf]
    have e1:(((19:Nat):Int) == 21)=false:=by decide
    have e2:(((19:Nat):Int) == 20)=false:=by decide
    have e3:(((19:Nat):Int) == 19)=true:=by decide
    refine eO @e1 @e2 @e3 @ei ?_
    refine hK2 _ _ (i+1,true,y.tr / 256) ?_ ⟨hi,⟨bv,uv,sv,lv,?_⟩,?_,eg⟩ (by simp only; omega)
    ·exact bU
    ·simp only
     rw [es,jL,kL]
     simp only [hf,Nat.reduceEqDiff,if_false]
     exact h4
    ·simp only
     rw [es,jM,if_pos hf]
   ·rw [hf]
    have e1:(((20:Nat):Int) == 21)=false:=by decide
    have e2:(((20:Nat):Int) == 20)=true:=by decide
    refine dO @e1 @e2 ?_
    have h5:=h4.ext (Keep.drew (bp.refl w4))
    obtain ⟨css,o5⟩:=h5.uo
    have kc2:=h4.c2
    have lbe:=aC h4.c0
    have lg0:=aC g1
    have kc3:=h4.c3
    refine bF (sq [0,1,2,3] (.read 4 (sq [5,6,7] (.read 8 (sq [9,10,11] (.read 12 (.eff 13 [4] (.eff 14 [] (sq [15,16] (.eff 17 [] .done)))))))))) ?_
    refine hJ @kc2 @kc3 @j2 @g1 @g2 ?_
    refine iL y.suf [.slice yaa y.suf.length yac] rw102 o5 ⟨_,rfl,hA⟩ rfl (.inl rfl) rfl rfl (by simp [Value.oneCell']) (by rw [im,aR]; have:=bN qQ c; omega) h5.inc fun v2 w5 o6 k6 n6 j6 hv2 => ?_
    have h6:=h5.uuns ⟨_,o6⟩ k6 n6
    obtain ⟨la,lc,rfl⟩:=hv2
    have nbe:¬ uv.ownBlock=some be:=fun e=>by
     obtain ⟨col,e1,_,_,e4,e5,_⟩:=h5.col
     have:=e4 be e; omega
    have f5:∀ o,w5.frozen? ⟨be,o,none⟩=false:=fun o=>by rw [k6.frozen _ o (aC h5.c0)]; exact h5.f o
    have c5:=k6.some h5.c2 nbe
    refine dQ @c5 @f5 @ei ?_
    have eA:=congrArg (fun a=>im a.2) es
    have eB:=congrArg (fun a=>qR a.2) es
    have eC:=congrArg (fun a=>a.1) es
    simp only [jL,kL,hf,Nat.reduceEqDiff,if_true,if_false] at eA eB eC
    rw [← eA,← eB,← eC] at h6
    refine hK2 _ _ (i+1,decide ((c++[y]).filter kJ≠[]),y.tr / 256) ?_ ⟨hi,⟨_,_,_,_,h6⟩,by simp only; rw [es],eg⟩ (by simp only; omega)
    rw [jM,if_neg (by omega)]
    exact bU
   ·rw [hf]
    have e1:(((21:Nat):Int) == 21)=true:=by decide
    refine dO @e1 @e1 ?_
    have h5:=h4.ext (Keep.drew (bp.refl w4))
    obtain ⟨css,o5⟩:=h5.so
    have kc2:=h4.c2
    have lbe:=aC h4.c0
    have lg0:=aC g1
    have kc3:=h4.c3
    refine bF (sq [0,1,2,3] (.read 4 (sq [5,6,7] (.read 8 (sq [9,10,11] (.read 12 (sq [13,14,15] (.read 16 (sq [17,18,19] (.read 20 (sq [21] (.eff 22 [4] (.eff 23 [] (sq [24,25] (.eff 26 [] .done))))))))))))))) ?_
    refine hJ @kc2 @kc3 @j2 @g1 @g2 ?_
    refine iL y.sv [.slice yaa y.suf.length yac,.slice yba y.val.length ybc] rw103 o5 ⟨_,_,rfl,hA,hB⟩ rfl (.inl rfl) rfl rfl (by simp [Value.oneCell']) (by rw [qR,aR]; have:=bN qq c; omega) h5.inc fun v2 w5 o6 k6 n6 j6 hv2 => ?_
    have h6:=h5.usets ⟨_,o6⟩ k6 n6
    obtain ⟨la,lc,rfl⟩:=hv2
    have nbe:¬ sv.ownBlock=some be:=fun e=>by
     obtain ⟨col,e1,_,_,e4,e5,_⟩:=h5.col
     have:=e5 be e; omega
    have f5:∀ o,w5.frozen? ⟨be,o,none⟩=false:=fun o=>by rw [k6.frozen _ o (aC h5.c0)]; exact h5.f o
    have c5:=k6.some h5.c3 nbe
    refine dQ @c5 @f5 @ei ?_
    have eA:=congrArg (fun a=>im a.2) es
    have eB:=congrArg (fun a=>qR a.2) es
    have eC:=congrArg (fun a=>a.1) es
    simp only [jL,kL,hf,Nat.reduceEqDiff,if_true,if_false] at eA eB eC
    rw [← eA,← eB,← eC] at h6
    refine hK2 _ _ (i+1,decide ((c++[y]).filter kJ≠[]),y.tr / 256) ?_ ⟨hi,⟨_,_,_,_,h6⟩,by simp only; rw [es],eg⟩ (by simp only; omega)
    rw [jM,if_neg (by omega)]
    exact bU
  ·cases t with
   | false =>
    have hqe:y.tr / 256=q:=by
     have:=eq_of_beq (by simpa [bne] using ht:(((y.tr / 256:Nat):Int) == (q:Int))=true)
     omega
    refine bA ?_
    refine hK _ _ (dL x i,q) ?_ ⟨⟨_,_,_,_,h2⟩,hqe.symm,?_,?_,?_,i5.l⟩
    ·exact bU
    ·simp only [fI]
     rw [if_pos ⟨fun e=>hz (i5.z.1 e),by rw [nh hz,hqe]⟩]
    ·have:=i5.n; simp only; omega
    ·intro z hz2
     have:=i5.m z hz2
     exact ⟨this.1,by rw [this.2,hqe]⟩
   | true =>
    have hqn:y.tr / 256≠q:=fun e=>by rw [e] at ht; simp [bne] at ht
    have hp:(0:Int) < i:=by omega
    refine bu @hp ?_
    refine fl _ _ _ _ _ _ _ _ _ h2 i5 (by omega) (fun e=>hz (i5.z.1 e)) fun w5 bv5 lv5 h5 => ?_
    have j2:=h5.inc _ _ _ hkv
    have g0:w5.cell? ⟨b,f+i * 3,none⟩=some (.int .u64 y.tr):=h5.inc _ _ _ p0
    have g1:w5.cell? ⟨b,f+i * 3+1,none⟩=some (.slice yaa y.suf.length yac):=h5.inc _ _ _ p1
    have g2:w5.cell? ⟨b,f+i * 3+2,none⟩=some (.slice yba y.val.length ybc):=h5.inc _ _ _ p2
    refine eO @j2 @g0 @g1 @g2 ?_
    rw [krv]
    refine kg krg fun w6 x6 => ?_
    rw [krt]
    have h6:=h5.ext x6
    obtain ⟨ua6,uc6,hu6,hu7⟩:∃ ua uc,uv = .slice ua (im (dL x i).2).length uc∧(im (dL x i).2).length≤uc:=by obtain ⟨_,o⟩:=h6.uo; obtain ⟨a,c,e,h,_⟩:=o.form; exact ⟨a,c,e,h⟩
    obtain ⟨va6,vc6,hs6,hs7⟩:∃ va vc,sv = .slice va (qR (dL x i).2).length vc∧(qR (dL x i).2).length≤vc:=by obtain ⟨_,o⟩:=h6.so; obtain ⟨a,c,e,h,_⟩:=o.form; exact ⟨a,c,e,h⟩
    have r3:=h6.c3
    rw [hs6] at r3
    have z1:(0:Int)≤vc6:=by omega
    have z2:(0:Int)≤uc6:=by omega
    have h7:=En.clrS (a:=va6) (n:=(qR (dL x i).2).length) (c:=vc6) (by rw [← hs6]; exact h6)
    have h8:=En.clrU (a:=ua6) (n:=(im (dL x i).2).length) (c:=uc6) (by rw [← hu6]; exact h7)
    have r2:=h6.c2
    rw [hu6] at r2
    have f6:=h6.f
    simp (disch:=first | exact dZ | fail) only [go_sem,r3,r2,f6,pG Tryz.es103 (Int.le_refl 0) z1,pG Tryz.es102 (Int.le_refl 0) z2]
    refine hK _ _ (((dL x i).1++dI x (dL x i).2,[]),y.tr / 256) ?_ ⟨⟨_,_,_,_,h8⟩,rfl,?_,?_,by simp,aT _⟩
    ·have ef:decide (([]:List E.K).filter kJ≠[])=false:=rfl
     rw [ef]
     exact bU
    ·simp only [fI]
     rw [if_neg (fun h=>hqn (by rw [← h.2,nh hz]))]
     rfl
    ·have:=i5.n
     have:=sY x (dL x i).2
     simp only [aE]
     omega
end
end Go.Proofs
end
section
namespace Go.Proofs
open Go Go.E Go.Sort Go.Proofs.Tryz
section
variable {k:aq} {d w:World}
structure EncOk (x:Sp):Prop where
 fit:kK x.ks
 l:x.ks.length≤40
 s:x.s.length≤1048576
 e:x.e.length≤1048576
 sh:∀ k ∈ x.ks,k.suf.length≤1048576∧k.val.length≤1048576
 tr:∀ k ∈ x.ks,k.tr < 18446744073709551616
theorem qs {kv:Value} {x:Sp} (hv:Sl KE 3 d kv x.ks) (ok:EncOk x) (hinc:cM d w) (hk:∀ d' w' v',Gr d w d' w'→Sl Gv 3 d' v' ((fT x).map gy)→k (.tuple #[v',.bool true]) w') :
    ai prog 8 #[.agg #[.string ⟨x.s.toArray⟩,.string ⟨x.e.toArray⟩,kv]] k w:=by
 obtain ⟨ka,kc,rfl⟩:=hv.form
 refine al [.cell 2 32,.tmp 3] func8 ?_
 refine bA ?_
 obtain ⟨w1,hw1⟩:∃ w1,w1=(w.alloc (.cells #[.string ⟨x.s.toArray⟩,.string ⟨x.e.toArray⟩,.slice ka x.ks.length kc] 37)).alloc (.cells #[.slice none 0 0] 32):=⟨_,rfl⟩
 obtain ⟨bl,hbl⟩:∃ bl,bl=w.heap.size+1:=⟨_,rfl⟩
 have x1:bp w w1:=by rw [hw1]; exact (aJ _).trans (aJ _)
 have z1:w1.heap.size=w.heap.size+2:=by rw [hw1,World.size_alloc,World.size_alloc]
 have l1:w1.cell? ⟨bl,0,none⟩=some (.slice none 0 0):=by rw [hw1,hbl]; exact bX @aA
 have f1:∀ o,w1.frozen? ⟨bl,o,none⟩=false:=fun o=>by rw [hw1,hbl]; simp (disch:=first | exact dZ | fail) only [go_sem]
 rw [← hw1,← hbl]
 have hsl:xh x:=⟨by have:=ok.s; omega,by have:=ok.e; omega,by have:=ok.l; omega,fun k hk=>⟨by have:=(ok.sh k hk).1; omega,by have:=(ok.sh k hk).2; omega⟩⟩
 refine sB hv hsl (hinc.trans x1.inc) fun d2 w2 sa ea qv g2 i1 hS i2 hE hQ => ?_
 obtain ⟨qa,qc,rfl⟩:=hQ.form
 obtain ⟨saa,sac,rfl⟩:=aY hS
 obtain ⟨eaa,eac,rfl⟩:=aY hE
 have x2:=x1.trans g2.x
 have lc:=g2.x.cell l1
 have lbl:=aC lc
 have obl:cj d2 bl:=g2.o bl (by omega) (hinc.out (by omega))
 obtain ⟨sb,hsb⟩:∃ sb,sb=w2.heap.size:=⟨_,rfl⟩
 obtain ⟨w3,hw3⟩:∃ w3,w3=w2.alloc (.cells #[.slice saa x.s.length sac,.slice eaa x.e.length eac,.slice qa x.ks.length qc,.int .i8 0] 61):=⟨_,rfl⟩
 have x3:bp w2 w3:=by rw [hw3]; exact aJ _
 have z3:w3.heap.size=w2.heap.size+1:=by rw [hw3,World.size_alloc]
 have s0:w3.cell? ⟨sb,0,none⟩=some (.slice saa x.s.length sac):=by rw [hw3,hsb]; exact bX @aA
 have s1:w3.cell? ⟨sb,1,none⟩=some (.slice eaa x.e.length eac):=by rw [hw3,hsb]; exact bX @aA
 have s2:w3.cell? ⟨sb,2,none⟩=some (.slice qa x.ks.length qc):=by rw [hw3,hsb]; exact bX @aA
 obtain ⟨d3,g3,e3⟩:=oq g2.j x3
 have hge:w2.heap.size≤sb:=by omega
 have s0:=e3 _ _ _ hge s0
 have s1:=e3 _ _ _ hge s1
 have s2:=e3 _ _ _ hge s2
 have obl3:cj d3 bl:=g3.o bl lbl obl
 refine bA ?_
 rw [← hw3,← hsb]
 refine al [.tmp 4] func24 ?_
 refine bA ?_
 obtain ⟨be,hbe⟩:∃ be,be=w3.heap.size:=⟨_,rfl⟩
 obtain ⟨w4,hw4⟩:∃ w4,w4=w3.alloc (.cells #[.func (.func 25) #[] #[.pointer (some ⟨bl,0,none⟩)],.slice none 0 0,.slice none 0 0,.slice none 0 0] 105):=⟨_,rfl⟩
 have x4:bp w3 w4:=by rw [hw4]; exact aJ _
 have b0:w4.cell? ⟨be,0,none⟩=some (.func (.func 25) #[] #[.pointer (some ⟨bl,0,none⟩)]):=by rw [hw4,hbe]; exact bX @aA
 have b1:w4.cell? ⟨be,1,none⟩=some (.slice none 0 0):=by rw [hw4,hbe]; exact bX @aA
 have b2:w4.cell? ⟨be,2,none⟩=some (.slice none 0 0):=by rw [hw4,hbe]; exact bX @aA
 have b3:w4.cell? ⟨be,3,none⟩=some (.slice none 0 0):=by rw [hw4,hbe]; exact bX @aA
 have fb:∀ o,w4.frozen? ⟨be,o,none⟩=false:=fun o=>by rw [hw4,hbe]; simp (disch:=first | exact dZ | fail) only [go_sem]
 rw [← hw4,← hbe]
 have xw4:bp w w4:=(x2.trans x3).trans x4
 have sz2:=x2.size
 have nn:∀ (P:Nat→Prop) g,(Value.slice none 0 0).ownBlock=some g→P g:=fun P g hg=>by simp [Value.ownBlock] at hg
 have en:En d3 w w4 be bl (.slice none 0 0) (.slice none 0 0) (.slice none 0 0) (.slice none 0 0) [] [] []:={
  x0:=xw4
  i:=g3.j.trans x4.inc
  ob:=g3.j.out (by omega)
  ol:=obl3
  onb:=nn _
  hb:=by omega
  hl:=by omega
  col:=⟨fun b=>if b=be then 1 else 2,if_pos rfl,if_neg (by omega),nn _,nn _,nn _,nn _⟩
  nb:=nn _
  nu:=nn _
  ns:=nn _
  nl:=nn _
  c0:=b0
  c1:=b1
  c2:=b2
  c3:=b3
  f:=fb
  l0:=x4.cell (x3.cell lc)
  fl:=fun o=>by rw [((g2.x.trans x3).trans x4).frozen _ o (aC l1)]; exact f1 o
  bo := .inl rfl
  uo:=⟨[],OwnL.nil cw⟩
  so:=⟨[],OwnL.nil cw⟩
  lo:=⟨[],OwnL.nil cw⟩ }
 refine zt en s0 s1 s2 (hS.inc g3.i) (hE.inc g3.i) (hQ.inc KB.mono g3.i) ok.l (fun k hk=>(ok.fit.1 k hk).1) ok.sh ok.tr ok.e fun w5 bv uv sv lv us ss h5 => ?_
 have l5:=h5.l0
 have f5:=h5.fl
 obtain ⟨css,o5⟩:=h5.lo
 obtain ⟨la,lcp,rfl,_⟩:=o5.form
 have h6:=(h5.ext (Keep.drew (bp.refl w5))).uent (by obtain ⟨css,o⟩:=(h5.ext (Keep.drew (bp.refl w5))).lo; exact ⟨css,o⟩) (Keep.refl _ _) (cZ.refl _ _)
 refine bA ?_
 refine bF (.read 0 (sq [1,2] (.eff 3 [] (sq [4] .done)))) ?_
 refine dO @l5 @f5 ?_
 obtain ⟨css6,o6⟩:=h6.lo
 obtain ⟨d7,g7,_,_,hs7⟩:=o6.grown Gv.mono (d:=d) (w:=w) ⟨h6.x0,(g2.i.trans g3.i),h6.i,fun b hb ho=>g3.o b (by omega) (g2.o b (by omega) ho)⟩ h6.nl
 exact hk d7 _ _ g7 hs7
end
end Go.Proofs
end
section
namespace Go.E
open Go Go.Sort Go.Proofs Go.Proofs.Tryz
open Go.Lib (uvarint uvarint_small uvarint_big)
def nL (w:World) (v:Value) (l:Bytes):Prop:=dR w v l∧∃ a n c,v = .slice a n c∧n≤c
theorem nL.inc {w w2:World} {v:Value} {l:Bytes} (h:nL w v l) (hi:cM w w2):nL w2 v l:=⟨h.1.inc hi,h.2⟩
theorem nL.form {w:World} {v:Value} {l:Bytes} (h:nL w v l):∃ a c,v = .slice a l.length c∧l.length≤c:=by
 obtain ⟨a,c,rfl⟩:=aY h.1
 obtain ⟨a2,n,c2,e,hn⟩:=h.2
 simp only [aU] at e
 obtain ⟨rfl,rfl,rfl⟩:=e
 exact ⟨a,c,rfl,hn⟩
theorem Ep {w:World} {b o c:Nat} {p q r:Bytes} (h:lJ w ⟨b,o,none⟩ (eF (p++(q++r)))):lJ w ⟨b,o+p.length,none⟩ (eF q):=by
 intro i v hv
 have hi:=(aQ.1 hv).1
 rw [cP] at hi
 have:=h (p.length+i) v (by
  unfold eF at hv ⊢
  rw [az,az,bC (by rw [aR]; omega),aR,Nat.add_sub_cancel_left,bR (by rw [aR]; exact hi)]
  exact hv)
 simp only at this ⊢
 rw [show o+p.length+i=o+(p.length+i) by omega]
 exact this
theorem LY {d:World} {v:Value} {p q r:Bytes} (h:nL d v (p++(q++r))) (hp:0 < p.length):∃ A,nL d A q∧∀ k:Value→Prop,cz prog 56 v (some (.int .i64 p.length)) (some (.int .i64 ((p.length+q.length:Nat):Int))) none k=k A:=by
 obtain ⟨a,c,rfl,hc⟩:=h.form
 have hl:(p++(q++r)).length=p.length+(q.length+r.length):=by simp
 rw [hl] at h hc
 cases a with
 | none=>have:=h.1.1; omega
 | some a =>
  obtain ⟨b,o,s⟩:=a
  obtain ⟨hs,_,hr⟩:=h.1
  have hs:s=none:=hs
  subst hs
  refine ⟨.slice (if (c:Int)=p.length then some ⟨b,o,none⟩ else some ⟨b,o+p.length,none⟩) q.length (c - p.length),⟨?_,_,_,_,rfl,by omega⟩,fun k => ?_⟩
  ·by_cases hcp:(c:Int)=p.length
   ·rw [if_pos hcp]
    have:q=[]:=ak.1 (by omega)
    subst this
    exact ⟨rfl,rfl,fun i v hv=>by simp [eF] at hv⟩
   ·rw [if_neg hcp]
    exact ⟨rfl,rfl,Ep (c:=c) hr⟩
  ·rw [hl,eW Tryz.es56 rfl rfl (by omega) (by simp [bd]; omega) (by simp [bd]; omega) (by simp [bd]) (by simp)]
   have e0:(if p=[] then (⟨b,o,none⟩:Addr) else ⟨b,o+p.length,none⟩)=⟨b,o+p.length,none⟩:=if_neg (by rintro rfl; simp at hp)
   have e1:((p.length:Int)+q.length).toNat - p.length=q.length:=by omega
   simp [bd,Addr.add,e0,e1]
theorem LZ {d:World} {v:Value} {p r:Bytes} (h:nL d v (p++r)) (hp:0 < p.length):∃ A,nL d A r∧∀ k:Value→Prop,cz prog 56 v (some (.int .i64 p.length)) none none k=k A:=by
 obtain ⟨a,c,rfl,hc⟩:=h.form
 have hl:(p++r).length=p.length+r.length:=by simp
 rw [hl] at h hc
 cases a with
 | none=>have:=h.1.1; omega
 | some a =>
  obtain ⟨b,o,s⟩:=a
  obtain ⟨hs,_,hr⟩:=h.1
  have hs:s=none:=hs
  subst hs
  refine ⟨.slice (if (c:Int)=p.length then some ⟨b,o,none⟩ else some ⟨b,o+p.length,none⟩) r.length (c - p.length),⟨?_,_,_,_,rfl,by omega⟩,fun k => ?_⟩
  ·by_cases hcp:(c:Int)=p.length
   ·rw [if_pos hcp]
    have:r=[]:=ak.1 (by omega)
    subst this
    exact ⟨rfl,rfl,fun i v hv=>by simp [eF] at hv⟩
   ·rw [if_neg hcp]
    refine ⟨rfl,rfl,?_⟩
    have hr2:lJ d ⟨b,o,none⟩ (eF (p++(r++[]))):=by rw [ao]; exact hr
    exact Ep (c:=c) hr2
  ·rw [hl,eW Tryz.es56 rfl rfl (by omega) (by simp [bd]; omega) (by simp [bd]; omega) (by simp [bd]) (by simp)]
   have e0:(if p=[] then (⟨b,o,none⟩:Addr) else ⟨b,o+p.length,none⟩)=⟨b,o+p.length,none⟩:=if_neg (by rintro rfl; simp at hp)
   have e1:((p.length:Int)+r.length).toNat - p.length=r.length:=by omega
   simp [bd,Addr.add,e0,e1]
theorem H5 {b:Nat} (h:b < 256):IntKind.u64.wrap (IntKind.u8.wrap ((BitVec.ofInt 8 (b:Int) &&& BitVec.ofInt 8 127).toNat:Int))=((b % 128:Nat):Int):=by
 have h1:(BitVec.ofInt 8 (b:Int) &&& BitVec.ofInt 8 127).toNat=b % 128:=by
  rw [BitVec.toNat_and,BitVec.toNat_ofInt,BitVec.toNat_ofInt]
  have e1:((b:Int) % ((2 ^ 8:Nat):Int)).toNat=b:=by rw [show ((2 ^ 8:Nat):Int)=256 from rfl]; omega
  have e2:((127:Int) % ((2 ^ 8:Nat):Int)).toNat=127:=by decide
  rw [e1,e2]
  exact Nat.and_two_pow_sub_one_eq_mod b 7
 rw [h1,show IntKind.u8.wrap ((b % 128:Nat):Int)=((b % 128:Nat):Int) % 256 from rfl,show ((b % 128:Nat):Int) % 256=((b % 128:Nat):Int) by omega]
 exact kB (by omega)
theorem Gx {acc c s:Nat} (ha:acc < 2 ^ s) (hs:s≤35) (hc:c < 128):IntKind.u64.wrap ((BitVec.ofInt 64 (acc:Int) ||| BitVec.ofInt 64 (IntKind.u64.wrap ((c:Int) * 2 ^ min (Int.toNat (s:Int)) 64))).toNat:Int)=((acc+c * 2 ^ s:Nat):Int):=by
 have hp:2 ^ s≤34359738368:=ah (Nat.pow_le_pow_right (by decide) hs) (by decide)
 have hcs:c * 2 ^ s≤127 * 34359738368:=Nat.mul_le_mul (by omega) hp
 have e0:min (Int.toNat (s:Int)) 64=s:=by omega
 have e1:((c:Int) * 2 ^ s)=((c * 2 ^ s:Nat):Int):=by rw [Int.natCast_mul,Int.natCast_pow]; rfl
 have e2:IntKind.u64.wrap ((c * 2 ^ s:Nat):Int)=((c * 2 ^ s:Nat):Int):=kB (by omega)
 rw [e0,e1,e2]
 have h:(BitVec.ofInt 64 (acc:Int) ||| BitVec.ofInt 64 ((c * 2 ^ s:Nat):Int)).toNat=acc+c * 2 ^ s:=by
  rw [BitVec.toNat_or,BitVec.toNat_ofInt,BitVec.toNat_ofInt]
  have e1:((acc:Int) % ((2 ^ 64:Nat):Int)).toNat=acc:=by rw [show ((2 ^ 64:Nat):Int)=18446744073709551616 from rfl]; omega
  have e2:(((c * 2 ^ s:Nat):Int) % ((2 ^ 64:Nat):Int)).toNat=2 ^ s * c:=by rw [show ((2 ^ 64:Nat):Int)=18446744073709551616 from rfl,Nat.mul_comm (2 ^ s) c]; omega
  rw [e1,e2,Nat.or_comm,← Nat.two_pow_add_eq_or_of_lt ha,Nat.mul_comm]
  omega
 rw [h]
 exact kB (by omega)
end Go.E
namespace Go.Proofs
open Go Go.E Go.Sort Go.Proofs.Tryz
open Go.Lib (uvarint uvarint_small uvarint_big)
section
variable {k:aq} {d w:World}
theorem qS {v:Value} {x:Nat} {rest:Bytes} (h:dR d v (uvarint x++rest)) (hx:x < 4294967296) (hinc:cM d w) (hk:k (.tuple #[.int .u64 x,.int .i64 (vl x)]) w):ai prog 80 #[v] k w:=by
 have hb:=h.inc hinc
 have hv:=jT hx
 obtain ⟨L,hL⟩:∃ L,L=uvarint x++rest:=⟨_,rfl⟩
 have hLl:L.length=vl x+rest.length:=by rw [hL,aE]; rfl
 have hvp:=fW x
 rw [← hL] at hb
 obtain ⟨a,c,rfl⟩:=aY hb
 cases a with
 | none=>have:=hb.1; omega
 | some a =>
 obtain ⟨bb,o,s⟩:=a
 obtain ⟨hs,_,hr⟩:=hb
 have hs:s=none:=hs
 subst hs
 refine al [.tmp 2,.tmp 3] func80 ?_
 refine bA ?_
 refine bZ (fun b:Nat × Nat=>[(4,.int .u64 b.2),(5,.int .u64 ((7 * b.1:Nat):Int)),(8,.slice (some ⟨bb,o,none⟩) L.length c),(9,.int .i64 L.length),(10,.int .i64 b.1)])
  (fun b w'=>w'=w∧b.2 < 2 ^ (7 * b.1)∧∃ (dn:Bytes) (y:Nat),dn++uvarint y=uvarint x∧dn.length=b.1∧x=b.2+y * 2 ^ (7 * b.1)) (fun b _=>L.length - b.1) (0,0) (by kernel_rfl) ?_ ⟨rfl,Nat.zero_lt_one,[],x,rfl,rfl,by simp⟩ ?_
 ·exact bU
 rintro K2 e ⟨i,acc⟩ w1 ⟨rfl,i2,dn,y,i3,i4,i5⟩ hK2
 simp only at i2 i4 i5
 have hlen:vl x=i+vl y:=by unfold vl; rw [← i3,aE,i4]
 have hvy:=fW y
 have hi':(i:Int) < L.length:=by omega
 have hi0:(0:Int)≤i:=by omega
 have hget:∀ (t:UInt8) (ts:Bytes),uvarint y=t :: ts→w1.cell? ⟨bb,o+i,none⟩=some (.int .u8 t.toNat):=fun t ts ht=>by
  refine hr i _ ?_
  unfold eF
  rw [hL,← i3,ht,az,az,bR (by simp; omega),bC (by simp [i4]),aR,i4,Nat.sub_self]
  rfl
 have n10:((i:Int) == 10)=false:=by rw [Bool.eq_false_iff]; intro e; have:=eq_of_beq e; omega
 have n9:((i:Int) == 9)=false:=by rw [Bool.eq_false_iff]; intro e; have:=eq_of_beq e; omega
 have e1:IntKind.i64.wrap ((i:Int)+1)=((i+1:Nat):Int):=by rw [dP (by omega) (by omega)]; omega
 rcases aH y 128 with hy | hy
 ·have g0:=hget _ _ (uvarint_small hy)
  have ht:y.toUInt8.toNat=y:=by rw [UInt8.toNat_ofNat']; omega
  rw [ht] at g0
  have hy':(y:Int) < 128:=by omega
  have eo:=Gx (acc:=acc) (c:=y) (s:=7 * i) i2 (by omega) hy
  have e2:i+1=vl x:=by rw [rz hy] at hlen; omega
  refine rS @hi' @g0 @n10 @n9 @hy' @kB @e1 @Nat.mul_one ?_
  have key:∀ W,W=w1→k (.tuple #[.int .u64 (IntKind.u64.wrap ((BitVec.ofInt 64 (acc:Int) ||| BitVec.ofInt 64 (IntKind.u64.wrap ((y:Int) * 2 ^ min (Int.toNat ((7 * i:Nat):Int)) 64))).toNat:Int)),.int .i64 ((i+1:Nat):Int)]) W:=fun W hW=>by
   rw [eo,← i5,e2,hW]; exact hk
  exact key _ rfl
 ·have g0:=hget _ _ (uvarint_big hy)
  have ht:(y % 128+128).toUInt8.toNat=y % 128+128:=by rw [UInt8.toNat_ofNat']; omega
  rw [ht] at g0
  have hy':¬ (((y % 128+128:Nat):Int)) < 128:=by omega
  have hvl:=Dy hy
  have ea:=H5 (b:=y % 128+128) (by omega)
  rw [show (y % 128+128) % 128=y % 128 by omega] at ea
  have eo:=Gx (acc:=acc) (c:=y % 128) (s:=7 * i) i2 (by have:=fW (y / 128); omega) (by omega)
  have es:IntKind.u64.wrap (((7 * i:Nat):Int)+7)=((7 * (i+1):Nat):Int):=by
   rw [show ((7 * i:Nat):Int)+7=((7 * (i+1):Nat):Int) by omega]; exact kB (by omega)
  have hp:(2:Nat) ^ (7 * (i+1))=128 * 2 ^ (7 * i):=by rw [show 7 * (i+1)=7+7 * i by omega,Nat.pow_add]
  have key:∀ (E:de),gm E [(4,.int .u64 (IntKind.u64.wrap ((BitVec.ofInt 64 (acc:Int) ||| BitVec.ofInt 64 (IntKind.u64.wrap ((IntKind.u64.wrap (IntKind.u8.wrap ((BitVec.ofInt 8 (((y % 128+128:Nat)):Int) &&& BitVec.ofInt 8 127).toNat:Int))) * 2 ^ min (Int.toNat ((7 * i:Nat):Int)) 64))).toNat:Int))),(5,.int .u64 ((7 * (i+1):Nat):Int)),(8,.slice (some ⟨bb,o,none⟩) L.length c),(9,.int .i64 L.length),(10,.int .i64 ((i+1:Nat):Int))]→K2 E w1:=fun E hE=>by
   rw [ea,eo] at hE
   refine hK2 _ _ (i+1,acc+y % 128 * 2 ^ (7 * i)) hE ⟨rfl,?_,dn++[(y % 128+128).toUInt8],y / 128,?_,by simp [i4],?_⟩ (by simp only; omega)
   ·simp only
    rw [hp]
    have:y % 128 * 2 ^ (7 * i)≤127 * 2 ^ (7 * i):=bO _ (by omega)
    omega
   ·rw [← i3,uvarint_big hy,ax]; rfl
   ·simp only
    rw [hp,i5]
    have h:y % 128 * 2 ^ (7 * i)+y / 128 * (128 * 2 ^ (7 * i))=y * 2 ^ (7 * i):=by
     rw [← Nat.mul_assoc,← Nat.add_mul]
     congr 1
     omega
    omega
  refine vJ @hi' @g0 @n10 @hy' @es @e1 @Nat.mul_one ?_
  refine key _ ?_
  refine bu @Nat.mul_one ?_
  rfl
theorem GH (x:Nat):(uvarint x).length=vl x:=rfl
theorem nN {v:Value} {s rest:Bytes} (h:nL d v (uvarint s.length++(s++rest))) (hs:s.length≤1048576) (hinc:cM d w) (hk:∀ w2 a b,bp w w2→nL d a s→nL d b rest→k (.tuple #[a,b,.bool true]) w2):ai prog 84 #[v] k w:=by
 have hv:=jT (x:=s.length) (by omega)
 have hvp:=fW s.length
 obtain ⟨A,hA,eA⟩:=LY h (by rw [GH]; omega)
 have h2:nL d v ((uvarint s.length++s)++rest):=by rw [ax]; exact h
 obtain ⟨B,hB,eB⟩:=LZ h2 (by rw [aE,GH]; omega)
 rw [aE] at eB
 rw [GH] at eA eB
 obtain ⟨a,c,rfl,_⟩:=h.form
 refine al [.tmp 2,.tmp 3,.tmp 4] func84 ?_
 refine bA ?_
 refine qS h.1 (by omega) hinc ?_
 have e1:¬ ((vl s.length:Nat):Int)≤0:=by omega
 have e2:IntKind.i64.wrap (s.length:Int)=(s.length:Int):=Jh (by omega)
 refine bu @e1 ?_
 refine bF (sq [0,1,2,3,4,5,6,7,8,9,10,11,12,13,14,15] .done) ?_
 simp (disch:=first | exact dZ | fail) only [go_sem,e2,fX,eA,eB]
 exact hk _ _ _ (Keep.drew (bp.refl w)) hA hB
theorem CV {v:Value} {x:Bytes × Bytes} {rest:Bytes} (h:nL d v (vg x++rest)) (hs:Hp x) (hinc:cM d w) (hk:∀ w2 a b r,bp w w2→nL d a x.1→nL d b x.2→nL d r rest→k (.tuple #[.agg #[a,b],r,.bool true]) w2):ai prog 52 #[v] k w:=by
 have h1:nL d v (uvarint x.1.length++(x.1++(uvarint x.2.length++(x.2++rest)))):=by
  unfold vg at h
  simpa only [ax] using h
 obtain ⟨a,c,rfl,_⟩:=h1.form
 refine al [.cell 2 113,.tmp 3,.tmp 4] func52 ?_
 refine bA ?_
 have x1:bp w (w.alloc (.cells #[.slice none 0 0,.slice none 0 0] 113)):=aJ _
 refine nN h1 hs.1 (hinc.trans x1.inc) fun w2 A R x2 hA hR => ?_
 obtain ⟨Aa,Ac,rfl,_⟩:=hA.form
 obtain ⟨Ra,Rc,rfl,_⟩:=hR.form
 have xx:=x1.trans x2
 obtain ⟨N,hN⟩:∃ N,N=w.heap.size:=⟨_,rfl⟩
 have p0:w2.cell? ⟨N,0,none⟩=some (.slice none 0 0):=x2.cell (by rw [hN]; exact bX @aA)
 have p1:w2.cell? ⟨N,1,none⟩=some (.slice none 0 0):=x2.cell (by rw [hN]; exact bX @aA)
 have pf:∀ o,w2.frozen? ⟨N,o,none⟩=false:=fun o=>by rw [x2.frozen _ o (by rw [hN,World.size_alloc]; omega),hN]; simp (disch:=first | exact dZ | fail) only [go_sem]
 rw [← hN]
 refine dO @p0 @pf ?_
 refine nN hR hs.2 ?_ fun w3 B S x3 hB hS => ?_
 ·exact (hinc.trans xx.inc).set (hinc.out (by omega))
 obtain ⟨Ba,Bc,rfl,_⟩:=hB.form
 obtain ⟨Sa,Sc,rfl,_⟩:=hS.form
 have r0:=x3.cell (E.setC (u := .slice Aa x.1.length Ac) p0)
 have r1:=x3.cell (E.othC (u := .slice Aa x.1.length Ac) p1 (b2:=N) (o2:=0) (.inr (by decide)))
 have rf:∀ o,w3.frozen? ⟨N,o,none⟩=false:=fun o=>by rw [x3.frozen _ o (by rw [World.size_setCell]; exact aC p0),World.frozen?_setCell]; exact pf o
 refine dQ @r0 @r1 @rf ?_
 refine hk _ _ _ _ ?_ hA hB hS
 exact aj (aj (aj ((aj xx (by omega)).trans x3) (by omega)) (by omega)) (by omega)
theorem zu {v:Value} {x:Bytes} {rest:Bytes} (h:nL d v (vh x++rest)) (hs:Hq x) (hinc:cM d w) (hk:∀ w2 a r,bp w w2→nL d a x→nL d r rest→k (.tuple #[a,r,.bool true]) w2):ai prog 53 #[v] k w:=by
 have h1:nL d v (uvarint x.length++(x++rest)):=by
  unfold vh at h
  simpa only [ax] using h
 obtain ⟨a,c,rfl,_⟩:=h1.form
 refine al [.tmp 2,.tmp 3,.tmp 4] func53 ?_
 refine bA ?_
 refine nN h1 hs hinc fun w2 A R x2 hA hR => ?_
 refine bA ?_
 exact hk _ _ _ x2 hA hR
theorem sZ {v:Value} {q:Nat} {en rest:Bytes} (h:nL d v (uvarint en.length++(en++rest))) (hs:en.length≤1048576) (hr:0 < rest.length) (hrl:rest.length≤4294967296) (hq:q=21∨q=20) (hinc:cM d w) (hk:∀ w2 a b,bp w w2→nL d a en→nL d b rest→k (.tuple #[a,b,.bool true]) w2):ai prog 49 #[.int .u8 q,v] k w:=by
 have hv:=jT (x:=en.length) (by omega)
 have hvp:=fW en.length
 have hl:(uvarint en.length++(en++rest)).length=vl en.length+en.length+rest.length:=by rw [aE,aE,GH]; omega
 obtain ⟨A,hA,eA⟩:=LY h (by rw [GH]; omega)
 have h2:nL d v ((uvarint en.length++en)++rest):=by rw [ax]; exact h
 obtain ⟨B,hB,eB⟩:=LZ h2 (by rw [aE,GH]; omega)
 rw [aE] at eB
 rw [GH] at eA eB
 obtain ⟨a,c,rfl,_⟩:=h.form
 rw [hl] at eA eB
 have e1:¬ ((vl en.length:Nat):Int)≤0:=by omega
 have e2:IntKind.i64.wrap (en.length:Int)=(en.length:Int):=Jh (by omega)
 have e3:IntKind.u64.wrap ((vl en.length:Nat):Int)=((vl en.length:Nat):Int):=kB (by omega)
 have e4:IntKind.u64.wrap (((vl en.length:Nat):Int)+(en.length:Int))=((vl en.length+en.length:Nat):Int):=by rw [← Int.natCast_add]; exact kB (by omega)
 have e5:IntKind.u64.wrap ((vl en.length+en.length+rest.length:Nat):Int)=((vl en.length+en.length+rest.length:Nat):Int):=kB (by omega)
 have e6:¬ ((vl en.length+en.length+rest.length:Nat):Int)≤((vl en.length+en.length:Nat):Int):=by omega
 have hU:∀ K2:aq,K2 (.tuple #[.int .u64 en.length,.int .i64 (vl en.length)]) w→ai prog 80 #[.slice a (uvarint en.length++(en++rest)).length c] K2 w:=fun K2 hK=>qS h.1 (by omega) hinc hK
 rw [hl] at hU
 rw [hl]
 refine al [.tmp 4,.tmp 5,.tmp 6] func49 ?_
 rcases hq with rfl | rfl
 ·have q1:(((21:Nat):Int) == 19)=false:=by decide
  have q2:(((21:Nat):Int) == 21)=true:=by decide
  refine dO @q1 @q2 ?_
  refine hU _ ?_
  refine qh @e1 @e2 @e3 @e4 @e5 @e6 ?_
  refine bF (sq [0,1,2,3,4,5,6,7,8,9,10,11,12,13,14] .done) ?_
  simp (disch:=first | exact dZ | fail) only [go_sem,e2,fX,eA,eB]
  exact hk _ _ _ (Keep.drew (bp.refl w)) hA hB
 ·have q1:(((20:Nat):Int) == 19)=false:=by decide
  have q2:(((20:Nat):Int) == 21)=false:=by decide
  have q3:(((20:Nat):Int) == 20)=true:=by decide
  refine dQ @q1 @q2 @q3 ?_
  refine hU _ ?_
  refine qh @e1 @e2 @e3 @e4 @e5 @e6 ?_
  refine bF (sq [0,1,2,3,4,5,6,7,8,9,10,11,12,13,14] .done) ?_
  simp (disch:=first | exact dZ | fail) only [go_sem,e2,fX,eA,eB]
  exact hk _ _ _ (Keep.drew (bp.refl w)) hA hB
end
end Go.Proofs
end
section
namespace Go.E
open Go Go.Sort Go.Proofs Go.Proofs.Tryz
open Go.Lib (uvarint)
structure DecOk (f:Sp) (t:Nat):Prop where
 s:f.s.length≤1048576
 e:f.e.length≤1048576
 l:f.ks.length≤40
 sh:∀ k ∈ f.ks,k.suf.length≤1048576∧k.val.length≤1048576
 tl:t < 18446744073709551616
 tr:∀ k ∈ f.ks,k.tr=t
 ne:f.ks≠[]
 kd:au t=21∨(au t=20∧∀ k ∈ f.ks,k.val=[])∨(au t=19∧f.ks=[⟨t,[],[]⟩])
theorem DecOk.hd {f:Sp} {t:Nat} (h:DecOk f t):f.ks.head!.tr=t:=by
 obtain ⟨z,l,e⟩:=List.exists_cons_of_ne_nil h.ne
 have:=h.tr z (by rw [e]; exact aK)
 rw [e]; exact this
theorem GI {x:Sp} (ok:EncOk x):∀ f ∈ fT x,∃ t,DecOk f t:=by
 have hfl:∀ (cur:List K) (q:Nat),(∀ y ∈ cur,y ∈ x.ks∧y.tr / 256=q)→cur.length≤40→∀ f ∈ dI x cur,∃ t,DecOk f t:=by
  intro cur q hm hlen f hf
  have h1:∀ y ∈ cur,y.tr / 256=q:=fun y hy=>(hm y hy).2
  have flt:∀ (p:K→Bool) (n:Nat),(∀ y,p y=true→au y.tr=n)→cur.filter p≠[]→(au (q * 256+n)=21∨(au (q * 256+n)=20∧∀ k ∈ cur.filter p,k.val=[]))→DecOk ⟨x.s,x.e,cur.filter p⟩ (q * 256+n):=by
   intro p n hp hne hkd
   have ht:∀ k ∈ cur.filter p,k.tr=q * 256+n:=fun k hk=>by
    obtain ⟨m1,m2⟩:=bH.1 hk
    have a1:=h1 k m1
    have a2:=hp k m2
    unfold au at a2
    omega
   refine ⟨ok.s,ok.e,ah (bN _ _) hlen,fun k hk=>ok.sh k (hm k (bH.1 hk).1).1,?_,ht,hne,hkd.imp id .inl⟩
   obtain ⟨z,l,e⟩:=List.exists_cons_of_ne_nil hne
   have hz:z ∈ cur.filter p:=by rw [e]; exact aK
   rw [← ht z hz]
   exact ok.tr z (hm z (bH.1 hz).1).1
  unfold dI at hf
  rcases aS.1 hf with hf | hf
  ·rcases aS.1 hf with hf | hf
   ·split at hf
    ·simp at hf
    ·rename_i h0
     rw [aM.1 hf]
     exact ⟨_,flt qq 21 (fun y hy=>by simpa [qq] using hy) h0 (.inl (by unfold au; omega))⟩
   ·split at hf
    ·simp at hf
    ·rename_i h0
     rw [aM.1 hf]
     refine ⟨_,flt qQ 20 (fun y hy=>by simpa [qQ] using hy) h0 (.inr ⟨by unfold au; omega,fun k hk => ?_⟩)⟩
     obtain ⟨m1,m2⟩:=bH.1 hk
     exact (ok.fit.1 k (hm k m1).1).2.1 (by simpa [qQ] using m2)
  ·split at hf
   ·simp at hf
   ·rename_i h0
    have ht:=rB (p:=kJ) (n:=19) h1 (fun x hx=>by simpa [kJ] using hx) h0
    rw [aM.1 hf,ht]
    refine ⟨q * 256+19,ok.s,ok.e,by simp,fun k hk=>by rw [aM.1 hk]; simp,?_,fun k hk=>by rw [aM.1 hk],by simp,.inr (.inr ⟨by unfold au; omega,rfl⟩)⟩
    rw [← ht]
    obtain ⟨z,l,e⟩:=List.exists_cons_of_ne_nil h0
    have hz:z ∈ cur.filter kJ:=by rw [e]; exact aK
    rw [e]
    exact ok.tr z (hm z (bH.1 hz).1).1
 have key:∀ i,i≤x.ks.length→(∀ f ∈ (dL x i).1,∃ t,DecOk f t)∧∃ q,(∀ y ∈ (dL x i).2,y ∈ x.ks∧y.tr / 256=q)∧(dL x i).2.length≤i:=by
  intro i
  induction i with
  | zero=>intro _; exact ⟨by simp [dL],0,by simp [dL],by simp [dL]⟩
  | succ i ih =>
   intro hi
   obtain ⟨h1,q,h2,h3⟩:=ih (by omega)
   obtain ⟨y,hy⟩:∃ y,x.ks[i]? = some y:=⟨_,aD (by omega)⟩
   have hmem:=aO hy
   rw [um hy]
   unfold fI
   by_cases hc:(dL x i).2≠[]∧(dL x i).2.head!.tr / 256=y.tr / 256
   ·rw [if_pos hc]
    refine ⟨h1,q,fun z hz => ?_,by simp; omega⟩
    rcases aS.1 hz with hz | hz
    ·exact h2 z hz
    ·rw [aM.1 hz]
     refine ⟨hmem,?_⟩
     obtain ⟨a,l,e⟩:=List.exists_cons_of_ne_nil hc.1
     have ha:=(h2 a (by rw [e]; exact aK)).2
     have:=hc.2
     rw [e] at this
     have this:a.tr / 256=y.tr / 256:=this
     omega
   ·rw [if_neg hc]
    refine ⟨fun f hf => ?_,y.tr / 256,fun z hz=>by rw [aM.1 hz]; exact ⟨hmem,rfl⟩,by simp⟩
    rcases aS.1 hf with hf | hf
    ·exact h1 f hf
    ·exact hfl _ q h2 (by have:=ok.l; omega) f hf
 intro f hf
 obtain ⟨h1,q,h2,h3⟩:=key x.ks.length (aF _)
 have e1:fT x=(dL x x.ks.length).1++dI x (dL x x.ks.length).2:=by unfold fT dL; rw [ag]
 rw [e1] at hf
 rcases aS.1 hf with hf | hf
 ·exact h1 f hf
 ·exact hfl _ q h2 (by have:=ok.l; omega) f hf
theorem sd {k:aq} {d w:World} {s:Bytes} (hinc:cM d w) (hs:s.length≤4294967296) (hk:∀ d2 w2 v,Gr d w d2 w2→nL d2 v s→k v w2):FY prog 9 56 (.string ⟨s.toArray⟩) k w:=by
 have h1:dH prog (convert 9 56 (.string ⟨s.toArray⟩)) (fun v w2=>(∃ d2,Gr d w d2 w2∧dR d2 v s)) w:=by
  have:=dY (w:=w) (q:=fun v w2=>∃ d2,Gr d w d2 w2∧dR d2 v s) hinc hs fun d2 w2 a n c g b=>⟨d2,g,b⟩
  unfold FY at this
  exact this
 have h2:∀ v w2,(convert 9 56 (.string ⟨s.toArray⟩)).run prog w = .ok v w2→∃ a n c,v = .slice a n c∧n≤c:=by
  intro v w2 hr
  have hr2:(convert 9 56 (.string ⟨s.toArray⟩)).run prog w = .ok (.slice (some ⟨w.heap.size,0,none⟩) (⟨s.toArray⟩:ByteArray).size (grownCap w (⟨s.toArray⟩:ByteArray).size 0 5))
   ((w.drew.alloc (.cells ((⟨s.toArray⟩:ByteArray).data.map (fun b=>Value.int .u8 b.toNat)++Array.replicate (grownCap w (⟨s.toArray⟩:ByteArray).size 0 5 - (⟨s.toArray⟩:ByteArray).size) (.int .u8 0)) 5)).freeze ⟨w.heap.size,((⟨s.toArray⟩:ByteArray).data.map (fun b=>Value.int .u8 b.toNat)++Array.replicate (grownCap w (⟨s.toArray⟩:ByteArray).size 0 5 - (⟨s.toArray⟩:ByteArray).size) (Value.int .u8 0)).size,none⟩ 1):=by
   have hsh:∀ (w:World) (c:Array Value),(w.alloc (.cells c 5)).shape? w.heap.size=some (5,c.size):=fun w c=>by unfold World.shape?; rw [heap_alloc_new]
   have hsd:∀ (c:Array Value),(w.drew.alloc (.cells c 5)).shape? w.heap.size=some (5,c.size):=fun c=>hsh w.drew c
   simp [convert,run_underlying Tryz.underlying9,run_underlying Tryz.underlying56,run_underlying Tryz.underlying5,Conv.stringToBytes,newRow,markStringish,grownCap,hsd,Question.forced]
  rw [hr2] at hr
  simp only [Result.ok.injEq] at hr
  exact ⟨_,_,_,hr.1.symm,grownCap_ge ..⟩
 unfold FY
 unfold dH at h1 ⊢
 split
 ·rename_i v w2 hr
  rw [hr] at h1
  obtain ⟨d2,g,b⟩:=h1
  exact hk d2 w2 v g ⟨b,h2 v w2 hr⟩
 ·rename_i hr
  rw [hr] at h1
  exact h1
end Go.E
end
section
namespace Go.E
open Go Go.Sort Go.Proofs Go.Proofs.Tryz
structure DcS (d w w1:World) (N:Nat) (ka ea kv:Value) (t:Nat):Prop where
 x:bp w w1
 i:cM d w1
 hN:w.heap.size≤N
 sz:N+3≤w1.heap.size
 on:∀ b,N≤b→cj d b
 n0:w1.cell? ⟨N,0,none⟩=some ka
 n1:w1.cell? ⟨N,1,none⟩=some (.int .u64 t)
 s0:w1.cell? ⟨N+2,0,none⟩=some ka
 s1:w1.cell? ⟨N+2,1,none⟩=some ea
 s2:w1.cell? ⟨N+2,2,none⟩=some kv
 s3:w1.cell? ⟨N+2,3,none⟩=some (.int .i8 0)
 r0:w1.cell? ⟨N+1,0,none⟩=some (.slice none 0 0)
 r1:w1.cell? ⟨N+1,1,none⟩=some (.slice none 0 0)
 r2:w1.cell? ⟨N+1,2,none⟩=some (.slice none 0 0)
 r3:w1.cell? ⟨N+1,3,none⟩=some (.int .i8 0)
 fr:∀ o,w1.frozen? ⟨N+1,o,none⟩=false
 fs:∀ o,w1.frozen? ⟨N+2,o,none⟩=false
section
variable {d w w1 w2:World} {N t:Nat} {ka ea kv v:Value}
theorem DcS.keep {M:Nat→Nat→Prop} (h:DcS d w w1 N ka ea kv t) (k:Keep M w1 w2) (hm:∀ b o,M b o→N+3≤b):DcS d w w2 N ka ea kv t:=by
 have sz:=h.sz
 have hN:=h.hN
 exact {
  x:=h.x.tr k fun b o hb hM=>by have:=hm b o hM; omega
  i:=h.i.keep k fun b o hM=>h.on b (by have:=hm b o hM; omega) o
  hN:=hN
  sz:=ah sz k.size
  on:=h.on
  n0:=k.some h.n0 fun hM=>by have:=hm _ _ hM; omega
  n1:=k.some h.n1 fun hM=>by have:=hm _ _ hM; omega
  s0:=k.some h.s0 fun hM=>by have:=hm _ _ hM; omega
  s1:=k.some h.s1 fun hM=>by have:=hm _ _ hM; omega
  s2:=k.some h.s2 fun hM=>by have:=hm _ _ hM; omega
  s3:=k.some h.s3 fun hM=>by have:=hm _ _ hM; omega
  r0:=k.some h.r0 fun hM=>by have:=hm _ _ hM; omega
  r1:=k.some h.r1 fun hM=>by have:=hm _ _ hM; omega
  r2:=k.some h.r2 fun hM=>by have:=hm _ _ hM; omega
  r3:=k.some h.r3 fun hM=>by have:=hm _ _ hM; omega
  fr:=fun o=>by rw [k.frozen _ o (by omega)]; exact h.fr o
  fs:=fun o=>by rw [k.frozen _ o (by omega)]; exact h.fs o }
theorem DcS.ext (h:DcS d w w1 N ka ea kv t) (x:bp w1 w2):DcS d w w2 N ka ea kv t:=h.keep x fun _ _ h=>h.elim
theorem DcS.setE (h:DcS d w w1 N ka ea kv t):DcS d w (w1.setCell ⟨N+2,1,none⟩ v) N ka v kv t where
 x:=aj h.x (by have:=h.hN; omega)
 i:=h.i.set (h.on _ (by omega))
 hN:=h.hN
 sz:=by rw [World.size_setCell]; exact h.sz
 on:=h.on
 n0:=othC h.n0 (by omega)
 n1:=othC h.n1 (by omega)
 s0:=othC h.s0 (by omega)
 s1:=setC h.s1
 s2:=othC h.s2 (by omega)
 s3:=othC h.s3 (by omega)
 r0:=othC h.r0 (by omega)
 r1:=othC h.r1 (by omega)
 r2:=othC h.r2 (by omega)
 r3:=othC h.r3 (by omega)
 fr o:=by rw [World.frozen?_setCell]; exact h.fr o
 fs o:=by rw [World.frozen?_setCell]; exact h.fs o
theorem DcS.setK (h:DcS d w w1 N ka ea kv t):DcS d w (w1.setCell ⟨N+2,2,none⟩ v) N ka ea v t where
 x:=aj h.x (by have:=h.hN; omega)
 i:=h.i.set (h.on _ (by omega))
 hN:=h.hN
 sz:=by rw [World.size_setCell]; exact h.sz
 on:=h.on
 n0:=othC h.n0 (by omega)
 n1:=othC h.n1 (by omega)
 s0:=othC h.s0 (by omega)
 s1:=othC h.s1 (by omega)
 s2:=setC h.s2
 s3:=othC h.s3 (by omega)
 r0:=othC h.r0 (by omega)
 r1:=othC h.r1 (by omega)
 r2:=othC h.r2 (by omega)
 r3:=othC h.r3 (by omega)
 fr o:=by rw [World.frozen?_setCell]; exact h.fr o
 fs o:=by rw [World.frozen?_setCell]; exact h.fs o
end
theorem mU {l:List (Bytes × Bytes)} {i:Nat} {x:Bytes × Bytes} (h:l[i]? = some x):eZ (l.drop i)=vg x++eZ (l.drop (i+1)):=by
 rw [cV (aQ.1 h).1,(aQ.1 h).2]
 unfold eZ; rw [ae]
theorem mV {l:List Bytes} {i:Nat} {x:Bytes} (h:l[i]? = some x):eN (l.drop i)=vh x++eN (l.drop (i+1)):=by
 rw [cV (aQ.1 h).1,(aQ.1 h).2]
 unfold eN; rw [ae]
end Go.E
namespace Go.Proofs
open Go Go.E Go.Sort Go.Proofs.Tryz
open Go.Lib (uvarint)
section
variable {k:aq} {d w:World}
theorem lE {ka:Value} {a:Option Addr} {n c t:Nat} (hka:ka = .slice a n c) (ht:t < 18446744073709551616) (hk:∀ w',bp w w'→k (.int .u8 (au t)) w'):ai prog 50 #[.agg #[ka,.int .u64 t]] k w:=by
 subst hka
 have e:∀ {ty:TypeId} {xo yo:Operand} {q:Value→Prop},ct prog .and ty xo yo (.int .u64 t) (.int .u64 255) q=q (.int .u64 (t % 256:Nat)):=by
  intro ty xo yo q
  have:=mO (P:=prog) (t:=ty) (xo:=xo) (yo:=yo) (q:=q) (a:=t) (b:=255) ht (by decide)
  rw [Dp] at this
  exact this
 have e8:IntKind.u8.wrap ((t % 256:Nat):Int)=(au t:Nat):=by
  unfold au
  rw [show IntKind.u8.wrap ((t % 256:Nat):Int)=((t % 256:Nat):Int) % 256 from rfl]
  omega
 refine al [.tmp 2] func50 ?_
 refine bA ?_
 refine al [.tmp 2] func81 ?_
 refine dO @e @e8 ?_
 exact hk _ (aJ _)
theorem pC {u v:Bytes} {tr:Int} (hinc:cM d w) (hu:u.length≤4294967296) (hk:∀ d2 w2 ka,Gr d w d2 w2→dR d2 ka u→rY ka=true→k (.agg #[ka,.int .u64 tr]) w2):ai prog 29 #[.agg #[.string ⟨u.toArray⟩,.int .u64 tr,.string ⟨v.toArray⟩]] k w:=by
 refine al [.cell 2 68] func29 ?_
 refine bA ?_
 obtain ⟨N,hN⟩:∃ N,N=w.heap.size:=⟨_,rfl⟩
 obtain ⟨w1,hw1⟩:∃ w1,w1=(w.alloc (.cells #[.string ⟨u.toArray⟩,.int .u64 tr,.string ⟨v.toArray⟩] 40)).alloc (.cells #[.slice none 0 0,.int .u64 0] 68):=⟨_,rfl⟩
 have x1:bp w w1:=by rw [hw1]; exact (aJ _).trans (aJ _)
 have z1:w1.heap.size=N+2:=by rw [hw1,hN,World.size_alloc,World.size_alloc]
 have p1:w1.cell? ⟨N,1,none⟩=some (.int .u64 tr):=by rw [hw1,hN]; exact bX @aA
 have q0:w1.cell? ⟨N+1,0,none⟩=some (.slice none 0 0):=by rw [hw1,hN]; exact bX @aA
 have q1:w1.cell? ⟨N+1,1,none⟩=some (.int .u64 0):=by rw [hw1,hN]; exact bX @aA
 have fq:∀ o,w1.frozen? ⟨N+1,o,none⟩=false:=fun o=>by rw [hw1,hN]; simp (disch:=first | exact dZ | fail) only [go_sem]
 rw [← hw1,← hN]
 refine dY (hinc.trans x1.inc) hu fun d2 w2 a n c g2 b2 => ?_
 obtain ⟨a',c',e⟩:=aY b2
 have p1:=g2.x.cell p1
 have q0:=g2.x.cell q0
 have q1:=g2.x.cell q1
 have fq2:∀ o,w2.frozen? ⟨N+1,o,none⟩=false:=fun o=>by rw [g2.x.frozen _ o (by omega)]; exact fq o
 refine eO @p1 @q0 @q1 @fq2 ?_
 have ho:cj d2 (N+1):=g2.o _ (by omega) (hinc.out (by omega))
 exact hk d2 _ _ ⟨aj (aj (x1.trans g2.x) (by omega)) (by omega),g2.i,(g2.j.set ho).set ho,fun b hb hb2=>g2.o b (by omega) hb2⟩ b2 rfl
end
end Go.Proofs
end
