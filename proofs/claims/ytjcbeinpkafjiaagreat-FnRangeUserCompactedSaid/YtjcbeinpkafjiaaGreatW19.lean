/- Parts of the proof: Wb, Wc, We. -/
import Derived.Test.YtjcbeinpkafjiaaGreatW18
set_option linter.all false
set_option maxRecDepth 10000
section
namespace Go.E
open Go Go.Sort Go.Proofs Go.Proofs.Tryz
section cuts
variable {N:Nat} {P:Program} {st:List SI} {rs:List ResultVar} {k:au} {e:dy} {w:World}
theorem H5 {a b y:Code} {t:Bool} {id:Nat} {β:Type} (sl:β→List (Nat × Value)) (J:β→World→Prop) (ha:eC N (.block id a)=true) (hb:eC N (.block id b)=true)
    (hx:∀ K:dy→World→Prop,(∀ (e:dy) w b,iO e (sl b)→J b w→K e w)→rN N P (.bool t) a b (.block id :: .inv K :: st) rs k e w)
    (hy:∀ (e:dy) b w,J b w→iN N P y st rs k (qi e (sl b)) w):rN N P (.bool t) a b (.block id :: .code y :: st) rs k e w:=by
 cases t
 ·rw [jg,← iS,← ly]
  exact sj sl J hb (fun K hK=>by have:=hx K hK; rwa [jg,← iS] at this) hy
 ·rw [kp,← iS,← ly]
  exact sj sl J ha (fun K hK=>by have:=hx K hK; rwa [kp,← iS] at this) hy
end cuts
def tm (op:Nat) (got:Bool) (last:Nat):Bool :=
 if op=0∨op=1∨op=4∨op=5 then true else if op=2 then got || decide (last=5) || decide (last=3) else if op=3 then got || decide (last=4) || decide (last=2) else false
def mv (V:List Sp) (p:Int) (op:Nat) (key:Bytes):Int :=
 if op=0 then 0 else if op=1 then V.length - 1 else if op=2 then p+1 else if op=3 then p - 1 else if op=4 then cv V key else dt V key
def BF (V:List Sp) (p:Int):Bool:=decide (0≤p∧p < V.length)
def pX (V:List Sp):Int→Bool→Nat→List (Nat × Bytes)→List (Option Int)
 | _,_,_,[]=>[]
 | p,got,last,(op,key) :: r=>if tm op got last then some (mv V p op key) :: pX V (mv V p op key) (BF V (mv V p op key)) op r else none :: pX V p got last r
def DA:iK (Nat × Bytes):=fun _ cs x=>cs=[.int .u8 x.1,str x.2]∧x.1 < 256
theorem DA.mono:iP DA:=fun _ _ _ _ _ h=>h
structure An where
 dn:Bool
 ok:Bool
 sp:Sp
 deriving Inhabited
def yx:iK An:=fun w cs x=>∃ v,cs=[.bool x.dn,.bool x.ok,str x.sp.s,str x.sp.e,v]∧Sl KE 3 w v x.sp.ks
theorem yx.mono:iP yx:=fun _ _ _ _ hi ⟨v,h1,h2⟩=>⟨v,h1,h2.inc KE.mono hi⟩
def nE (V:List Sp) (KS:List K→Prop) (o:Option Int) (a:An):Prop:=match o with
 | none=>a=⟨false,false,⟨[],[],[]⟩⟩
 | some p=>a.dn=true∧a.ok=BF V p∧(∀ i:Nat,p=i→i < V.length→a.sp.s=V[i]!.s∧a.sp.e=V[i]!.e∧a.sp.ks.map K.sv=V[i]!.ks.map K.sv∧KS a.sp.ks)∧(BF V p=false→a.sp=⟨[],[],[]⟩)
def I8 (V:List Sp) (KS:List K→Prop) (w:World) (v:Value) (p:Int):Prop :=
 (∀ i:Nat,p=i→i < V.length→∃ b o x,v = .pointer (some ⟨b,o,none⟩)∧iH 1 w b o x∧x.s=V[i]!.s∧x.e=V[i]!.e∧x.ks.map K.sv=V[i]!.ks.map K.sv∧KS x.ks)∧(¬ (0≤p∧p < V.length)→v = .pointer none)
def WK (V:List Sp) (KS:List K→Prop) (R:World→(Nat→Prop)→Int→Prop) (w:World) (N:Nat→Prop) (p:Int) (k:au):Prop :=
 ∀ w2 N2 v,R w2 N2 p→(∀ b,N2 b→N b∨w.heap.size≤b)→Keep (fun b _=>N b) w w2→I8 V KS w2 v p→k v w2
structure WI (recv:Value) (d:World) (V:List Sp) (pF pL:Prop) (pK:Bytes→Prop) (KS:List K→Prop) (R:World→(Nat→Prop)→Int→Prop):Prop where
 small:∀ i,i < V.length→V[i]!.ks.length < 1000000
 lt:∀ {w N p},R w N p→∀ b,N b→b < w.heap.size∧cx d b
 inc:∀ {w N p},R w N p→cN d w
 keep:∀ {w w2 N p M},R w N p→Keep M w w2→(∀ b x,b < w.heap.size→M b x→¬ N b∧cx d b)→R w2 N p
 first : ∀ {w N p k}, R w N p → pF → WK V KS R w N 0 k → cn prog recv "First" #[] k w
 last : ∀ {w N p k}, R w N p → pL → WK V KS R w N (V.length - 1) k → cn prog recv "Last" #[] k w
 next : ∀ {w N p k}, R w N p → -1 ≤ p → p < V.length → WK V KS R w N (p + 1) k → cn prog recv "Next" #[] k w
 prev : ∀ {w N p k}, R w N p → -1 < p → p ≤ V.length → WK V KS R w N (p - 1) k → cn prog recv "Prev" #[] k w
 seekGE : ∀ {w N p k kv key}, R w N p → pK key → eN w kv key → B5 kv (fun b => ¬ N b) → WK V KS R w N (cv V key) k → cn prog recv "SeekGE" #[kv] k w
 seekLT : ∀ {w N p k kv key}, R w N p → pK key → eN w kv key → B5 kv (fun b => ¬ N b) → WK V KS R w N (dt V key) k → cn prog recv "SeekLT" #[kv] k w
def Pw {α β:Type} (R:α→β→Prop) (l:List α) (m:List β):Prop:=l.length=m.length∧∀ (i:Nat) (x:α) (y:β),l[i]? = some x→m[i]? = some y→R x y
theorem Pw.snoc {α β:Type} {R:α→β→Prop} {l:List α} {m:List β} {x:α} {y:β} (h:Pw R l m) (hx:R x y):Pw R (l++[x]) (m++[y]):=by
 refine ⟨by simp [h.1],fun i a b ha hb => ?_⟩
 have hl:=(aR.1 ha).1
 rw [aJ,ar] at hl
 rcases aG i l.length with hi | hi
 ·rw [bV hi] at ha
  rw [bV (by rw [← h.1]; exact hi)] at hb
  exact h.2 i a b ha hb
 ·obtain rfl:i=l.length:=by omega
  rw [bC (aE _),Nat.sub_self] at ha
  rw [h.1,bC (aE _),Nat.sub_self] at hb
  simp only [List.getElem?_cons_zero,aL] at ha hb
  subst ha hb
  exact hx
theorem yy {d a:World} (h:cN d a) {b:Nat} (ho:cx a b):cx d b:=fun o=>by
 cases hc:d.cell? ⟨b,o,none⟩ with
 | none=>rfl
 | some v=>have:=h b o v hc; rw [ho o] at this; simp at this
open Classical in
theorem _root_.Go.E.OwnL.fin {α:Type} {R:iK α} {sz:Nat} {el:TypeId} {a w:World} {v:Value} {l:List α} {css:List (List Value)} (h:OwnL R sz el a w v l css) (hm:iP R) (hi:cN a w) :
    ∃ a2,cN a a2∧cN a2 w∧(∀ b,cx a b→v.ownBlock≠some b→cx a2 b)∧Sl R sz a2 v l:=by
 let D:Nat→Bool:=fun b=>decide (¬ cx a b∨v.ownBlock=some b)
 have hD:∀ b o u,a.cell? ⟨b,o,none⟩=some u→D b=true:=fun b o u hu=>aU (.inl fun ho=>by rw [ho o] at hu; simp at hu)
 have i2:cN a (only w D):=rZ hi D hD
 refine ⟨only w D,i2,rX w D,fun b h1 h2=>rY w D (aF fun h=>h.elim (fun h=>h h1) h2),h.sl hm i2 fun b hb o u hu => ?_⟩
 rw [jQ,show D b=true from aU (.inr hb),if_pos rfl]
 exact hu
structure Wsw (d w:World) (R:World→(Nat→Prop)→Int→Prop) (N0:Nat→Prop) (v:Value) (w1 a:World) (N:Nat→Prop) (p:Int) (l:List An) (css:List (List Value)):Prop where
 R:R w1 N p
 da:cN d a
 aw:cN a w1
 No:∀ b,N b→cx a b
 o:OwnL yx 5 58 a w1 v l css
 on:∀ g,v.ownBlock=some g→¬ N g∧w.heap.size≤g
 k:Keep (fun b _=>N0 b) w w1
 n0:∀ b,N b→N0 b∨w.heap.size≤b
 oa:∀ b,b < w.heap.size→cx d b→cx a b
structure Wsp (V:List Sp) (KS:List K→Prop) (steps:List (Nat × Bytes)) (i:Nat) (got:Bool) (last:Nat) (p:Int) (l:List An) (outs:List (Option Int)):Prop where
 wl:pX V (-2) false 0 steps=outs++pX V p got last (steps.drop i)
 pw:Pw (nE V KS) outs l
 len:l.length=i
 g1:got=true→0≤p∧p < V.length
 g2:got=false→last=5∨last=3→p = -1
 g3:got=false→last=4∨last=2→p=V.length
section
variable {recv:Value} {d w w1 w2 a a2:World} {V:List Sp} {pF pL:Prop} {pK:Bytes→Prop} {KS:List K→Prop} {R:World→(Nat→Prop)→Int→Prop} {N0 N N2:Nat→Prop} {v v2:Value} {p p2:Int} {l:List An} {css:List (List Value)}
theorem Wsw.ext (W:WI recv d V pF pL pK KS R) (s:Wsw d w R N0 v w1 a N p l css) (x:bj w1 w2):Wsw d w R N0 v w2 a N p l css :=
 ⟨W.keep s.R x fun _ _ _ h=>h.elim,s.da,s.aw.trans x.inc,s.No,s.o.ext x,s.on,s.k.tr x fun _ _ _ h=>h.elim,s.n0,s.oa⟩
theorem Wsw.op (W:WI recv d V pF pL pK KS R) (s:Wsw d w R N0 v w1 a N p l css) (h:R w2 N2 p2) (hN:∀ b,N2 b→N b∨w1.heap.size≤b) (hk:Keep (fun b _=>N b) w1 w2):Wsw d w R N0 v w2 a N2 p2 l css where
 R:=h
 da:=s.da
 aw:=s.aw.keep hk fun b o hb=>s.No b hb o
 No b hb:=(hN b hb).elim (s.No b) fun h=>s.aw.out h
 o:=s.o.keep hk fun g hg o h=>(s.on g hg).1 h
 on g hg:=⟨fun h=>(hN g h).elim (s.on g hg).1 fun h=>by have:=(s.o.own.lt g hg).2; omega,(s.on g hg).2⟩
 k:=s.k.tr hk fun b o hb hm=>(s.n0 b hm).elim id fun h=>by omega
 n0 b hb:=(hN b hb).elim (s.n0 b) fun h => .inr (ai s.k.size h)
 oa:=s.oa
theorem Wsw.gr (W:WI recv d V pF pL pK KS R) (s:Wsw d w R N0 v w1 a N p l css) (g:Gr a w1 a2 w2):Wsw d w R N0 v w2 a2 N p l css where
 R:=W.keep s.R g.x fun _ _ _ h=>h.elim
 da:=s.da.trans g.i
 aw:=g.j
 No b hb:=g.o b (W.lt s.R b hb).1 (s.No b hb)
 o:=(s.o.ext g.x).ghost yx.mono g.i fun b hb=>g.o b (s.o.own.lt b hb).2 (s.o.out b hb)
 on:=s.on
 k:=s.k.tr g.x fun _ _ _ h=>h.elim
 n0:=s.n0
 oa b hb ho:=g.o b (aI hb s.k.size) (s.oa b hb ho)
theorem Wsw.app (W:WI recv d V pF pL pK KS R) (s:Wsw d w R N0 v w1 a N p l css) {l2:List An} {css2:List (List Value)} (o:OwnL yx 5 58 a w2 v2 l2 css2) (k:Keep (fun b _=>v.ownBlock=some b) w1 w2) (n:cP w1 v v2) (j:cN a w2):Wsw d w R N0 v2 w2 a N p l2 css2 where
 R:=W.keep s.R k fun b x _ hb=>⟨(s.on b hb).1,yy s.da (s.o.out b hb)⟩
 da:=s.da
 aw:=j
 No:=s.No
 o:=o
 on g hg:=by
  rcases n g hg with h | h
  ·exact s.on g h
  ·exact ⟨fun hn=>by have:=(W.lt s.R g hn).1; omega,ai s.k.size h⟩
 k:=s.k.tr k fun b o hb hm=>by have:=(s.on b hm).2; omega
 n0:=s.n0
 oa:=s.oa
end
end Go.E
namespace Go.Proofs
open Go Go.E Go.Sort Go.Proofs.Tryz
section
variable {k:au} {d w:World}
theorem BG {op last:Nat} {got:Bool} (hk:k (.bool (tm op got last)) w):aX prog 96 #[.int .u8 op,.bool got,.int .u8 last] k w:=by
 have e0:((op:Int) == 0)=decide (op=0):=by rw [bF]; simp
 have e1:((op:Int) == 1)=decide (op=1):=by rw [bF]; simp; omega
 have e2:((op:Int) == 2)=decide (op=2):=by rw [bF]; simp; omega
 have e3:((op:Int) == 3)=decide (op=3):=by rw [bF]; simp; omega
 have e4:((op:Int) == 4)=decide (op=4):=by rw [bF]; simp; omega
 have e5:((op:Int) == 5)=decide (op=5):=by rw [bF]; simp; omega
 have f2:((last:Int) == 2)=decide (last=2):=by rw [bF]; simp; omega
 have f3:((last:Int) == 3)=decide (last=3):=by rw [bF]; simp; omega
 have f4:((last:Int) == 4)=decide (last=4):=by rw [bF]; simp; omega
 have f5:((last:Int) == 5)=decide (last=5):=by rw [bF]; simp; omega
 refine ae [.tmp 6] func96 ?_
 by_cases h0:op=0∨op=1∨op=4∨op=5
 ·have ht:tm op got last=true:=by unfold tm; rw [if_pos h0]
  rw [ht] at hk
  rcases h0 with h | h | h | h
  ·simp (disch:=first | exact dZ | fail) only [go_sem,e0,e1,e2,e3,e4,e5,aU (show op=0 by omega),aF (show ¬ op=1 by omega),aF (show ¬ op=2 by omega),aF (show ¬ op=3 by omega),aF (show ¬ op=4 by omega),aF (show ¬ op=5 by omega)]
   exact hk
  ·simp (disch:=first | exact dZ | fail) only [go_sem,e0,e1,e2,e3,e4,e5,aF (show ¬ op=0 by omega),aU (show op=1 by omega),aF (show ¬ op=2 by omega),aF (show ¬ op=3 by omega),aF (show ¬ op=4 by omega),aF (show ¬ op=5 by omega)]
   exact hk
  ·simp (disch:=first | exact dZ | fail) only [go_sem,e0,e1,e2,e3,e4,e5,aF (show ¬ op=0 by omega),aF (show ¬ op=1 by omega),aF (show ¬ op=2 by omega),aF (show ¬ op=3 by omega),aU (show op=4 by omega),aF (show ¬ op=5 by omega)]
   exact hk
  ·simp (disch:=first | exact dZ | fail) only [go_sem,e0,e1,e2,e3,e4,e5,aF (show ¬ op=0 by omega),aF (show ¬ op=1 by omega),aF (show ¬ op=2 by omega),aF (show ¬ op=3 by omega),aF (show ¬ op=4 by omega),aU (show op=5 by omega)]
   exact hk
 ·by_cases h2:op=2
  ·have ht:tm op got last=(got || decide (last=5) || decide (last=3)):=by unfold tm; rw [if_neg h0,if_pos h2]
   rw [ht] at hk
   cases got <;> cases h5:decide (last=5) <;> cases h3:decide (last=3) <;> simp (disch:=first | exact dZ | fail) only [go_sem,e0,e1,e2,e3,e4,e5,f3,f5,aF (show ¬ op=0 by omega),aF (show ¬ op=1 by omega),aU (show op=2 by omega),aF (show ¬ op=3 by omega),aF (show ¬ op=4 by omega),aF (show ¬ op=5 by omega),h5,h3] <;> simpa [h5,h3] using hk
  ·by_cases h3:op=3
   ·have ht:tm op got last=(got || decide (last=4) || decide (last=2)):=by unfold tm; rw [if_neg h0,if_neg h2,if_pos h3]
    rw [ht] at hk
    cases got <;> cases h5:decide (last=4) <;> cases h3':decide (last=2) <;> simp (disch:=first | exact dZ | fail) only [go_sem,e0,e1,e2,e3,e4,e5,f2,f4,aF (show ¬ op=0 by omega),aF (show ¬ op=1 by omega),aF (show ¬ op=2 by omega),aU (show op=3 by omega),aF (show ¬ op=4 by omega),aF (show ¬ op=5 by omega),h5,h3'] <;> simpa [h5,h3'] using hk
   ·have ht:tm op got last=false:=by unfold tm; rw [if_neg h0,if_neg h2,if_neg h3]
    rw [ht] at hk
    simp (disch:=first | exact dZ | fail) only [go_sem,e0,e1,e2,e3,e4,e5,aF (show ¬ op=0 by omega),aF (show ¬ op=1 by omega),aF (show ¬ op=2 by omega),aF (show ¬ op=3 by omega),aF (show ¬ op=4 by omega),aF (show ¬ op=5 by omega)]
    exact hk
set_option maxHeartbeats 1000000 in
theorem tE {rt:TypeId} {rv sv:Value} {V:List Sp} {pF pL:Prop} {pK:Bytes→Prop} {KS:List K→Prop} {R:World→(Nat→Prop)→Int→Prop} {N0:Nat→Prop} {steps:List (Nat × Bytes)}
    (W:WI (.iface rt rv) d V pF pL pK KS R) (h0:R w N0 (-2)) (hs:Sl DA 2 d sv steps) (hok:∀ x ∈ steps,(x.1=0→pF)∧(x.1=1→pL)∧(x.1=4∨x.1=5→pK x.2)∧x.2.length≤4294967296) (hlen:steps.length < 1000000)
    (hk:∀ a w' v l,cN d a→cN a w'→(∀ b,b < w.heap.size→cx d b→cx a b)→Keep (fun b _=>N0 b) w w'→Sl yx 5 a v l→Pw (nE V KS) (pX V (-2) false 0 steps) l→k v w'):aX prog 64 #[.iface rt rv,sv] k w:=by
 have hinc:=W.inc h0
 obtain ⟨ka,kc,rfl⟩:=hs.form
 refine ae [.tmp 4] func64 ?_
 refine an ?_
 refine bR (fun b:Nat × Value × Bool × Nat=>[(0,.iface rt rv),(5,b.2.1),(6,.bool b.2.2.1),(7,.int .u8 b.2.2.2),(12,.slice ka steps.length kc),(13,.int .i64 steps.length),(14,.int .i64 b.1)])
  (fun b w'=>b.1≤steps.length∧∃ a N p l css outs,Wsw d w R N0 b.2.1 w' a N p l css∧Wsp V KS steps b.1 b.2.2.1 b.2.2.2 p l outs) (fun b _=>steps.length - b.1) (0,.slice none 0 0,false,0) (by kernel_rfl) ?_ ⟨aP _,d,N0,-2,[],[],[],?_⟩ ?_
 ·exact bO
 ·exact ⟨⟨h0,cN.refl d,hinc,fun b hb=>(W.lt h0 b hb).2,OwnL.nil dq,by simp [Value.ownBlock],Keep.refl _ w,fun _ h => .inl h,fun _ _ h=>h⟩,by simp,⟨rfl,by simp⟩,rfl,by simp,by simp,by simp⟩
 rintro K2 e ⟨i,v,got,last⟩ w1 ⟨i2,a,N,p,l,css,outs,s,t⟩ hK2
 simp only at i2 s t
 by_cases hi:i < steps.length
 ·have hi':(i:Int) < steps.length:=by omega
  obtain ⟨g,f,c,hv',hc,hat⟩:=(hs.inc DA.mono (W.inc s.R)).at (by omega)
  obtain ⟨rfl,rfl⟩:=sEq hv'
  obtain ⟨⟨op,key⟩,hx⟩:∃ x,steps[i]? = some x:=⟨_,aC hi⟩
  obtain ⟨cs,_,hcs,rfl,hop⟩:=hat i _ hx
  have h1:w1.cell? ⟨g,f+i * 2,none⟩=some (.int .u8 op):=hcs 0 _ rfl
  have h2:w1.cell? ⟨g,f+i * 2+1,none⟩=some (.string ⟨key.toArray⟩):=hcs 1 _ rfl
  refine eA @hi' @h1 @h2 ?_
  refine BG ?_
  obtain ⟨sb,hsb⟩:∃ sb,sb=w1.heap.size:=⟨_,rfl⟩
  obtain ⟨w3,hw3⟩:∃ w3,w3=w1.alloc (.cells #[.int .u8 op,.string ⟨key.toArray⟩] 53):=⟨_,rfl⟩
  have x3:bj w1 w3:=by rw [hw3]; exact aM _
  have z3:w3.heap.size=w1.heap.size+1:=by rw [hw3,World.size_alloc]
  have p0:w3.cell? ⟨sb,0,none⟩=some (.int .u8 op):=by rw [hw3,hsb]; exact bk @aA
  have p1:w3.cell? ⟨sb,1,none⟩=some (.string ⟨key.toArray⟩):=by rw [hw3,hsb]; exact bk @aA
  rw [← hw3,← hsb]
  have hdrop:steps.drop i=(op,key) :: steps.drop (i+1):=by
   rw [cw hi]
   congr 1
   rw [aC hi] at hx
   simpa using hx
  have s3:=s.ext W x3
  have hwl:=t.wl
  rw [hdrop] at hwl
  obtain ⟨va,vcap,rfl,_⟩:=s.o.form
  cases ht:tm op got last with
  | false =>
   refine an ?_
   refine ju ⟨false,false,⟨[],[],[]⟩⟩ [.bool false,.bool false,str [],str [],.slice none 0 0] rw33 s3.o ⟨_,rfl,Sl.nil⟩ rfl (.inl rfl) rfl rfl (by simp [Value.oneCell',str]) (by rw [t.len]; omega) s3.aw fun v2 w2 o2 k2 n2 j2 _ => ?_
   refine an ?_
   refine hK2 _ _ (i+1,v2,got,last) ?_ ⟨hi,a,N,p,_,_,outs++[none],s3.app W o2 k2 n2 j2,?_,t.pw.snoc rfl,by simp [t.len],t.g1,t.g2,t.g3⟩ (by simp only; omega)
   ·exact bO
   ·rw [hwl,bX]
    congr 1
    show pX V p got last ((op,key) :: List.drop (i+1) steps)=none :: pX V p got last (List.drop (i+1) steps)
    rw [pX,ht]
    rfl
  | true =>
   have hp2:op=2 → -1≤p∧p < V.length:=fun h=>by
    cases got
    ·have:=t.g2 rfl (by simpa [tm,h] using ht)
     omega
    ·have:=t.g1 rfl
     omega
   have hp3:op=3 → -1 < p∧p≤V.length:=fun h=>by
    cases got
    ·have:=t.g3 rfl (by simpa [tm,h] using ht)
     omega
    ·have:=t.g1 rfl
     omega
   refine bf @p0 ?_
   refine H5 (fun x:Value=>[(0,.iface rt rv),(5,.slice va l.length vcap),(9,.pointer (some ⟨sb,0,none⟩)),(12,.slice (some ⟨g,f,none⟩) steps.length kc),(13,.int .i64 steps.length),(14,.int .i64 i),(10,x)])
    (fun x w'=>∃ N2,Wsw d w R N0 (.slice va l.length vcap) w' a N2 (mv V p op key) l css∧I8 V KS w' x (mv V p op key)∧w'.cell? ⟨sb,0,none⟩=some (.int .u8 op)) (by kernel_rfl) (by kernel_rfl) (fun K3 hK3 => ?_) ?_
   ·have dummy:=0
    have e0:((op:Int) == 0)=decide (op=0):=by rw [bF]; simp
    have e1:((op:Int) == 1)=decide (op=1):=by rw [bF]; simp; omega
    have e2:((op:Int) == 2)=decide (op=2):=by rw [bF]; simp; omega
    have e3:((op:Int) == 3)=decide (op=3):=by rw [bF]; simp; omega
    have e4:((op:Int) == 4)=decide (op=4):=by rw [bF]; simp; omega
    have e5:((op:Int) == 5)=decide (op=5):=by rw [bF]; simp; omega
    have hok:=hok _ (aK hx)
    simp only at hok
    have nsb:¬ N sb:=fun hn=>by have:=(W.lt s.R sb hn).1; omega
    have hop6:op=0∨op=1∨op=2∨op=3∨op=4∨op=5:=by
     unfold tm at ht
     (repeat' split at ht) <;> first | omega | simp at ht
    rcases hop6 with h | h | h | h | h | h
    ·have hm:mv V p op key=0:=by simp [mv,h]
     rw [hm] at hK3
     simp (disch:=first | exact dZ | fail) only [go_sem,e0,e1,e2,e3,e4,e5,aU (show op=0 by omega),aF (show ¬ op=1 by omega),aF (show ¬ op=2 by omega),aF (show ¬ op=3 by omega),aF (show ¬ op=4 by omega),aF (show ¬ op=5 by omega)]
     refine W.first s3.R (hok.1 h) fun w4 N4 v4 r4 hn4 k4 rs4 => ?_
     refine an ?_
     refine hK3 _ _ v4 ?_ ⟨N4,s3.op W r4 hn4 k4,rs4,k4.some p0 nsb⟩
     exact bO
    ·have hm:mv V p op key=V.length - 1:=by simp [mv,h]
     rw [hm] at hK3
     simp (disch:=first | exact dZ | fail) only [go_sem,e0,e1,e2,e3,e4,e5,aF (show ¬ op=0 by omega),aU (show op=1 by omega),aF (show ¬ op=2 by omega),aF (show ¬ op=3 by omega),aF (show ¬ op=4 by omega),aF (show ¬ op=5 by omega)]
     refine W.last s3.R (hok.2.1 h) fun w4 N4 v4 r4 hn4 k4 rs4 => ?_
     refine an ?_
     refine hK3 _ _ v4 ?_ ⟨N4,s3.op W r4 hn4 k4,rs4,k4.some p0 nsb⟩
     exact bO
    ·have hm:mv V p op key=p+1:=by simp [mv,h]
     rw [hm] at hK3
     have hpn:=hp2 h
     simp (disch:=first | exact dZ | fail) only [go_sem,e0,e1,e2,e3,e4,e5,aF (show ¬ op=0 by omega),aF (show ¬ op=1 by omega),aU (show op=2 by omega),aF (show ¬ op=3 by omega),aF (show ¬ op=4 by omega),aF (show ¬ op=5 by omega)]
     refine W.next s3.R hpn.1 hpn.2 fun w4 N4 v4 r4 hn4 k4 rs4 => ?_
     refine an ?_
     refine hK3 _ _ v4 ?_ ⟨N4,s3.op W r4 hn4 k4,rs4,k4.some p0 nsb⟩
     exact bO
    ·have hm:mv V p op key=p - 1:=by simp [mv,h]
     rw [hm] at hK3
     have hpp:=hp3 h
     simp (disch:=first | exact dZ | fail) only [go_sem,e0,e1,e2,e3,e4,e5,aF (show ¬ op=0 by omega),aF (show ¬ op=1 by omega),aF (show ¬ op=2 by omega),aU (show op=3 by omega),aF (show ¬ op=4 by omega),aF (show ¬ op=5 by omega)]
     refine W.prev s3.R hpp.1 hpp.2 fun w4 N4 v4 r4 hn4 k4 rs4 => ?_
     refine an ?_
     refine hK3 _ _ v4 ?_ ⟨N4,s3.op W r4 hn4 k4,rs4,k4.some p0 nsb⟩
     exact bO
    ·have hm:mv V p op key=cv V key:=by simp [mv,h]
     rw [hm] at hK3
     simp (disch:=first | exact dZ | fail) only [go_sem,e0,e1,e2,e3,e4,e5,aF (show ¬ op=0 by omega),aF (show ¬ op=1 by omega),aF (show ¬ op=2 by omega),aF (show ¬ op=3 by omega),aU (show op=4 by omega),aF (show ¬ op=5 by omega),p1]
     unfold HA
     refine yT Tryz.underlying9 Tryz.underlying107 Tryz.underlying5 (by simp only [ByteArray.size,List.size_toArray]; omega) fun ka kcap w5 hb5 _ x5 _ => ?_
     have s5:=s3.ext W x5
     refine an ?_
     refine W.seekGE s5.R (hok.2.2.1 (by omega)) (by exact hb5) (fun a' n' c' e' hn => ?_) fun w4 N4 v4 r4 hn4 k4 rs4 => ?_
     ·simp only [aW,aL] at e'
      rw [← e'.1] at hn
      have:=(W.lt s.R _ hn).1
      simp only at this
      omega
     refine an ?_
     refine hK3 _ _ v4 ?_ ⟨N4,s5.op W r4 hn4 k4,rs4,k4.some (x5.cell p0) nsb⟩
     exact bO
    ·have hm:mv V p op key=dt V key:=by simp [mv,h]
     rw [hm] at hK3
     simp (disch:=first | exact dZ | fail) only [go_sem,e0,e1,e2,e3,e4,e5,aF (show ¬ op=0 by omega),aF (show ¬ op=1 by omega),aF (show ¬ op=2 by omega),aF (show ¬ op=3 by omega),aF (show ¬ op=4 by omega),aU (show op=5 by omega),p1]
     unfold HA
     refine yT Tryz.underlying9 Tryz.underlying107 Tryz.underlying5 (by simp only [ByteArray.size,List.size_toArray]; omega) fun ka kcap w5 hb5 _ x5 _ => ?_
     have s5:=s3.ext W x5
     refine an ?_
     refine W.seekLT s5.R (hok.2.2.1 (by omega)) (by exact hb5) (fun a' n' c' e' hn => ?_) fun w4 N4 v4 r4 hn4 k4 rs4 => ?_
     ·simp only [aW,aL] at e'
      rw [← e'.1] at hn
      have:=(W.lt s.R _ hn).1
      simp only at this
      omega
     refine an ?_
     refine hK3 _ _ v4 ?_ ⟨N4,s5.op W r4 hn4 k4,rs4,k4.some (x5.cell p0) nsb⟩
     exact bO
   ·rintro e x w4 ⟨N2,s4,r4,p0'⟩
    obtain ⟨P,hP⟩:∃ P,P=mv V p op key:=⟨_,rfl⟩
    rw [← hP] at s4 r4
    have hwl2:pX V (-2) false 0 steps=(outs++[some P])++pX V P (BF V P) op (steps.drop (i+1)):=by
     rw [hwl,bX]
     congr 1
     show pX V p got last ((op,key) :: List.drop (i+1) steps)=some P :: pX V P (BF V P) op (List.drop (i+1) steps)
     rw [pX,ht,hP]
     rfl
    by_cases hin:0≤P∧P < V.length
    ·have hiv:BF V P=true:=aU hin
     rw [hiv] at hwl2
     obtain ⟨j,hj⟩:∃ j:Nat,P=j:=⟨P.toNat,by omega⟩
     obtain ⟨b,o,x,rfl,⟨⟨sv',q0,m0⟩,⟨ev',q1,m1⟩,⟨kv',q2,m2⟩,q3⟩,xs,xe,xk,xks⟩:=r4.1 j hj (by omega)
     obtain ⟨ssa,ssc,rfl⟩:=ak m0
     obtain ⟨eea,eec,rfl⟩:=ak m1
     obtain ⟨kka,kkc,rfl⟩:=m2.form
     obtain ⟨ab,hab⟩:∃ ab,ab=w4.heap.size:=⟨_,rfl⟩
     obtain ⟨w5,hw5⟩:∃ w5,w5=w4.alloc (.cells #[.bool true,.bool false,.string .empty,.string .empty,.slice none 0 0] 58):=⟨_,rfl⟩
     have x5:bj w4 w5:=by rw [hw5]; exact aM _
     have z5:w5.heap.size=ab+1:=by rw [hw5,World.size_alloc,hab]
     have q0:=x5.cell q0
     have q1:=x5.cell q1
     have q2:=x5.cell q2
     have q3:=x5.cell q3
     have c0:w5.cell? ⟨ab,0,none⟩=some (.bool true):=by rw [hw5,hab]; exact bk @aA
     have c1:w5.cell? ⟨ab,1,none⟩=some (.bool false):=by rw [hw5,hab]; exact bk @aA
     have c2:w5.cell? ⟨ab,2,none⟩=some (.string .empty):=by rw [hw5,hab]; exact bk @aA
     have c3:w5.cell? ⟨ab,3,none⟩=some (.string .empty):=by rw [hw5,hab]; exact bk @aA
     have c4:w5.cell? ⟨ab,4,none⟩=some (.slice none 0 0):=by rw [hw5,hab]; exact bk @aA
     have f5:∀ y,w5.frozen? ⟨ab,y,none⟩=false:=fun y=>by rw [hw5,hab]; simp (disch:=first | exact dZ | fail) only [go_sem]
     simp (disch:=first | exact dZ | fail) only [go_sem,Option.isSome_some]
     rw [← hw5,← hab]
     refine fI @q0 @q1 @q2 @q3 ?_
     have s5:=s4.ext W x5
     have hxl:x.ks.length=V[j]!.ks.length:=by simpa using congrArg List.length xk
     refine jv (d:=a) (m0.inc x5.inc) (m1.inc x5.inc) (m2.inc ku.mono x5.inc) ⟨1,rfl⟩ (by have:=W.small j (by omega); omega) s5.aw fun a6 w6 v6 g6 k6 => ?_
     have s6:=s5.gr W g6
     obtain ⟨k6a,k6c,rfl⟩:=k6.form
     have c0:=g6.x.cell c0
     have c1:=g6.x.cell c1
     have c2:=g6.x.cell c2
     have c3:=g6.x.cell c3
     have c4:=g6.x.cell c4
     have p6:=g6.x.cell (x5.cell p0')
     have f6:∀ y,w6.frozen? ⟨ab,y,none⟩=false:=fun y=>by rw [g6.x.frozen _ y (by omega)]; exact f5 y
     simp (disch:=first | exact dZ | fail) only [go_sem,str,c0,c1,c2,c3,c4,f6]
     obtain ⟨w7,hw7⟩:∃ w7,w7=((((w6.setCell ⟨ab,1,none⟩ (.bool true)).setCell ⟨ab,2,none⟩ (.string ⟨x.s.toArray⟩)).setCell ⟨ab,3,none⟩ (.string ⟨x.e.toArray⟩)).setCell ⟨ab,4,none⟩ (.slice k6a x.ks.length k6c)):=⟨_,rfl⟩
     rw [← hw7]
     have o6:cx a6 ab:=g6.o _ (by omega) (s4.aw.out (by omega))
     have x7:bj w4 w7:=by rw [hw7]; exact cC (cC (cC (cC (x5.trans g6.x) (by omega)) (by omega)) (by omega)) (by omega)
     have s7:=s4.gr W (a2:=a6) (w2:=w7) ⟨x7,g6.i,by rw [hw7]; exact (((g6.j.set o6).set o6).set o6).set o6,fun b' hb' ho=>g6.o b' (by have:=x5.size; omega) ho⟩
     have p7:=x7.cell p0'
     have d0:w7.cell? ⟨ab,0,none⟩=some (.bool true):=by rw [hw7]; exact bk @c0
     have d1:w7.cell? ⟨ab,1,none⟩=some (.bool true):=by rw [hw7]; exact bk @c1
     have d2:w7.cell? ⟨ab,2,none⟩=some (.string ⟨x.s.toArray⟩):=by rw [hw7]; exact bk @c2
     have d3:w7.cell? ⟨ab,3,none⟩=some (.string ⟨x.e.toArray⟩):=by rw [hw7]; exact bk @c3
     have d4:w7.cell? ⟨ab,4,none⟩=some (.slice k6a x.ks.length k6c):=by rw [hw7]; exact bk @c4
     have s8:=s7.ext W (w2:=w7.drew) (Keep.refl _ w7).drew
     refine ay (sq [0,1,2] (.read 3 (sq [4,5] .done))) ?_
     simp (disch:=first | exact dZ | fail) only [go_sem,Option.isSome_some,p7,d0,d1,d2,d3,d4]
     refine ju ⟨true,true,x⟩ [.bool true,.bool true,str x.s,str x.e,.slice k6a x.ks.length k6c] rw33 s8.o ⟨_,rfl,k6⟩ rfl (.inl rfl) rfl rfl (by simp [Value.oneCell',str]) (by rw [t.len]; omega) s8.aw fun v2 w2 o2 k2 n2 j2 _ => ?_
     refine an ?_
     refine hK2 _ _ (i+1,v2,true,op) ?_ ⟨hi,a6,N2,P,_,_,outs++[some P],s8.app W o2 k2 n2 j2,hwl2,t.pw.snoc ?_,by simp [t.len],?_,?_,?_⟩ (by simp only; omega)
     ·exact bO
     ·exact ⟨rfl,hiv.symm,fun i' hi1 hi2=>by obtain rfl:i'=j:=(by omega); exact ⟨xs,xe,xk,xks⟩,fun h=>by rw [hiv] at h; cases h⟩
     ·exact fun _=>hin
     ·intro h; cases h
     ·intro h; cases h
    ·have hiv:BF V P=false:=aF hin
     rw [hiv] at hwl2
     obtain rfl:=r4.2 hin
     obtain ⟨ab,hab⟩:∃ ab,ab=w4.heap.size:=⟨_,rfl⟩
     obtain ⟨w7,hw7⟩:∃ w7,w7=w4.alloc (.cells #[.bool true,.bool false,.string .empty,.string .empty,.slice none 0 0] 58):=⟨_,rfl⟩
     have x7:bj w4 w7:=by rw [hw7]; exact aM _
     have s7:=s4.ext W x7
     have d0:w7.cell? ⟨ab,0,none⟩=some (.bool true):=by rw [hw7,hab]; exact bk @aA
     have d1:w7.cell? ⟨ab,1,none⟩=some (.bool false):=by rw [hw7,hab]; exact bk @aA
     have d2:w7.cell? ⟨ab,2,none⟩=some (.string .empty):=by rw [hw7,hab]; exact bk @aA
     have d3:w7.cell? ⟨ab,3,none⟩=some (.string .empty):=by rw [hw7,hab]; exact bk @aA
     have d4:w7.cell? ⟨ab,4,none⟩=some (.slice none 0 0):=by rw [hw7,hab]; exact bk @aA
     have p7:=x7.cell p0'
     simp (disch:=first | exact dZ | fail) only [go_sem,Option.isSome_none]
     rw [← hw7,← hab]
     have s8:=s7.ext W (w2:=w7.drew) (Keep.refl _ w7).drew
     refine ay (sq [0,1,2] (.read 3 (sq [4,5] .done))) ?_
     simp (disch:=first | exact dZ | fail) only [go_sem,Option.isSome_none,p7,d0,d1,d2,d3,d4]
     refine ju ⟨true,false,⟨[],[],[]⟩⟩ [.bool true,.bool false,str [],str [],.slice none 0 0] rw33 s8.o ⟨_,rfl,Sl.nil⟩ rfl (.inl rfl) rfl rfl (by simp [Value.oneCell',str]) (by rw [t.len]; omega) s8.aw fun v2 w2 o2 k2 n2 j2 _ => ?_
     refine an ?_
     refine hK2 _ _ (i+1,v2,false,op) ?_ ⟨hi,a,N2,P,_,_,outs++[some P],s8.app W o2 k2 n2 j2,hwl2,t.pw.snoc ?_,by simp [t.len],?_,?_,?_⟩ (by simp only; omega)
     ·exact bO
     ·exact ⟨rfl,hiv.symm,fun i' hi1 hi2=>absurd ⟨by omega,by omega⟩ hin,fun _=>rfl⟩
     ·intro h; cases h
     ·rintro _ (h | h)
      ·have h:op=5:=h
       have hm:mv V p op key=dt V key:=by rw [h]; rfl
       rw [hP,hm] at hin
       rw [hP,hm]
       have:=kQ V key
       omega
      ·have h:op=3:=h
       have hm:mv V p op key=p - 1:=by rw [h]; rfl
       rw [hP,hm] at hin
       rw [hP,hm]
       have:=hp3 h
       omega
     ·rintro _ (h | h)
      ·have h:op=4:=h
       have hm:mv V p op key=cv V key:=by rw [h]; rfl
       rw [hP,hm] at hin
       rw [hP,hm]
       have:=kP V key
       omega
      ·have h:op=2:=h
       have hm:mv V p op key=p+1:=by rw [h]; rfl
       rw [hP,hm] at hin
       rw [hP,hm]
       have:=hp2 h
       omega
 ·have hi':¬ (i:Int) < steps.length:=by omega
  refine bf @hi' ?_
  have hii:i=steps.length:=by omega
  have hwl:=t.wl
  rw [hii,List.drop_length] at hwl
  rw [show pX V p got last []=[] by cases got <;> rfl,av] at hwl
  have pw:=t.pw
  rw [← hwl] at pw
  obtain ⟨a2,b1,b2,b3,b4⟩:=s.o.fin yx.mono s.aw
  exact hk a2 w1 v l (s.da.trans b1) b2 (fun b hb ho=>b3 b (s.oa b hb ho) fun hv=>by have:=(s.on b hv).2; omega) s.k b4 pw
end
end Go.Proofs
end
section
namespace Go.E
open Go Go.Sort Go.Proofs
def dN (U Bf:Nat) (T:Nat→Nat→Prop) (D S:Nat→Prop):Nat→Prop:=fun b=>b=U∨b=Bf∨(∃ x,T b x)∨D b∨S b
theorem H6 {U Bf:Nat} {T:Nat→Nat→Prop} {D S:Nat→Prop} {b x:Nat} (h:eM U Bf T D S b x):dN U Bf T D S b:=by
 rcases h with h | h | ⟨h,_⟩ | ⟨h,_⟩ | h
 ·exact .inr (.inr (.inl ⟨x,h⟩))
 ·exact .inr (.inr (.inr (.inr h)))
 ·exact .inl h
 ·exact .inr (.inl h)
 ·exact .inr (.inr (.inr (.inl h)))
def Ie (d:World) (U Bf C pb po:Nat) (rt:TypeId) (rv:Value) (G:List Sp) (T:Nat→Nat→Prop) (R:World→(Nat→Prop)→Int→Prop) (w:World) (N:Nat→Prop) (p:Int):Prop:=∃ D S,De d U Bf C pb po rt rv G T R w D S p∧N=dN U Bf T D S
section
variable {d w w2:World} {U Bf C pb po:Nat} {rt:TypeId} {rv:Value} {G:List Sp} {pF pL:Prop} {pK:Bytes→Prop} {T:Nat→Nat→Prop} {R:World→(Nat→Prop)→Int→Prop} {D S N:Nat→Prop} {p:Int} {k:au} {KS:List K→Prop}
theorem De.inc (dc:DC d U Bf C pb po rt rv G pF pL pK T R) (h:De d U Bf C pb po rt rv G T R w D S p):cN d w:=by
 obtain ⟨Q,vc,vk,vb,xs,xb,cc,lk,is,ps,q,st,_⟩:=h
 exact dc.f.inc st.R
theorem De.lt (dc:DC d U Bf C pb po rt rv G pF pL pK T R) (hT:∀ b x,T b x→cx d b) (h:De d U Bf C pb po rt rv G T R w D S p):∀ b,dN U Bf T D S b→b < w.heap.size∧cx d b:=by
 obtain ⟨Q,vc,vk,vb,xs,xb,cc,lk,is,ps,q,st,_⟩:=h
 rintro b (rfl | rfl | ⟨x,h⟩ | h | h)
 ·exact ⟨aD st.p.d81,dc.oU⟩
 ·exact ⟨aD st.r.ch,dc.oB⟩
 ·exact ⟨dc.tl st.R h,hT b x h⟩
 ·exact ⟨(st.r.dD b h).1,(st.r.dD b h).2.2.2.2.2⟩
 ·exact (dc.f.outS st.R b h).symm
theorem De.keep (dc:DC d U Bf C pb po rt rv G pF pL pK T R) {M:Nat→Nat→Prop} (h:De d U Bf C pb po rt rv G T R w D S p) (hk:Keep M w w2) (hM:∀ b x,b < w.heap.size→M b x→¬ dN U Bf T D S b∧cx d b):De d U Bf C pb po rt rv G T R w2 D S p:=by
 obtain ⟨Q,vc,vk,vb,xs,xb,cc,lk,is,ps,q,st,hd⟩:=h
 have hU:=aD st.p.d81
 have hB:=aD st.r.ch
 refine ⟨Q,vc,vk,vb,xs,xb,cc,lk,is,ps,q,⟨dc.f.keep st.R hk fun b x hb hm => ?_,st.p.keep hB hk fun x _ _ hm=>(hM _ _ hU hm).1 (.inl rfl),st.r.keep hk (fun x _ _ hm=>(hM _ _ hB hm).1 (.inr (.inl rfl))) fun g hg x hm=>(hM _ _ (st.r.dD g hg).1 hm).1 (.inr (.inr (.inr (.inl hg))))⟩,hd⟩
 obtain ⟨a,b'⟩:=hM b x hb hm
 exact ⟨fun h=>a (.inr (.inr (.inl ⟨x,h⟩))),fun h=>a (.inr (.inr (.inr (.inr h)))),b' x⟩
theorem DLt.dN {w w2:World} {D2 S2:Nat→Prop} (h:DLt w w2 U Bf T D S D2 S2):(∀ b,dN U Bf T D2 S2 b→dN U Bf T D S b∨w.heap.size≤b)∧Keep (fun b _=>dN U Bf T D S b) w w2:=by
 refine ⟨fun b hb => ?_,h.k.mono fun b x _ hm=>H6 hm⟩
 rcases hb with h1 | h1 | h1 | h1 | h1
 ·exact .inl (.inl h1)
 ·exact .inl (.inr (.inl h1))
 ·exact .inl (.inr (.inr (.inl h1)))
 ·rcases h.d b h1 with h2 | h2
  ·exact .inl (.inr (.inr (.inr (.inl h2))))
  ·exact .inr h2
 ·rcases h.s b h1 with h2 | h2
  ·exact .inl (.inr (.inr (.inr (.inr h2))))
  ·exact .inr h2
theorem GH (hKS:∀ j,j < G.length→KS G[j]!.ks) {v:Value} (h:Rs G w v p):I8 (Vw G) KS w v p:=by
 refine ⟨fun i hi hl => ?_,fun hn=>h.2 fun hh=>hn (by rw [dE]; exact hh)⟩
 rw [dE] at hl
 obtain ⟨b,o,x,e1,e2,e3,e4,e5,j,hj,e6⟩:=h.1 i hi hl
 exact ⟨b,o,x,e1,e2,e3,e4,e5,by rw [e6]; exact hKS j hj⟩
theorem pY (hKS:∀ j,j < G.length→KS G[j]!.ks) (hk:WK (Vw G) KS (Ie d U Bf C pb po rt rv G T R) w (dN U Bf T D S) p k):EE d U Bf C pb po rt rv G T R w D S p k :=
 fun w2 D2 S2 v h2 l2 r2=>hk w2 (dN U Bf T D2 S2) v ⟨D2,S2,h2,rfl⟩ l2.dN.1 l2.dN.2 (GH hKS r2)
set_option maxRecDepth 8000 in
theorem Jt (dc:DC d U Bf C pb po rt rv G pF pL pK T R) (hT:∀ b x,T b x→cx d b) (hKS:∀ j,j < G.length→KS G[j]!.ks):WI (.iface 229 (.pointer (some ⟨U,81,none⟩))) d (Vw G) pF pL pK KS (Ie d U Bf C pb po rt rv G T R) where
 small i hi:=by
  rw [dE] at hi
  rw [gx hi]
  have:=(dc.len _ (fi hi).1).2.2.1
  exact aI this (by decide)
 lt h:=by obtain ⟨D,S,h,rfl⟩:=h; exact h.lt dc hT
 inc h:=by obtain ⟨D,S,h,rfl⟩:=h; exact h.inc dc
 keep h hk hM:=by obtain ⟨D,S,h,rfl⟩:=h; exact ⟨D,S,h.keep dc hk hM,rfl⟩
 first h hF hk:=by
  obtain ⟨D,S,h,rfl⟩:=h
  rw [Tryz.iv229_First]
  exact yr dc h hF (pY hKS hk)
 last h hL hk:=by
  obtain ⟨D,S,h,rfl⟩:=h
  rw [Tryz.iv229_Last]
  rw [dE] at hk
  exact BA dc h hL (pY hKS hk)
 next h h1 h2 hk:=by
  obtain ⟨D,S,h,rfl⟩:=h
  rw [Tryz.iv229_Next]
  exact BB dc h h1 (by rw [← dE]; exact h2) (pY hKS hk)
 prev h h1 _ hk:=by
  obtain ⟨D,S,h,rfl⟩:=h
  rw [Tryz.iv229_Prev]
  exact BE dc h h1 (pY hKS hk)
 seekGE h hK hkv hvi hk:=by
  obtain ⟨D,S,h,rfl⟩:=h
  rw [Tryz.iv229_SeekGE]
  exact wg dc h hK hkv (fun a n c e=>⟨fun hh=>hvi a n c e (.inl hh),fun x=>⟨fun hh=>hvi a n c e (.inr (.inr (.inl ⟨x,hh⟩))),fun hh=>hvi a n c e (.inr (.inr (.inr (.inr hh))))⟩⟩) (pY hKS hk)
 seekLT h hK hkv hvi hk:=by
  obtain ⟨D,S,h,rfl⟩:=h
  rw [Tryz.iv229_SeekLT]
  exact wh dc h hK hkv (fun a n c e=>⟨fun hh=>hvi a n c e (.inl hh),fun x=>⟨fun hh=>hvi a n c e (.inr (.inr (.inl ⟨x,hh⟩))),fun hh=>hvi a n c e (.inr (.inr (.inr (.inr hh))))⟩⟩) (pY hKS hk)
end
section
variable {d:World} {U Bf C snap:Nat} {Ls:Array Lvl} {B:List Bytes} {lo hi:Option Bytes} {lov hiv:Value}
theorem DB {G:List Sp} {j:Nat} (hj:j < (GB G lo hi).length):∃ i,i < G.length∧(GB G lo hi)[j]! = G[i]! := by
 refine ⟨aB G lo+j,?_,ow (G:=G) hj⟩
 have:=cr (G:=G) (lo:=lo) (hi:=hi)
 have:=jI (G:=G) (hi:=hi)
 omega
theorem DD {n:Nat} {L:Nat→List Sp} {u:Nat} {x:K} (h:x ∈ dO n L B u):∃ i,i < n∧∃ sp ∈ L i,x ∈ sp.ks:=by
 unfold dO at h
 obtain ⟨i,hi,hx⟩:=dX.1 h
 rw [List.mem_range] at hi
 split at hx
 ·refine ⟨i,hi,(L i)[cp L B u i / 2]!,?_,hx⟩
  rcases aG (cp L B u i / 2) (L i).length with hl | hl
  ·rw [aH (L i) (cp L B u i / 2) hl]; exact ag hl
  ·rw [getElem!_neg (L i) (cp L B u i / 2) (by omega)] at hx
   exact absurd hx (by simp [default,instInhabitedSp.default])
 ·simp at hx
theorem zr {n:Nat} {L:Nat→List Sp} {j:Nat} (hj:j < (GL snap n L B).length):∃ u,u≤B.length∧(GL snap n L B)[j]! = lP snap n L B u:=by
 rw [cJ] at hj
 have e:(cM n L B)[j]? = some (cM n L B)[j]:=aC hj
 exact ⟨_,(dF.1 (ag hj)).1,kL e⟩
structure UC (d:World) (U Bf C:Nat) (Ls:Array Lvl) (snap:Nat) (B:List Bytes) (lov hiv:Value) (lo hi:Option Bytes):Prop where
 m:MS d U Bf C Ls snap B
 small:B.length < 999999
 bd:wT lo hi
 c0:d.cell? ⟨C,0,none⟩=some (.func (.func 102) #[] #[])
 kl:∀ i,i < Ls.size→∀ sp ∈ Ls[i]!.L,∀ x ∈ sp.ks,x.suf.length≤4294967296∧x.val.length≤4294967296
abbrev uG (Ls:Array Lvl) (snap:Nat) (B:List Bytes):List Sp:=GL snap Ls.size (Lf Ls) B
abbrev uV (Ls:Array Lvl) (snap:Nat) (B:List Bytes) (lo hi:Option Bytes):List Sp:=Vw (GB (uG Ls snap B) lo hi)
theorem UC.bc (c:UC d U Bf C Ls snap B lov hiv lo hi):BC d U U 6 224 (.pointer (some ⟨U,2,none⟩)) lo hi (uG Ls snap B) True True (fun _=>True) (mT U Bf Ls) (Mi d U Bf C snap Ls B) 1 where
 f:=Jr c.m c.small
 t x h1 h2:=by
  rintro (⟨_,h⟩ | ⟨h,_⟩ | ⟨i,hi,h⟩)
  ·omega
  ·exact c.m.mc.ne h.symm
  ·exact c.m.mc.iU i hi h.symm
 s h hs:=by
  obtain ⟨u,pos,vk,vb,vs,lk,ls,xb,sc,_⟩:=h
  exact (sc.r.sp U hs).1 rfl
 o:=c.m.mc.oU
 b:=c.bd
theorem BH (c:UC d U Bf C Ls snap B lov hiv lo hi) {u:Nat} (hu:u≤B.length):(lP snap Ls.size (Lf Ls) B u).s.length≤4294967296∧(lP snap Ls.size (Lf Ls) B u).e.length≤4294967296∧(lP snap Ls.size (Lf Ls) B u).ks.length < 100000∧∀ x ∈ (lP snap Ls.size (Lf Ls) B u).ks,x.suf.length≤4294967296∧x.val.length≤4294967296:=by
 have hb:∀ i:Nat,(B[i]!).length≤4294967296:=fun i=>by
  rcases aG i B.length with h | h
  ·rw [aH B i h]
   exact gM (c.m.blen _ (ag h))
  ·rw [getElem!_neg B i (by omega)]; exact aP _
 refine ⟨hb _,hb _,?_,fun x hx => ?_⟩
 ·have:=c.m.len u
  refine fT ?_ this
  show (Tf _ _).length≤_
  unfold Tf
  rw [List.length_mergeSort]
  exact bz _ _
 ·obtain ⟨i,hi,sp,hsp,hk⟩:=DD (lC.1 hx).1
  exact c.kl i hi sp hsp x hk
theorem UC.dc (c:UC d U Bf C Ls snap B lov hiv lo hi):DC d U Bf C U 6 226 (.pointer (some ⟨U,72,none⟩)) (GB (uG Ls snap B) lo hi) (True∧lo=none) (True∧hi=none) (fun key=>True∧um lo hi key) (bT U (mT U Bf Ls)) (Bd d U U 6 224 (.pointer (some ⟨U,2,none⟩)) lov hiv lo hi (uG Ls snap B) (Mi d U Bf C snap Ls B)) where
 f:=Js c.bc
 t x h1 h2:=by
  rintro ((⟨_,h⟩ | ⟨h,_⟩ | ⟨i,hi,h⟩) | ⟨_,_,_⟩)
  ·omega
  ·exact c.m.mc.ne h.symm
  ·exact c.m.mc.iU i hi h.symm
  ·omega
 tB x h1 h2:=by
  rintro ((⟨h,_⟩ | ⟨_,h⟩ | ⟨i,hi,h⟩) | ⟨h,_⟩)
  ·exact c.m.mc.ne h
  ·omega
  ·exact c.m.mc.iB i hi h.symm
  ·exact c.m.mc.ne h
 s h:=by
  obtain ⟨q,is,ps,h,_⟩:=h
  obtain ⟨u,pos,vk,vb,vs,lk,ls,xb,sc,_⟩:=h
  exact ⟨fun hs=>(sc.r.sp U hs).1 rfl,fun hs=>(sc.r.sp Bf hs).2.1 rfl⟩
 tl h ht:=by
  obtain ⟨q,is,ps,h,_⟩:=h
  obtain ⟨u,pos,vk,vb,vs,lk,ls,xb,sc,_⟩:=h
  have hU:=aD sc.u.u0
  obtain ⟨v9,h9⟩:=sc.u.c9
  rcases ht with (⟨rfl,_⟩ | ⟨rfl,_⟩ | ⟨i,hi,rfl⟩) | ⟨rfl,_,_⟩
  ·exact hU
  ·exact aD h9
  ·exact aD (sc.g.lv i hi).iter.c0
  ·exact hU
 u93 h:=by
  obtain ⟨q,is,ps,h,_⟩:=h
  obtain ⟨u,pos,vk,vb,vs,lk,ls,xb,sc,_⟩:=h
  exact sc.u.u93
 tp y h1 h2 := .inl (.inl ⟨rfl,.inl (by omega)⟩)
 oU:=c.m.mc.oU
 oB:=c.m.mc.oB
 ne:=c.m.mc.ne
 cmp0:=c.c0
 len j hj:=by
  obtain ⟨i,hi,e⟩:=DB hj
  obtain ⟨u,hu,e2⟩:=zr hi
  rw [e,e2]
  exact BH c hu
def rz (ks:List K):Prop:=∀ x ∈ ks,bI x.tr=21
theorem UC.wi (c:UC d U Bf C Ls snap B lov hiv lo hi):WI (.iface 229 (.pointer (some ⟨U,81,none⟩))) d (uV Ls snap B lo hi) (True∧lo=none) (True∧hi=none) (fun key=>True∧um lo hi key) rz
    (Ie d U Bf C U 6 226 (.pointer (some ⟨U,72,none⟩)) (GB (uG Ls snap B) lo hi) (bT U (mT U Bf Ls)) (Bd d U U 6 224 (.pointer (some ⟨U,2,none⟩)) lov hiv lo hi (uG Ls snap B) (Mi d U Bf C snap Ls B))):=by
 refine Jt c.dc (fun b x h => ?_) fun j hj => ?_
 ·rcases h with (⟨rfl,_⟩ | ⟨rfl,_⟩ | ⟨i,hi,rfl⟩) | ⟨rfl,_,_⟩
  ·exact c.m.mc.oU
  ·exact c.m.mc.oB
  ·exact c.m.mc.oI i hi
  ·exact c.m.mc.oU
 ·obtain ⟨i,hi,e⟩:=DB hj
  obtain ⟨u,hu,e2⟩:=zr hi
  rw [e,e2]
  intro x hx
  exact (gS.1 (lC.1 hx).2).2.1
end
end Go.E
end
section
namespace Go.E
open Go Go.Sort Go.Proofs Go.Proofs.Tryz
open Classical in
theorem tq {d w w2:World} (hi:cN d w) (x:bj w w2):∃ d2,Gr d w d2 w2∧∀ b o u,w.heap.size≤b→w2.cell? ⟨b,o,none⟩=some u→d2.cell? ⟨b,o,none⟩=some u:=by
 let D:Nat→Bool:=fun b=>decide (¬ cx d b∨w.heap.size≤b)
 have hD:∀ b o u,d.cell? ⟨b,o,none⟩=some u→D b=true:=fun b o u hu=>aU (.inl fun ho=>by rw [ho o] at hu; simp at hu)
 refine ⟨only w2 D,⟨x,rZ (hi.trans x.inc) D hD,rX w2 D,fun b hb ho=>rY w2 D (aF fun h=>h.elim (fun h=>h ho) fun h=>by omega)⟩,fun b o u hb hu => ?_⟩
 rw [jQ,show D b=true from aU (.inr hb),if_pos rfl]
 exact hu
theorem fC.imp {α:Type} {R R2:World→Nat→Nat→α→Prop} {sz:Nat} {w:World} {v:Value} {l:List α} (h:fC R sz w v l) (hi:∀ b o x,x ∈ l→R w b o x→R2 w b o x):fC R2 sz w v l:=by
 unfold fC at h ⊢
 split at h
 ·exact h
 ·exact ⟨h.1,h.2.1,h.2.2.1,fun i x hx=>hi _ _ _ (aK hx) (h.2.2.2 i x hx)⟩
 ·exact h.elim
def KB:iK K:=fun w cs x=>∃ a b,cs=[.int .u64 x.tr,a,b]∧x.tr < 18446744073709551616∧eN w a x.suf∧eN w b x.val
theorem KB.mono:iP KB:=fun _ _ _ _ hi ⟨a,b,h1,h2,h3,h4⟩=>⟨a,b,h1,h2,h3.inc hi,h4.inc hi⟩
def xu:iK Sp:=fun w cs x=>∃ a b v,cs=[a,b,v,.int .i8 0]∧mn a=true∧eN w a x.s∧mn b=true∧eN w b x.e∧Sl KB 3 w v x.ks
theorem xu.mono:iP xu:=fun _ _ _ _ hi ⟨a,b,v,h1,h2,h3,h4,h5,h6⟩=>⟨a,b,v,h1,h2,h3.inc hi,h4,h5.inc hi,h6.inc KB.mono hi⟩
theorem KB.key {w:World} {b o:Nat} {x:K} (h:Ej KB 3 w b o x):ku w b o x:=by
 obtain ⟨cs,_,hc,a,a2,rfl,h2,h3,h4⟩:=h
 exact ⟨hc 0 _ rfl,h2,⟨a,hc 1 _ rfl,h3⟩,a2,hc 2 _ rfl,h4⟩
theorem xu.span {w:World} {b o:Nat} {x:Sp} (h:Ej xu 4 w b o x):wE w b o x:=by
 obtain ⟨cs,_,hc,a,a2,v,rfl,h2,h3,h4,h5,h6⟩:=h
 exact ⟨⟨a,hc 0 _ rfl,h2,h3⟩,⟨a2,hc 1 _ rfl,h4,h5⟩,⟨v,hc 2 _ rfl,h6.imp fun _ _ _ _ h=>KB.key h⟩,hc 3 _ rfl⟩
def wk (x:K):Prop:=x.suf.length≤4294967296∧x.val.length≤4294967296
def wm (x:Sp):Prop:=x.s.length≤4294967296∧x.e.length≤4294967296∧x.ks.length < 1000000∧∀ k ∈ x.ks,wk k
end Go.E
namespace Go.Proofs
open Go Go.E Go.Sort Go.Proofs.Tryz
section
variable {k:au} {d w:World}
theorem eW {s:Bytes} {q:au} (hinc:cN d w) (hs:s.length≤4294967296) (hk:∀ d2 w2 a n c,Gr d w d2 w2→eN d2 (.slice (some a) n c) s→q (.slice (some a) n c) w2):HA prog 9 107 (.string ⟨s.toArray⟩) q w:=by
 unfold HA
 refine yT Tryz.underlying9 Tryz.underlying107 Tryz.underlying5 (by simp only [ByteArray.size,List.size_toArray]; omega) fun n c w2 h2 hn x2 _ => ?_
 obtain ⟨d2,g2,e2⟩:=tq hinc x2
 have h3:eN w2 (.slice (some ⟨w.heap.size,0,none⟩) n c) s:=h2
 exact hk d2 w2 _ n c g2 ⟨h3.1,h3.2.1,fun i v hv=>e2 _ _ _ (aE _) (h3.2.2 i v hv)⟩
theorem ts {s:Bytes} (hinc:cN d w) (hs:s.length≤4294967296) (hk:∀ d2 w2 v,Gr d w d2 w2→eN d2 v s→k v w2):aX prog 126 #[.string ⟨s.toArray⟩] k w:=by
 refine ae [.tmp 2] func126 ?_
 cases s with
 | nil =>
  refine an ?_
  exact hk d w _ (Gr.refl hinc) ⟨rfl,rfl⟩
 | cons a s =>
  have e:((⟨(a :: s).toArray⟩:ByteArray).toList == (⟨#[]⟩:ByteArray).toList)=false:=by rw [ByteArray.toList_mk,ByteArray.toList_mk]; rfl
  refine bf @e ?_
  refine eW hinc hs fun d2 w2 a2 n c g2 h2 => ?_
  refine an ?_
  exact hk d2 w2 _ g2 h2
theorem nG {v:Value} {l:List K} (hv:Sl KE 3 d v l) (hl:l.length < 1000000) (hlen:∀ x ∈ l,wk x) (hinc:cN d w) (hk:∀ d' w' v',LoopL KB 3 256 d w d' w' v' l→k v' w'):aX prog 91 #[v] k w:=by
 obtain ⟨ka,kc,rfl⟩:=hv.form
 refine ae [.tmp 2] func91 ?_
 refine an ?_
 refine bR (fun b:Nat × Value=>[(3,b.2),(6,.slice ka l.length kc),(7,.int .i64 l.length),(8,.int .i64 b.1)])
  (fun b w'=>b.1≤l.length∧∃ d1,LoopL KB 3 256 d w d1 w' b.2 (l.take b.1)) (fun b _=>l.length - b.1) (0,.slice none 0 0) (by kernel_rfl) ?_ ⟨aP _,d,LoopL.nil hinc⟩ ?_
 ·exact bO
 rintro K2 e ⟨i,v⟩ w1 ⟨i2,d1,i3⟩ hK2
 simp only at i2 i3
 rcases aG i l.length with hi | hi
 rotate_left
 ·have hi':¬ (i:Int) < l.length:=by omega
  refine bf @hi' ?_
  obtain rfl:i=l.length:=by omega
  rw [ah] at i3
  exact hk d1 w1 v i3
 have hi':(i:Int) < l.length:=by omega
 obtain ⟨g,f,c,hv',hc,hat⟩:=(hv.inc KE.mono i3.g.i).at (by omega)
 obtain ⟨rfl,rfl⟩:=sEq hv'
 obtain ⟨x,hx⟩:=gEl hi
 obtain ⟨cs,_,hcs,hR⟩:=hat i x hx
 have hmem:=aK hx
 obtain ⟨rfl,htr⟩:=hR
 have h0:w1.cell? ⟨g,f+i * 3,none⟩=some (.int .u64 x.tr):=i3.g.j _ _ _ (hcs 0 _ rfl)
 have h1:w1.cell? ⟨g,f+i * 3+1,none⟩=some (.string ⟨x.suf.toArray⟩):=i3.g.j _ _ _ (hcs 1 _ rfl)
 have h2:w1.cell? ⟨g,f+i * 3+2,none⟩=some (.string ⟨x.val.toArray⟩):=i3.g.j _ _ _ (hcs 2 _ rfl)
 refine fI @hi' @h0 @h1 @h2 ?_
 refine ay (sq [0,1] (.read 2 (sq [3] (.read 4 (sq [6] (.read 7 (.eff 5 [2,7] (.eff 8 [2] (sq [9] (.eff 10 [] (.eff 11 [] (sq [12] .done)))))))))))) ?_
 refine an ?_
 obtain ⟨sb,hsb⟩:∃ sb,sb=w1.heap.size:=⟨_,rfl⟩
 obtain ⟨w3,hw3⟩:∃ w3,w3=(w1.alloc (.cells #[.int .u64 x.tr,.string ⟨x.suf.toArray⟩,.string ⟨x.val.toArray⟩] 62)).drew:=⟨_,rfl⟩
 have x3:bj w1 w3:=by rw [hw3]; exact Keep.drew (aM _)
 have p0:w3.cell? ⟨sb,0,none⟩=some (.int .u64 x.tr):=by rw [hw3,hsb]; exact bk @aA
 have p1:w3.cell? ⟨sb,1,none⟩=some (.string ⟨x.suf.toArray⟩):=by rw [hw3,hsb]; exact bk @aA
 have p2:w3.cell? ⟨sb,2,none⟩=some (.string ⟨x.val.toArray⟩):=by rw [hw3,hsb]; exact bk @aA
 rw [← hw3,← hsb]
 have i4:=i3.ext KB.mono x3
 refine ts i4.g.j (hlen x hmem).1 fun d4 w4 v4 g4 b4 => ?_
 have i5:=i4.call KB.mono g4
 obtain ⟨a4,c4,rfl⟩:=ak b4
 have p0:=g4.x.cell p0
 have p1:=g4.x.cell p1
 have p2:=g4.x.cell p2
 refine eA @p0 @p1 @p2 ?_
 refine ts i5.g.j (hlen x hmem).2 fun d5 w5 v5 g5 b5 => ?_
 have i6:=i5.call KB.mono g5
 obtain ⟨a5,c5,rfl⟩:=ak b5
 have p0:=g5.x.cell p0
 have p1:=g5.x.cell p1
 have p2:=g5.x.cell p2
 obtain ⟨va,vcap,rfl,_⟩:=i6.form
 refine eA @p0 @p1 @p2 ?_
 obtain ⟨css,o6⟩:=i6.o
 refine ju x [.int .u64 x.tr,.slice a4 x.suf.length c4,.slice a5 x.val.length c5] rw110 o6 ⟨_,_,rfl,htr,b4.inc g5.i,b5⟩ rfl (.inl rfl) rfl rfl (by simp [Value.oneCell']) (by rw [dS i2]; omega) i6.g.j fun v2 w2 o2 k2 n2 j2 _ => ?_
 refine eA @p0 @p1 @p2 ?_
 refine hK2 _ _ (i+1,v2) ?_ ⟨hi,d5,?_⟩ (by simp only; omega)
 ·exact bO
 ·rw [bw hx]
  exact i6.more o2 k2 n2 j2
theorem iL {v:Value} {l:List K} (hv:Sl KE 3 d v l) (hl:l.length < 1000000) (hlen:∀ x ∈ l,wk x) (hinc:cN d w) (hk:∀ d' w' v',Gr d w d' w'→Sl KB 3 d' v' l→k v' w'):aX prog 91 #[v] k w :=
 nG hv hl hlen hinc fun d1 w1 v i3=>by
  obtain ⟨d2,g2,_,_,s2⟩:=i3.done KB.mono
  exact hk d2 w1 v g2 s2
theorem r8 {kv:Value} {x:Sp} (hv:Sl KE 3 d kv x.ks) (hl:wm x) (hinc:cN d w) (hk:∀ d' w' a b v',Gr d w d' w'→mn a=true→eN d' a x.s→mn b=true→eN d' b x.e→Sl KB 3 d' v' x.ks→k (.agg #[a,b,v',.int .i8 0]) w') :
    aX prog 84 #[.agg #[.string ⟨x.s.toArray⟩,.string ⟨x.e.toArray⟩,kv]] k w:=by
 obtain ⟨ka,kc,rfl⟩:=hv.form
 refine ae [.cell 2 114] func84 ?_
 refine an ?_
 refine ay (sq [0] (.read 1 (sq [3] (.read 4 (sq [6] (.read 7 (.alt (.alt (.eff 2 [4,7] (.alt (.eff 5 [1,7] (.eff 8 [1,4] (sq [9] (.eff 10 [] .done)))) (.eff 8 [1,4] (.eff 5 [1,7] (sq [9] (.eff 10 [] .done)))))) (.eff 5 [1,7] (.alt (.eff 2 [4,7] (.eff 8 [1,4] (sq [9] (.eff 10 [] .done)))) (.eff 8 [1,4] (.eff 2 [4,7] (sq [9] (.eff 10 [] .done))))))) (.eff 8 [1,4] (.alt (.eff 2 [4,7] (.eff 5 [1,7] (sq [9] (.eff 10 [] .done)))) (.eff 5 [1,7] (.eff 2 [4,7] (sq [9] (.eff 10 [] .done))))))))))))) ?_
 refine an ?_
 obtain ⟨b,hb⟩:∃ b,b=w.heap.size:=⟨_,rfl⟩
 obtain ⟨w1,hw1⟩:∃ w1,w1=((w.alloc (.cells #[.string ⟨x.s.toArray⟩,.string ⟨x.e.toArray⟩,.slice ka x.ks.length kc] 56)).alloc (.cells #[.slice none 0 0,.slice none 0 0,.slice none 0 0,.int .i8 0] 114)).drew:=⟨_,rfl⟩
 rw [← hw1,← hb]
 have k1:bj w w1:=by rw [hw1]; exact Keep.drew ((aM _).trans (aM _))
 have z1:w1.heap.size=w.heap.size+2:=by rw [hw1,World.size_drew,World.size_alloc,World.size_alloc]
 have a0:w1.cell? ⟨b,0,none⟩=some (.string ⟨x.s.toArray⟩):=by rw [hw1,hb]; exact bk @aA
 have a1:w1.cell? ⟨b,1,none⟩=some (.string ⟨x.e.toArray⟩):=by rw [hw1,hb]; exact bk @aA
 have a2:w1.cell? ⟨b,2,none⟩=some (.slice ka x.ks.length kc):=by rw [hw1,hb]; exact bk @aA
 have b0:w1.cell? ⟨b+1,0,none⟩=some (.slice none 0 0):=by rw [hw1,hb]; exact bk @aA
 have b1:w1.cell? ⟨b+1,1,none⟩=some (.slice none 0 0):=by rw [hw1,hb]; exact bk @aA
 have b2:w1.cell? ⟨b+1,2,none⟩=some (.slice none 0 0):=by rw [hw1,hb]; exact bk @aA
 have b3:w1.cell? ⟨b+1,3,none⟩=some (.int .i8 0):=by rw [hw1,hb]; exact bk @aA
 have f1:∀ o,w1.frozen? ⟨b+1,o,none⟩=false:=fun o=>by rw [hw1,hb]; simp (disch:=first | exact dZ | fail) only [go_sem]
 have ob:cx d (b+1):=hinc.out (by omega)
 have t1:Gr d w1 d w1:=Gr.refl (hinc.trans k1.inc)
 refine ⟨⟨?_,?_⟩,?_⟩
 ·refine eW t1.j hl.1 fun d2 w2 sa sn sc g2 hS => ?_
  have t2:=t1.trans g2
  have c0:=t2.x.cell a0
  have c1:=t2.x.cell a1
  have c2:=t2.x.cell a2
  refine eA @c0 @c1 @c2 ?_
  refine ⟨?_,?_⟩
  ·refine eW t2.j hl.2.1 fun d3 w3 ea en ec g3 hE => ?_
   have t3:=t2.trans g3
   have hS:=hS.inc g3.i
   have c0:=t3.x.cell a0
   have c1:=t3.x.cell a1
   have c2:=t3.x.cell a2
   refine eA @c0 @c1 @c2 ?_
   refine iL (hv.inc KE.mono t3.i) hl.2.2.1 hl.2.2.2 t3.j fun d4 w4 v4 g4 hQ => ?_
   obtain ⟨va,vc,rfl⟩:=hQ.form
   have t4:=t3.trans g4
   have hS:=hS.inc g4.i
   have hE:=hE.inc g4.i
   have c0:=t4.x.cell a0
   have c1:=t4.x.cell a1
   have c2:=t4.x.cell a2
   have b0:=t4.x.cell b0
   have b1:=t4.x.cell b1
   have b2:=t4.x.cell b2
   have b3:=t4.x.cell b3
   have f4:∀ o,w4.frozen? ⟨b+1,o,none⟩=false:=fun o=>by rw [t4.x.frozen _ o (by omega)]; exact f1 o
   refine xq @c0 @c1 @c2 @b0 @b1 @b2 @b3 @f4 ?_
   have k4:=k1.trans t4.x
   have ho:cx d4 (b+1):=t4.o _ (by omega) ob
   refine hk d4 _ _ _ _ ⟨cC (cC (cC (cC k4 (by omega)) (by omega)) (by omega)) (by omega),t4.i,?_,fun c hc ho=>t4.o c (aI hc k1.size) ho⟩ rfl hS rfl hE hQ
   exact (((t4.j.set ho).set ho).set ho).set ho
  ·refine iL (hv.inc KE.mono t2.i) hl.2.2.1 hl.2.2.2 t2.j fun d3 w3 v4 g3 hQ => ?_
   obtain ⟨va,vc,rfl⟩:=hQ.form
   have t3:=t2.trans g3
   have hS:=hS.inc g3.i
   have c0:=t3.x.cell a0
   have c1:=t3.x.cell a1
   have c2:=t3.x.cell a2
   refine eA @c0 @c1 @c2 ?_
   refine eW t3.j hl.2.1 fun d4 w4 ea en ec g4 hE => ?_
   have t4:=t3.trans g4
   have hS:=hS.inc g4.i
   have hQ:=hQ.inc KB.mono g4.i
   have c0:=t4.x.cell a0
   have c1:=t4.x.cell a1
   have c2:=t4.x.cell a2
   have b0:=t4.x.cell b0
   have b1:=t4.x.cell b1
   have b2:=t4.x.cell b2
   have b3:=t4.x.cell b3
   have f4:∀ o,w4.frozen? ⟨b+1,o,none⟩=false:=fun o=>by rw [t4.x.frozen _ o (by omega)]; exact f1 o
   refine xq @c0 @c1 @c2 @b0 @b1 @b2 @b3 @f4 ?_
   have k4:=k1.trans t4.x
   have ho:cx d4 (b+1):=t4.o _ (by omega) ob
   refine hk d4 _ _ _ _ ⟨cC (cC (cC (cC k4 (by omega)) (by omega)) (by omega)) (by omega),t4.i,?_,fun c hc ho=>t4.o c (aI hc k1.size) ho⟩ rfl hS rfl hE hQ
   exact (((t4.j.set ho).set ho).set ho).set ho
 ·refine eW t1.j hl.2.1 fun d2 w2 ea en ec g2 hE => ?_
  have t2:=t1.trans g2
  have c0:=t2.x.cell a0
  have c1:=t2.x.cell a1
  have c2:=t2.x.cell a2
  refine eA @c0 @c1 @c2 ?_
  refine ⟨?_,?_⟩
  ·refine eW t2.j hl.1 fun d3 w3 sa sn sc g3 hS => ?_
   have t3:=t2.trans g3
   have hE:=hE.inc g3.i
   have c0:=t3.x.cell a0
   have c1:=t3.x.cell a1
   have c2:=t3.x.cell a2
   refine eA @c0 @c1 @c2 ?_
   refine iL (hv.inc KE.mono t3.i) hl.2.2.1 hl.2.2.2 t3.j fun d4 w4 v4 g4 hQ => ?_
   obtain ⟨va,vc,rfl⟩:=hQ.form
   have t4:=t3.trans g4
   have hE:=hE.inc g4.i
   have hS:=hS.inc g4.i
   have c0:=t4.x.cell a0
   have c1:=t4.x.cell a1
   have c2:=t4.x.cell a2
   have b0:=t4.x.cell b0
   have b1:=t4.x.cell b1
   have b2:=t4.x.cell b2
   have b3:=t4.x.cell b3
   have f4:∀ o,w4.frozen? ⟨b+1,o,none⟩=false:=fun o=>by rw [t4.x.frozen _ o (by omega)]; exact f1 o
   refine xq @c0 @c1 @c2 @b0 @b1 @b2 @b3 @f4 ?_
   have k4:=k1.trans t4.x
   have ho:cx d4 (b+1):=t4.o _ (by omega) ob
   refine hk d4 _ _ _ _ ⟨cC (cC (cC (cC k4 (by omega)) (by omega)) (by omega)) (by omega),t4.i,?_,fun c hc ho=>t4.o c (aI hc k1.size) ho⟩ rfl hS rfl hE hQ
   exact (((t4.j.set ho).set ho).set ho).set ho
  ·refine iL (hv.inc KE.mono t2.i) hl.2.2.1 hl.2.2.2 t2.j fun d3 w3 v4 g3 hQ => ?_
   obtain ⟨va,vc,rfl⟩:=hQ.form
   have t3:=t2.trans g3
   have hE:=hE.inc g3.i
   have c0:=t3.x.cell a0
   have c1:=t3.x.cell a1
   have c2:=t3.x.cell a2
   refine eA @c0 @c1 @c2 ?_
   refine eW t3.j hl.1 fun d4 w4 sa sn sc g4 hS => ?_
   have t4:=t3.trans g4
   have hE:=hE.inc g4.i
   have hQ:=hQ.inc KB.mono g4.i
   have c0:=t4.x.cell a0
   have c1:=t4.x.cell a1
   have c2:=t4.x.cell a2
   have b0:=t4.x.cell b0
   have b1:=t4.x.cell b1
   have b2:=t4.x.cell b2
   have b3:=t4.x.cell b3
   have f4:∀ o,w4.frozen? ⟨b+1,o,none⟩=false:=fun o=>by rw [t4.x.frozen _ o (by omega)]; exact f1 o
   refine xq @c0 @c1 @c2 @b0 @b1 @b2 @b3 @f4 ?_
   have k4:=k1.trans t4.x
   have ho:cx d4 (b+1):=t4.o _ (by omega) ob
   refine hk d4 _ _ _ _ ⟨cC (cC (cC (cC k4 (by omega)) (by omega)) (by omega)) (by omega),t4.i,?_,fun c hc ho=>t4.o c (aI hc k1.size) ho⟩ rfl hS rfl hE hQ
   exact (((t4.j.set ho).set ho).set ho).set ho
 ·refine iL (hv.inc KE.mono t1.i) hl.2.2.1 hl.2.2.2 t1.j fun d2 w2 v4 g2 hQ => ?_
  obtain ⟨va,vc,rfl⟩:=hQ.form
  have t2:=t1.trans g2
  have c0:=t2.x.cell a0
  have c1:=t2.x.cell a1
  have c2:=t2.x.cell a2
  refine eA @c0 @c1 @c2 ?_
  refine ⟨?_,?_⟩
  ·refine eW t2.j hl.1 fun d3 w3 sa sn sc g3 hS => ?_
   have t3:=t2.trans g3
   have hQ:=hQ.inc KB.mono g3.i
   have c0:=t3.x.cell a0
   have c1:=t3.x.cell a1
   have c2:=t3.x.cell a2
   refine eA @c0 @c1 @c2 ?_
   refine eW t3.j hl.2.1 fun d4 w4 ea en ec g4 hE => ?_
   have t4:=t3.trans g4
   have hQ:=hQ.inc KB.mono g4.i
   have hS:=hS.inc g4.i
   have c0:=t4.x.cell a0
   have c1:=t4.x.cell a1
   have c2:=t4.x.cell a2
   have b0:=t4.x.cell b0
   have b1:=t4.x.cell b1
   have b2:=t4.x.cell b2
   have b3:=t4.x.cell b3
   have f4:∀ o,w4.frozen? ⟨b+1,o,none⟩=false:=fun o=>by rw [t4.x.frozen _ o (by omega)]; exact f1 o
   refine xq @c0 @c1 @c2 @b0 @b1 @b2 @b3 @f4 ?_
   have k4:=k1.trans t4.x
   have ho:cx d4 (b+1):=t4.o _ (by omega) ob
   refine hk d4 _ _ _ _ ⟨cC (cC (cC (cC k4 (by omega)) (by omega)) (by omega)) (by omega),t4.i,?_,fun c hc ho=>t4.o c (aI hc k1.size) ho⟩ rfl hS rfl hE hQ
   exact (((t4.j.set ho).set ho).set ho).set ho
  ·refine eW t2.j hl.2.1 fun d3 w3 ea en ec g3 hE => ?_
   have t3:=t2.trans g3
   have hQ:=hQ.inc KB.mono g3.i
   have c0:=t3.x.cell a0
   have c1:=t3.x.cell a1
   have c2:=t3.x.cell a2
   refine eA @c0 @c1 @c2 ?_
   refine eW t3.j hl.1 fun d4 w4 sa sn sc g4 hS => ?_
   have t4:=t3.trans g4
   have hQ:=hQ.inc KB.mono g4.i
   have hE:=hE.inc g4.i
   have c0:=t4.x.cell a0
   have c1:=t4.x.cell a1
   have c2:=t4.x.cell a2
   have b0:=t4.x.cell b0
   have b1:=t4.x.cell b1
   have b2:=t4.x.cell b2
   have b3:=t4.x.cell b3
   have f4:∀ o,w4.frozen? ⟨b+1,o,none⟩=false:=fun o=>by rw [t4.x.frozen _ o (by omega)]; exact f1 o
   refine xq @c0 @c1 @c2 @b0 @b1 @b2 @b3 @f4 ?_
   have k4:=k1.trans t4.x
   have ho:cx d4 (b+1):=t4.o _ (by omega) ob
   refine hk d4 _ _ _ _ ⟨cC (cC (cC (cC k4 (by omega)) (by omega)) (by omega)) (by omega),t4.i,?_,fun c hc ho=>t4.o c (aI hc k1.size) ho⟩ rfl hS rfl hE hQ
   exact (((t4.j.set ho).set ho).set ho).set ho
theorem BI {v:Value} {l:List Sp} (hv:Sl eJ 3 d v l) (hl:l.length < 1000000) (hlen:∀ x ∈ l,wm x) (hinc:cN d w) (hk:∀ d' w' v',Gr d w d' w'→Sl xu 4 d' v' l→k v' w'):aX prog 86 #[v] k w:=by
 obtain ⟨ka,kc,rfl⟩:=hv.form
 refine ae [.tmp 2] func86 ?_
 refine an ?_
 refine bR (fun b:Nat × Value=>[(3,b.2),(6,.slice ka l.length kc),(7,.int .i64 l.length),(8,.int .i64 b.1)])
  (fun b w'=>b.1≤l.length∧∃ d1,LoopL xu 4 114 d w d1 w' b.2 (l.take b.1)) (fun b _=>l.length - b.1) (0,.slice none 0 0) (by kernel_rfl) ?_ ⟨aP _,d,LoopL.nil hinc⟩ ?_
 ·exact bO
 rintro K2 e ⟨i,v⟩ w1 ⟨i2,d1,i3⟩ hK2
 simp only at i2 i3
 rcases aG i l.length with hi | hi
 rotate_left
 ·have hi':¬ (i:Int) < l.length:=by omega
  refine bf @hi' ?_
  obtain rfl:i=l.length:=by omega
  rw [ah] at i3
  obtain ⟨d2,g2,_,_,s2⟩:=i3.done xu.mono
  exact hk d2 w1 v g2 s2
 have hi':(i:Int) < l.length:=by omega
 obtain ⟨g,f,c,hv',hc,hat⟩:=(hv.inc eJ.mono i3.g.i).at (by omega)
 obtain ⟨rfl,rfl⟩:=sEq hv'
 obtain ⟨x,hx⟩:=gEl hi
 obtain ⟨cs,_,hcs,hR⟩:=hat i x hx
 have hmem:=aK hx
 obtain ⟨kv,rfl,hkv⟩:=hR
 obtain ⟨kva,kvc,rfl⟩:=hkv.form
 have h0:w1.cell? ⟨g,f+i * 3,none⟩=some (.string ⟨x.s.toArray⟩):=i3.g.j _ _ _ (hcs 0 _ rfl)
 have h1:w1.cell? ⟨g,f+i * 3+1,none⟩=some (.string ⟨x.e.toArray⟩):=i3.g.j _ _ _ (hcs 1 _ rfl)
 have h2:w1.cell? ⟨g,f+i * 3+2,none⟩=some (.slice kva x.ks.length kvc):=i3.g.j _ _ _ (hcs 2 _ rfl)
 refine fI @hi' @h0 @h1 @h2 ?_
 have x3:bj w1 (w1.alloc (.cells #[.string ⟨x.s.toArray⟩,.string ⟨x.e.toArray⟩,.slice kva x.ks.length kvc] 56)):=aM _
 have i4:=i3.ext xu.mono x3
 refine r8 hkv (hlen x hmem) i4.g.j fun d4 w4 sa ea v4 g4 s1 s2 s3 s4 s5 => ?_
 have i5:=i4.call xu.mono g4
 obtain ⟨sa',sc',rfl⟩:=ak s2
 obtain ⟨ea',ec',rfl⟩:=ak s4
 obtain ⟨va,vcap,rfl,_⟩:=i5.form
 obtain ⟨k4,c4,rfl⟩:=s5.form
 refine an ?_
 obtain ⟨css,o5⟩:=i5.o
 refine ju x [.slice sa' x.s.length sc',.slice ea' x.e.length ec',.slice k4 x.ks.length c4,.int .i8 0] rw195 o5 ⟨_,_,_,rfl,s1,s2,s3,s4,s5⟩ rfl (.inl rfl) rfl rfl (by simp [Value.oneCell']) (by rw [dS i2]; omega) i5.g.j fun v2 w2 o2 k2 n2 j2 _ => ?_
 refine an ?_
 refine hK2 _ _ (i+1,v2) ?_ ⟨hi,d4,?_⟩ (by simp only; omega)
 ·exact bO
 ·rw [bw hx]
  exact i5.more o2 k2 n2 j2
end
end Go.Proofs
end
