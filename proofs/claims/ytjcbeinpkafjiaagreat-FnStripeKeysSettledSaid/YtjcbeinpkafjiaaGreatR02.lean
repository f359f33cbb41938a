/- Parts of the proof: S, F. -/
import Derived.WalkKit
import Derived.Test.YtjcbeinpkafjiaaGreatChecked
import Derived.Test.YtjcbeinpkafjiaaGreatR01
set_option linter.all false
set_option maxRecDepth 10000
section
attribute [go_sem_proc ↓] reduceIte
attribute [go_sem_proc] Nat.reduceEqDiff Nat.reduceAdd
namespace Go.E
open Go
theorem bL {α:Sort _} {a b:α} (h:a=b):a=b:=h
inductive SI where
 | code (c:Code)
 | block (id:Nat)
 | inv (K:du→World→Prop)
def lg (N:Nat) (P:Program) (rs:List ResultVar) (k:aq):List SI→Exit→du→World→Prop
 | []=>H8 P rs k
 | .code c :: st=>uA (fun e w=>WP N P c (lg N P rs k st) e w) (lg N P rs k st)
 | .block id :: st=>nR id (lg N P rs k st)
 | .inv K :: st=>uA K (lg N P rs k st)
structure Cfg where
 N:Nat
 ops:Array Oper
 st:List SI
 rs:List ResultVar
 k:aq
def iF (N:Nat) (P:Program) (c:Code) (st:List SI) (rs:List ResultVar) (k:aq) (e:du) (w:World):Prop:=WP N P c (lg N P rs k st) e w
def gp (N:Nat) (P:Program) (ex:Exit) (st:List SI) (rs:List ResultVar) (k:aq) (e:du) (w:World):Prop:=lg N P rs k st ex e w
def F2 (P:Program) (C:Cfg) (l:List Oper) (e:du) (w:World):Prop:=vD P C.ops l e (fun e w=>lg C.N P C.rs C.k C.st .normal e w) w
def kw (P:Program) (d:Option Tmp) (C:Cfg) (l:List Oper) (e:du):aq:=fun v w=>F2 P C l (put e d v) w
def yi (k:aq) (w:World):Value→Prop:=fun v=>k v w
def rp (N:Nat) (P:Program) (x:Value) (a b:Code) (st:List SI) (rs:List ResultVar) (k:aq) (e:du) (w:World):Prop:=AP x (iF N P a st rs k e w) (iF N P b st rs k e w)
def C2 (c:Bool) (P:Program) (o:Oper) (C:Cfg) (l:List Oper) (e:du) (w:World):Prop:=if c then im P o e (kw P o.dst C l e) w else F2 P C l (put e o.dst undef) w
section code
variable {N:Nat} {P:Program} {st:List SI} {rs:List ResultVar} {k:aq} {e:du} {w:World}
@[go_sem ↓] theorem HY:iF N P .skip st rs k e w=gp N P .normal st rs k e w:=bL rfl
@[go_sem ↓] theorem F3 {id:Nat} {l:List Oper}:iF N P (.region id l.toArray false) st rs k e w=F2 P ⟨N,l.toArray,st,rs,k⟩ l e w:=bL rfl
@[go_sem ↓] theorem lh {a b:Code}:iF N P (.seq a b) st rs k e w=iF N P a (.code b :: st) rs k e w:=bL rfl
@[go_sem ↓] theorem HZ {c:Operand} {a b:Code}:iF N P (.cond c a b) st rs k e w=rp N P (ev e c) a b st rs k e w:=bL rfl
@[go_sem ↓] theorem iN {id:Nat} {a:Code}:iF N P (.block id a) st rs k e w=iF N P a (.block id :: st) rs k e w:=bL rfl
@[go_sem ↓] theorem Ha {id:Nat}:iF N P (.exit id) st rs k e w=gp N P (.exit id) st rs k e w:=bL rfl
@[go_sem ↓] theorem IB:iF N P .ret st rs k e w=tJ P rs e k w:=by
 show lg N P rs k st .ret e w=_
 induction st with
 | nil=>rfl
 | cons x st ih=>cases x <;> exact ih
@[go_sem ↓] theorem Hc:gp N P .normal [] rs k e w=tJ P rs e k w:=bL rfl
@[go_sem ↓] theorem GQ {c:Code}:gp N P .normal (.code c :: st) rs k e w=iF N P c st rs k e w:=bL rfl
@[go_sem ↓] theorem F4 {id:Nat}:gp N P .normal (.block id :: st) rs k e w=gp N P .normal st rs k e w:=bL rfl
@[go_sem ↓] theorem Hd {K:du→World→Prop}:gp N P .normal (.inv K :: st) rs k e w=K e w:=bL rfl
@[go_sem ↓] theorem CZ {c:Code} {i:Nat}:gp N P (.exit i) (.code c :: st) rs k e w=gp N P (.exit i) st rs k e w:=bL rfl
@[go_sem ↓] theorem C3 {K:du→World→Prop} {i:Nat}:gp N P (.exit i) (.inv K :: st) rs k e w=gp N P (.exit i) st rs k e w:=bL rfl
@[go_sem ↓] theorem Ca {i:Nat}:gp N P (.exit i) (.block i :: st) rs k e w=gp N P .normal st rs k e w:=by simp [gp,lg,nR]
@[go_sem ↓] theorem Cb {i j:Nat} (h:i≠j):gp N P (.exit i) (.block j :: st) rs k e w=gp N P (.exit i) st rs k e w:=by simp [gp,lg,nR,h]
@[go_sem] theorem kU {a b:Code}:rp N P (.bool true) a b st rs k e w=iF N P a st rs k e w:=bL rfl
@[go_sem] theorem jd {a b:Code}:rp N P (.bool false) a b st rs k e w=iF N P b st rs k e w:=bL rfl
@[go_sem ↓] theorem IC:tJ P [] e k w=k (.tuple #[]) w:=bL rfl
@[go_sem ↓] theorem ID {t:Nat}:tJ P [.tmp t] e k w=k (e t) w:=bL rfl
@[go_sem ↓] theorem He {a:Nat} {t:TypeId}:tJ P [.cell a t] e k w=gK P t (e a) k w:=bL rfl
@[go_sem ↓] theorem Hf {t u:Nat}:tJ P [.tmp t,.tmp u] e k w=k (.tuple #[e t,e u]) w:=bL rfl
theorem rq {f:FuncId} {fn:Func} {c:Code} {args:Array Value} (hf:P.funcs[f]? = some fn) (hb:fn.body=some c) (hN:fn.ntmps=N) (hrs:fn.results.toList=rs) (hok:dy N c=true) (hn:Nat.ble args.size N=true)
    (h:iF N P c [] rs k (BH args) w):aX P f args k w:=by
 subst hN
 subst hrs
 exact xG hf hb hok (by simpa using hn) h
theorem bO {c:Code} {β:Type} (sl:β→List (Nat × Value)) (I:β→World→Prop) (μ:β→World→Nat) (b₀:β) (hok:dy N c=true) (ha:iH e (sl b₀)) (h₀:I b₀ w)
    (round:∀ (K:du→World→Prop) (e:du) b w,I b w→(∀ (e':du) w' b',iH e' (sl b')→I b' w'→μ b' w' < μ b w→K e' w')→iF N P c (.inv K :: st) rs k (qv e (sl b)) w):iF N P (.loop c) st rs k e w :=
 H9 sl I μ b₀ hok ha h₀ fun e b w hI=>round _ e b w hI fun _ _ b' h1 h2 h3=>⟨b',h1,h2,h3⟩
theorem tK {x y:Code} {β:Type} (sl:β→List (Nat × Value)) (J:β→World→Prop) (hok:dy N x=true)
    (hx:∀ K:du→World→Prop,(∀ (e:du) w b,iH e (sl b)→J b w→K e w)→iF N P x (.inv K :: st) rs k e w)
    (hy:∀ (e:du) b w,J b w→iF N P y st rs k (qv e (sl b)) w):iF N P (.seq x y) st rs k e w :=
 Jw sl J (hx _ fun _ _ b h1 h2=>⟨b,h1,h2⟩) hy hok
def tL (P:Program) (C:Cfg) (t:DT) (L:List (Nat × (World→Prop))) (e:du) (w:World):Prop:=wm P C.ops t L e (fun e w=>lg C.N P C.rs C.k C.st .normal e w) w
theorem IE {id:Nat} {ops:Array Oper} (t:DT) (hm:P.follows .mixedOrders=true) (hops:ops.toList.all (jc N)=true)
    (hns:Region.noSelect ops=true) (hc:iu P ops true t ops.size (Array.replicate ops.size false) []=true)
    (h:tL P ⟨N,ops,st,rs,k⟩ t [] e w.drew):iF N P (.region id ops true) st rs k e w:=IA t hm hops hns hc h
end code
section ops
variable {P:Program} {C:Cfg} {rest:List Oper} {e:du} {w:World} {d:Option Tmp} {ty:TypeId} {pos:String} {af:Array Edge}
@[go_sem ↓] theorem JS {N:Nat} {ops:Array Oper} {st:List SI} {rs:List ResultVar} {k:aq}:F2 P ⟨N,ops,st,rs,k⟩ [] e w=gp N P .normal st rs k e w:=bL rfl
@[go_sem ↓] theorem IF {op:Op}:F2 P C ({ dst:=d,op,type:=ty,pos,after:=af,guard:=none } :: rest) e w =
    im P { dst:=d,op,type:=ty,pos,after:=af,guard:=none } e (kw P d C rest e) w:=bL rfl
def lj (l:List Oper) (j:Nat):Option Nat:=(l[j]?).bind (·.dst)
@[go_sem] theorem F5 {o:Oper} {l:List Oper}:lj (o :: l) 0=o.dst:=bL rfl
@[go_sem] theorem F6 {o:Oper} {l:List Oper} {j:Nat}:lj (o :: l) (j+1)=lj l j:=bL rfl
def IG (x:Value) (b:Bool):Bool:=match x with
 | .bool t=>t == b
 | _=>false
@[go_sem] theorem IH (t b:Bool):IG (.bool t) b=(t == b):=bL rfl
@[go_sem] theorem Hg (b:Bool):IG undef b=false:=bL rfl
def uF (o:Option Nat) (e:du) (b:Bool):Bool:=match o with
 | some d=>IG (e d) b
 | none=>false
@[go_sem] theorem GR (d:Nat) (e:du) (b:Bool):uF (some d) e b=IG (e d) b:=bL rfl
@[go_sem ↓] theorem uH {l:List Oper} {j:Nat} {b:Bool}:yn l.toArray e (some (j,b))=uF (lj l j) e b:=by
 cases h:(l[j]?).bind (·.dst) with
 | none=>simp [yn,uF,lj,h]
 | some d =>
  simp only [yn,uF,lj,IG,List.getElem?_toArray,h]
  cases e d <;> rfl
@[go_sem ↓] theorem Hh {op:Op} {j:Nat} {b:Bool} {N:Nat} {l:List Oper} {st:List SI} {rs:List ResultVar} {k:aq} :
    F2 P ⟨N,l.toArray,st,rs,k⟩ ({ dst:=d,op,type:=ty,pos,after:=af,guard:=some (j,b) } :: rest) e w =
    C2 (uF (lj l j) e b) P { dst:=d,op,type:=ty,pos,after:=af,guard:=some (j,b) } ⟨N,l.toArray,st,rs,k⟩ rest e w:=by
 rw [← uH]; exact bL rfl
@[go_sem] theorem GS {o:Oper} {l:List Oper}:C2 true P o C l e w=im P o e (kw P o.dst C l e) w:=bL rfl
@[go_sem] theorem F7 {o:Oper} {l:List Oper}:C2 false P o C l e w=F2 P C l (put e o.dst undef) w:=bL rfl
@[go_sem ↓] theorem KX {l:List Oper} {v:Value}:kw P d C l e v w=F2 P C l (put e d v) w:=bL rfl
@[go_sem ↓] theorem Jx {k:aq} {v:Value}:yi k w v=k v w:=bL rfl
def Jy (P:Program) (C:Cfg) (t:DT) (L:List (Nat × (World→Prop))) (d:Option Tmp) (e:du):aq:=fun v w=>tL P C t L (put e d v) w
def Jz (P:Program) (C:Cfg) (i:Nat) (o:Oper) (t:DT) (L:List (Nat × (World→Prop))) (e:du):aq:=fun v w=>tL P C t ((i,fun w2=>iz P C.ops o e (fun v2 _=>v2=v) w2) :: L) (put e o.dst v) w
def J0 (P:Program) (C:Cfg) (ks:List Nat) (t:DT) (L:List (Nat × (World→Prop))) (d:Option Tmp) (e:du):aq:=fun v w=>oN ks L w∧tL P C t L (put e d v) w
def AQ (o:Option Oper) (P:Program) (C:Cfg) (t:DT) (L:List (Nat × (World→Prop))) (e:du) (w:World):Prop:=match o with
 | some o=>iz P C.ops o e (Jy P C t L o.dst e) w
 | none=>False
def C4 (o:Option Oper) (P:Program) (C:Cfg) (i:Nat) (t:DT) (L:List (Nat × (World→Prop))) (e:du) (w:World):Prop:=match o with
 | some o=>iz P C.ops o e (Jz P C i o t L e) w
 | none=>False
def GT (o:Option Oper) (P:Program) (C:Cfg) (ks:List Nat) (t:DT) (L:List (Nat × (World→Prop))) (e:du) (w:World):Prop:=match o with
 | some o=>iz P C.ops o e (J0 P C ks t L o.dst e) w
 | none=>False
section trees
variable {L:List (Nat × (World→Prop))} {t:DT} {N:Nat} {l:List Oper} {st:List SI} {rs:List ResultVar} {k:aq} {i:Nat} {is ks:List Nat} {v:Value} {op:Op} {o:Oper}
@[go_sem ↓] theorem II:tL P ⟨N,l.toArray,st,rs,k⟩ .done L e w=gp N P .normal st rs k e w:=bL rfl
@[go_sem ↓] theorem C5:tL P ⟨N,l.toArray,st,rs,k⟩ (.free i t) L e w=AQ l[i]? P ⟨N,l.toArray,st,rs,k⟩ t L e w:=by
 simp only [tL,wm,List.getElem?_toArray,AQ]; cases l[i]? <;> rfl
@[go_sem ↓] theorem J1:tL P ⟨N,l.toArray,st,rs,k⟩ (sq (i :: is) t) L e w=AQ l[i]? P ⟨N,l.toArray,st,rs,k⟩ (sq is t) L e w:=C5
@[go_sem ↓] theorem GU:tL P C (sq [] t) L e w=tL P C t L e w:=bL rfl
@[go_sem ↓] theorem IJ:tL P ⟨N,l.toArray,st,rs,k⟩ (.read i t) L e w=C4 l[i]? P ⟨N,l.toArray,st,rs,k⟩ i t L e w:=by
 simp only [tL,wm,List.getElem?_toArray,C4]; cases l[i]? <;> rfl
@[go_sem ↓] theorem JT:tL P ⟨N,l.toArray,st,rs,k⟩ (.eff i ks t) L e w=GT l[i]? P ⟨N,l.toArray,st,rs,k⟩ ks t L e w:=by
 simp only [tL,wm,List.getElem?_toArray,GT]; cases l[i]? <;> rfl
@[go_sem ↓] theorem JU {t2:DT}:tL P C (.alt t t2) L e w=(tL P C t L e w∧tL P C t2 L e w):=bL rfl
@[go_sem] theorem GV:AQ (some o) P C t L e w=iz P C.ops o e (Jy P C t L o.dst e) w:=bL rfl
@[go_sem] theorem GW:C4 (some o) P C i t L e w=iz P C.ops o e (Jz P C i o t L e) w:=bL rfl
@[go_sem] theorem Hi:GT (some o) P C ks t L e w=iz P C.ops o e (J0 P C ks t L o.dst e) w:=bL rfl
@[go_sem ↓] theorem Hj {ops:Array Oper}:iz P ops { dst:=d,op,type:=ty,pos,after:=af,guard:=none } e k w=im P { dst:=d,op,type:=ty,pos,after:=af,guard:=none } e k w:=bL rfl
def GX (c:Bool) (P:Program) (o:Oper) (e:du) (k:aq) (w:World):Prop:=if c then im P o e k w else k undef w
@[go_sem] theorem Hk:GX true P o e k w=im P o e k w:=bL rfl
@[go_sem] theorem GY:GX false P o e k w=k undef w:=bL rfl
@[go_sem ↓] theorem Hl {b:Bool} {j:Nat}:iz P l.toArray { dst:=d,op,type:=ty,pos,after:=af,guard:=some (j,b) } e k w=GX (uF (lj l j) e b) P { dst:=d,op,type:=ty,pos,after:=af,guard:=some (j,b) } e k w:=by
 rw [← uH]; exact bL rfl
@[go_sem ↓] theorem J2:Jy P C t L d e v w=tL P C t L (put e d v) w:=bL rfl
@[go_sem ↓] theorem J3:Jz P C i o t L e v w=tL P C t ((i,fun w2=>iz P C.ops o e (fun v2 _=>v2=v) w2) :: L) (put e o.dst v) w:=bL rfl
@[go_sem ↓] theorem J4:J0 P C ks t L d e v w=(oN ks L w∧tL P C t L (put e d v) w):=bL rfl
@[go_sem ↓] theorem GZ {G:World→Prop}:oN ks ((i,G) :: L) w=((if i ∈ ks then G w else True)∧oN ks L w):=by simp [oN]
@[go_sem ↓] theorem Hm:oN ks [] w=True:=bL rfl
end trees
attribute [go_sem] List.getElem?_cons_zero List.getElem?_cons_succ true_and and_true
end ops
@[go_sem] theorem J5 (e:du) (t:Nat):ev e (.tmp t)=e t:=bL rfl
@[go_sem] theorem IK (e:du) (v:Value):ev e (.const v)=v:=bL rfl
@[go_sem] theorem JV (e:du) (f:Nat):ev e (.func f) = .func (.func f) #[] #[]:=bL rfl
@[go_sem] theorem J6 (e:du) (d:Nat) (v:Value) (i:Nat):put e (some d) v i=if i=d then v else e i:=bL rfl
@[go_sem] theorem J7 (e:du) (v:Value) (i:Nat):put e none v i=e i:=bL rfl
@[go_sem] theorem JW (l:List Value) (i:Nat):BH l.toArray i=l.getD i undef:=by simp [BH]
@[go_sem] theorem Hn (e:du) (j:Nat) (v:Value) (l:List (Nat × Value)) (i:Nat):qv e ((j,v) :: l) i=if i=j then v else qv e l i:=bL rfl
@[go_sem] theorem Ho (e:du):iH e []=True:=bL rfl
@[go_sem] theorem Ga (e:du) (i:Nat) (v:Value) (l:List (Nat × Value)):iH e ((i,v) :: l)=(e i=v∧iH e l):=bL rfl
attribute [go_sem] List.getD_cons_zero List.getD_cons_succ List.getD_nil
def C6 (c a b:Value) (q:Value→Prop):Prop:=rW c fun t=>q (if t then a else b)
section op
variable {P:Program} {e:du} {k:aq} {w:World} {d:Option Tmp} {ty:TypeId} {pos:String} {af:Array Edge} {g:Option (Nat × Bool)}
@[go_sem ↓] theorem IL {x:Operand}:im P { dst:=d,op := .move x,type:=ty,pos,after:=af,guard:=g } e k w=k (ev e x) w:=bL rfl
@[go_sem ↓] theorem Gb {x:Operand}:im P { dst:=d,op := .assign x,type:=ty,pos,after:=af,guard:=g } e k w=k (ev e x) w:=bL rfl
@[go_sem ↓] theorem IM {c a b:Operand}:im P { dst:=d,op := .pick c a b,type:=ty,pos,after:=af,guard:=g } e k w=C6 (ev e c) (ev e a) (ev e b) (yi k w):=bL rfl
@[go_sem ↓] theorem IN {t:TypeId} {a:Operand}:im P { dst:=d,op := .load t a,type:=ty,pos,after:=af,guard:=g } e k w=gK P t (ev e a) k w:=bL rfl
@[go_sem ↓] theorem Hp {t:TypeId} {a x:Operand}:im P { dst:=d,op := .store t a x,type:=ty,pos,after:=af,guard:=g } e k w=jN P t (ev e a) (ev e x) k w:=bL rfl
@[go_sem ↓] theorem E8 {x:Operand}:im P { dst:=d,op := .nilCheck x,type:=ty,pos,after:=af,guard:=g } e k w=qs (ev e x) (yi k w):=bL rfl
@[go_sem ↓] theorem Es {t:TypeId} {x:Operand} {f:Nat}:im P { dst:=d,op := .fieldAddr t x f,type:=ty,pos,after:=af,guard:=g } e k w=fb (A7 P t f) (ev e x) (yi k w):=bL rfl
@[go_sem ↓] theorem Et {t:TypeId} {x i:Operand}:im P { dst:=d,op := .indexAddr t x i,type:=ty,pos,after:=af,guard:=g } e k w=eX P t (ev e x) (ev e i) (yi k w):=bL rfl
@[go_sem ↓] theorem Hq {t:TypeId} {x i:Operand}:im P { dst:=d,op := .index t x i,type:=ty,pos,after:=af,guard:=g } e k w=kP P t (ev e x) (ev e i) (yi k w):=bL rfl
@[go_sem ↓] theorem Hr {t yt:TypeId} {op:BinOp} {x y:Operand}:im P { dst:=d,op := .binOp op t x y yt,type:=ty,pos,after:=af,guard:=g } e k w=cx P op t x y (ev e x) (ev e y) (yi k w):=bL rfl
@[go_sem ↓] theorem IP {t:TypeId} {op:UnOp} {x:Operand}:im P { dst:=d,op := .unOp op t x,type:=ty,pos,after:=af,guard:=g } e k w=F1 op (ev e x) (yi k w):=bL rfl
@[go_sem ↓] theorem F8 {x:Operand} {i:Nat}:im P { dst:=d,op := .extract x i,type:=ty,pos,after:=af,guard:=g } e k w=ie (ev e x) i (yi k w):=bL rfl
@[go_sem ↓] theorem AR {t:TypeId} {x:Operand}:im P { dst:=d,op := .makeInterface t x,type:=ty,pos,after:=af,guard:=g } e k w=dG P t (ev e x) (yi k w):=bL rfl
@[go_sem ↓] theorem E9 {fn:Fn} {a b:Array Operand}:im P { dst:=d,op := .makeFunc fn a b,type:=ty,pos,after:=af,guard:=g } e k w=k (.func fn (a.map (ev e)) (b.map (ev e))) w:=bL rfl
@[go_sem ↓] theorem Hs {t:TypeId}:im P { dst:=d,op := .alloc t,type:=ty,pos,after:=af,guard:=g } e k w=dw P (Instr.alloc t true (.tuple #[])) k w:=bL rfl
@[go_sem ↓] theorem JX {t:TypeId} {x:Operand}:im P { dst:=d,op := .box t x,type:=ty,pos,after:=af,guard:=g } e k w=dw P (Instr.box t (ev e x)) k w:=bL rfl
@[go_sem ↓] theorem Ht {t:TypeId} {ps:Array (Nat × Operand)}:im P { dst:=d,op := .build t ps,type:=ty,pos,after:=af,guard:=g } e k w=cn P t (ps.map fun (i,x)=>(i,ev e x)) (yi k w):=bL rfl
@[go_sem ↓] theorem F9 {s t:TypeId} {x:Operand}:im P { dst:=d,op := .convert s t x,type:=ty,pos,after:=af,guard:=g } e k w=fC P s t (ev e x) k w:=bL rfl
@[go_sem ↓] theorem Hu {t:TypeId} {x:Operand} {lo hi mx:Option Operand}:im P { dst:=d,op := .slice t x lo hi mx,type:=ty,pos,after:=af,guard:=g } e k w=dW P t (ev e x) (lo.map (ev e)) (hi.map (ev e)) (mx.map (ev e)) (yi k w):=bL rfl
@[go_sem ↓] theorem IQ {f:Operand} {args:Array Operand} {ats:Array TypeId}:im P { dst:=d,op := .call { callee := .value f,args,argTypes:=ats },type:=ty,pos,after:=af,guard:=g } e k w=lI P (ev e f) (args.map (ev e)) k w:=bL rfl
@[go_sem ↓] theorem Gc {r:Operand} {m:String} {args:Array Operand} {ats:Array TypeId}:im P { dst:=d,op := .call { callee := .invoke r m,args,argTypes:=ats },type:=ty,pos,after:=af,guard:=g } e k w=bu P (ev e r) m (args.map (ev e)) k w:=bL rfl
@[go_sem ↓] theorem JY {x:Operand} {t:TypeId}:im P { dst:=d,op := .call { callee := .builtin .len,args := #[x],argTypes := #[t] },type:=ty,pos,after:=af,guard:=g } e k w=oC P (some t) (some (ev e x)) (yi k w):=by
 simp only [im,gn,List.map_toArray,List.map_cons,List.map_nil,List.getElem?_toArray,List.getElem?_cons_zero]; rfl
@[go_sem ↓] theorem JZ {x:Operand} {t:TypeId}:im P { dst:=d,op := .call { callee := .builtin .cap,args := #[x],argTypes := #[t] },type:=ty,pos,after:=af,guard:=g } e k w=rX P (some t) (some (ev e x)) (yi k w):=by
 simp only [im,gn,List.map_toArray,List.map_cons,List.map_nil,List.getElem?_toArray,List.getElem?_cons_zero]; rfl
end op
section cells
variable {w:World} {b b' o o':Nat} {v:Value} {ob:Obj}
@[go_sem] theorem cC:(w.setCell ⟨b,o,none⟩ v).cell? ⟨b,o,none⟩=(w.cell? ⟨b,o,none⟩).map fun _=>v:=by
 cases h:w.cell? ⟨b,o,none⟩ with
 | some x=>rw [World.cell?_setCell_same w _ v h]; rfl
 | none =>
  simp only [World.cell?,World.setCell,Array.getElem?_modify,if_true] at h ⊢
  cases hb:w.heap[b]? with
  | none=>rfl
  | some x=>cases x <;> simp_all
@[go_sem] theorem gq (h:o≠o'):(w.setCell ⟨b,o,none⟩ v).cell? ⟨b',o',none⟩=w.cell? ⟨b',o',none⟩:=World.cell?_setCell_other w _ _ v (fun he=>h (by cases he; rfl))
@[go_sem] theorem xJ (h:b≠b'):(w.setCell ⟨b,o,none⟩ v).cell? ⟨b',o',none⟩=w.cell? ⟨b',o',none⟩:=World.cell?_setCell_other w _ _ v (fun he=>h (by cases he; rfl))
attribute [go_sem] World.frozen?_setCell World.size_setCell World.size_alloc World.size_drew World.cell?_drew World.frozen?_drew Option.map_some List.map_toArray List.map_cons List.map_nil
end cells
@[go_sem] theorem C7 (a:Array Value):a ++ #[]=a:=by simp
@[go_sem] theorem C8 (a:Array Value) : #[]++a=a:=by simp
@[go_sem] theorem C9 (x:Value) (l:List Value) : #[x]++l.toArray=(x :: l).toArray:=by simp
attribute [go_sem] List.size_toArray ag List.length_nil List.cons_append List.nil_append
def IR (o:Option Value) (q:Value→Prop):Prop:=oA o q
@[go_sem] theorem Hv (v:Value) (q:Value→Prop):IR (some v) q=q v:=bL rfl
def FA (o:Option Value) (k:aq) (w:World):Prop:=oA o fun v=>k v w
@[go_sem] theorem Hw (v:Value) (k:aq) (w:World):FA (some v) k w=k v w:=bL rfl
def oQ (a:Addr) (i n:Nat) (acc:List Value) (k:aq) (w:World):Prop:=jy w a i n fun vs=>k (.agg (acc++vs).toArray) w
def DA (o:Option Value) (a:Addr) (i n:Nat) (acc:List Value) (k:aq) (w:World):Prop:=oA o fun v=>oQ a (i+1) n (acc++[v]) k w
@[go_sem] theorem Gd (v:Value) (a:Addr) (i n:Nat) (acc:List Value) (k:aq) (w:World):DA (some v) a i n acc k w=oQ a (i+1) n (acc++[v]) k w:=bL rfl
def tE (a:Addr) (i:Nat) (vs:List Value) (k:aq) (w:World):Prop:=pf w a i vs fun w'=>k undef w'
def vL (o:Option Value) (fz:Bool) (v:Value) (a:Addr) (i:Nat) (vs:List Value) (k:aq) (w:World):Prop:=Er o fz v (tE a (i+1) vs k (w.setCell (a.add i) v))
def bd (o:Option Value) (d:Int):Int:=match o with
 | some (.int _ i)=>i
 | _=>d
def DD (o:Option Value):Bool:=match o with
 | none=>true
 | some (.int _ _)=>true
 | some _=>false
@[go_sem] theorem oR (d:Int):bd none d=d:=bL rfl
theorem xK {d:Int} {q:Int→Prop}:gI none d q=q d:=rfl
theorem j0 {o:Option Value} {d:Int} {q:Int→Prop} (h:DD o=true):gI o d q=q (bd o d):=by
 unfold DD at h
 split at h <;> first | rfl | simp at h
section vals
variable {P:Program} {k:aq} {w:World} {q:Value→Prop}
def Ja (x:Value) (k:aq) (w:World):Prop:=match x with
 | .pointer (some a)=>FA (w.cell? a) k w
 | _=>False
def Jb (n:Nat) (x:Value) (k:aq) (w:World):Prop:=match x with
 | .pointer (some a)=>oQ a 0 n [] k w
 | _=>False
theorem Ge {t:TypeId} {x:Value} (h:iy P t=true):gK P t x k w=Ja x k w:=by
 unfold Ja; split
 ·simp [gK,h,FA]
 ·unfold gK; split
  ·simp_all
  ·rfl
theorem Gf {t:TypeId} {x:Value} {n:Nat} (h:wt P t=some n) (ha:ym P t=true):gK P t x k w=Jb n x k w:=by
 have hs:iy P t=false:=by
  unfold ym at ha; unfold iy; split at ha <;> simp_all
 unfold Jb; split
 ·simp [gK,hs,ha,h,oQ]
 ·unfold gK; split
  ·simp_all
  ·rfl
@[go_sem] theorem J8 {a:Addr}:Ja (.pointer (some a)) k w=FA (w.cell? a) k w:=bL rfl
@[go_sem] theorem J9 {n:Nat} {a:Addr}:Jb n (.pointer (some a)) k w=oQ a 0 n [] k w:=bL rfl
def vM (n:Nat) (x v:Value) (k:aq) (w:World):Prop:=match x with
 | .pointer (some a)=>v.cells.size=n∧tE a 0 v.cells.toList k w
 | _=>False
theorem Gg {t:TypeId} {x v:Value} {n:Nat} (h:wt P t=some n):jN P t x v k w=vM n x v k w:=by
 unfold vM; split
 ·simp only [jN,h,cg,tE,aK,eq_comm]
 ·unfold jN; split
  ·simp_all
  ·rfl
@[go_sem] theorem Jc {a:Addr} {kd:IntKind} {n:Int}:vM 1 (.pointer (some a)) (.int kd n) k w=tE a 0 [.int kd n] k w:=by simp [vM,Value.cells]
@[go_sem] theorem IS {a:Addr} {b:Bool}:vM 1 (.pointer (some a)) (.bool b) k w=tE a 0 [.bool b] k w:=by simp [vM,Value.cells]
@[go_sem] theorem Gh {a:Addr} {s:ByteArray}:vM 1 (.pointer (some a)) (.string s) k w=tE a 0 [.string s] k w:=by simp [vM,Value.cells]
@[go_sem] theorem GA {a:Addr} {p:Option Addr}:vM 1 (.pointer (some a)) (.pointer p) k w=tE a 0 [.pointer p] k w:=by simp [vM,Value.cells]
@[go_sem] theorem Hx {a:Addr} {p:Option Addr} {l c:Nat}:vM 1 (.pointer (some a)) (.slice p l c) k w=tE a 0 [.slice p l c] k w:=by simp [vM,Value.cells]
@[go_sem] theorem IT {a:Addr} {f:Fn} {x y:Array Value}:vM 1 (.pointer (some a)) (.func f x y) k w=tE a 0 [.func f x y] k w:=by simp [vM,Value.cells]
@[go_sem] theorem FB {a:Addr}:vM 1 (.pointer (some a)) .nilIface k w=tE a 0 [.nilIface] k w:=by simp [vM,Value.cells]
@[go_sem] theorem Jd {n:Nat} {a:Addr} {l:List Value} (h:l.length=n):vM n (.pointer (some a)) (.agg l.toArray) k w=tE a 0 l k w:=by simp [vM,Value.cells,h]
@[go_sem ↓] theorem Gi {a:Addr} {i:Nat} {acc:List Value}:oQ a i 0 acc k w=k (.agg acc.toArray) w:=by simp [oQ,jy]
@[go_sem ↓] theorem Gj {a:Addr} {i n:Nat} {acc:List Value}:oQ a i (n+1) acc k w=DA (w.cell? (a.add i)) a i n acc k w:=by simp [oQ,jy,DA]
@[go_sem ↓] theorem FC {a:Addr} {i:Nat}:tE a i [] k w=k undef w:=bL rfl
@[go_sem ↓] theorem xL {a:Addr} {i:Nat} {v:Value} {vs:List Value}:tE a i (v :: vs) k w=vL (w.cell? (a.add i)) (w.frozen? (a.add i)) v a i vs k w:=bL rfl
@[go_sem] theorem Je {a:Addr} {i:Nat} {x:Value} {kd:IntKind} {n:Int} {vs:List Value}:vL (some x) false (.int kd n) a i vs k w=tE a (i+1) vs k (w.setCell (a.add i) (.int kd n)):=by
 simp [vL,Er,Value.oneCell']
@[go_sem] theorem IU {a:Addr} {i:Nat} {x:Value} {b:Bool} {vs:List Value}:vL (some x) false (.bool b) a i vs k w=tE a (i+1) vs k (w.setCell (a.add i) (.bool b)):=by
 simp [vL,Er,Value.oneCell']
@[go_sem] theorem Gl {a:Addr} {i:Nat} {x:Value} {s:ByteArray} {vs:List Value}:vL (some x) false (.string s) a i vs k w=tE a (i+1) vs k (w.setCell (a.add i) (.string s)):=by
 simp [vL,Er,Value.oneCell']
@[go_sem] theorem GC {a:Addr} {i:Nat} {x:Value} {p:Option Addr} {vs:List Value}:vL (some x) false (.pointer p) a i vs k w=tE a (i+1) vs k (w.setCell (a.add i) (.pointer p)):=by
 simp [vL,Er,Value.oneCell']
@[go_sem] theorem Hy {a:Addr} {i:Nat} {x:Value} {p:Option Addr} {l c:Nat} {vs:List Value}:vL (some x) false (.slice p l c) a i vs k w=tE a (i+1) vs k (w.setCell (a.add i) (.slice p l c)):=by
 simp [vL,Er,Value.oneCell']
@[go_sem] theorem IW {a:Addr} {i:Nat} {x:Value} {f:Fn} {y z:Array Value} {vs:List Value}:vL (some x) false (.func f y z) a i vs k w=tE a (i+1) vs k (w.setCell (a.add i) (.func f y z)):=by
 simp [vL,Er,Value.oneCell']
@[go_sem] theorem Hz {a:Addr} {i:Nat} {x:Value} {t:TypeId} {v:Value} {vs:List Value}:vL (some x) false (.iface t v) a i vs k w=tE a (i+1) vs k (w.setCell (a.add i) (.iface t v)):=by
 simp [vL,Er,Value.oneCell']
@[go_sem] theorem FD {a:Addr} {i:Nat} {x:Value}  {vs:List Value}:vL (some x) false .nilIface a i vs k w=tE a (i+1) vs k (w.setCell (a.add i) .nilIface):=by
 simp [vL,Er,Value.oneCell']
@[go_sem] theorem IY {a:Addr}:qs (.pointer (some a)) q=q (.pointer (some a)):=bL rfl
@[go_sem] theorem Gm {t:TypeId} {v:Value}:qs (.iface t v) q=q (.iface t v):=bL rfl
@[go_sem] theorem Eu {o:Nat} {a:Addr}:fb (some o) (.pointer (some a)) q=q (.pointer (some (a.add o))):=bL rfl
def IZ (n:Nat) (x i:Value) (q:Value→Prop):Prop:=match x,i with
 | .slice (some a) len _,.int _ i=>(0≤i∧i < len)∧q (.pointer (some (a.add (i.toNat * n))))
 | _,_=>False
theorem Gn {t:TypeId} {x i:Value} {n:Nat} (h:lS P t=some n):eX P t x i q=IZ n x i q:=by
 unfold IZ eX
 rw [h]
 cases x <;> try rfl
 rename_i a l c
 cases a <;> try rfl
 cases i <;> rfl
@[go_sem] theorem KA {n:Nat} {a:Addr} {len cap:Nat} {kd:IntKind} {i:Int} (h0:0≤i) (h1:i < len):IZ n (.slice (some a) len cap) (.int kd i) q=q (.pointer (some (a.add (i.toNat * n)))):=by simp [IZ,h0,h1]
@[go_sem] theorem Gp {a b:Value}:C6 (.bool true) a b q=q a:=bL rfl
@[go_sem] theorem GD {a b:Value}:C6 (.bool false) a b q=q b:=bL rfl
@[go_sem] theorem GE {vs:Array Value} {i:Nat}:ie (.tuple vs) i q=IR vs[i]? q:=bL rfl
@[go_sem] theorem Jf {b:Bool}:F1 .not (.bool b) q=q (.bool !b):=bL rfl
section bin
variable {t:TypeId} {xo yo:Operand} {kd:IntKind} {a b:Int}
@[go_sem] theorem Ia:cx P .add t xo yo (.int kd a) (.int kd b) q=q (.int kd (kd.wrap (a+b))):=by simp [cx,fN,kQ]
@[go_sem] theorem Ib:cx P .sub t xo yo (.int kd a) (.int kd b) q=q (.int kd (kd.wrap (a - b))):=by simp [cx,fN,kQ]
@[go_sem] theorem Ic:cx P .mul t xo yo (.int kd a) (.int kd b) q=q (.int kd (kd.wrap (a * b))):=by simp [cx,fN,kQ]
@[go_sem] theorem fi (h:b≠0):cx P .quo t xo yo (.int kd a) (.int kd b) q=q (.int kd (kd.wrap (a.tdiv b))):=by simp [cx,fN,kQ,cg,h]
@[go_sem] theorem DE:cx P .and t xo yo (.int kd a) (.int kd b) q=q (.int kd (kd.wrap (BitVec.ofInt kd.bits a &&& BitVec.ofInt kd.bits b).toNat)):=by simp only [cx,fN,kQ,Bool.false_eq_true,if_false,if_true]
@[go_sem] theorem DF:cx P .xor t xo yo (.int kd a) (.int kd b) q=q (.int kd (kd.wrap (BitVec.ofInt kd.bits a ^^^ BitVec.ofInt kd.bits b).toNat)):=by simp only [cx,fN,kQ,Bool.false_eq_true,if_false,if_true]
@[go_sem] theorem Ie:cx P .eql t xo yo (.int kd a) (.int kd b) q=q (.bool (a == b)):=by simp [cx,fN,kQ]
@[go_sem] theorem Ig:cx P .neq t xo yo (.int kd a) (.int kd b) q=q (.bool (a != b)):=by simp [cx,fN,kQ]
@[go_sem] theorem Ih:cx P .lss t xo yo (.int kd a) (.int kd b) q=q (.bool (decide (a < b))):=by simp [cx,fN,kQ]
@[go_sem] theorem Ii:cx P .leq t xo yo (.int kd a) (.int kd b) q=q (.bool (decide (a≤b))):=by simp [cx,fN,kQ]
@[go_sem] theorem Ij:cx P .gtr t xo yo (.int kd a) (.int kd b) q=q (.bool (decide (b < a))):=by simp [cx,fN,kQ]
@[go_sem] theorem Ik:cx P .geq t xo yo (.int kd a) (.int kd b) q=q (.bool (decide (b≤a))):=by simp [cx,fN,kQ]
@[go_sem] theorem ru {k2:IntKind} (h:0≤b):cx P .shl t xo yo (.int kd a) (.int k2 b) q=q (.int kd (kd.wrap (a * 2 ^ (min b.toNat kd.bits)))):=by simp [cx,fN,kR,cg,h]
@[go_sem] theorem gL {k2:IntKind} (h:0≤b):cx P .shr t xo yo (.int kd a) (.int k2 b) q=q (.int kd (a.fdiv (2 ^ (min b.toNat kd.bits)))):=by simp [cx,fN,kR,cg,h]
variable {s u:ByteArray}
@[go_sem] theorem Il {op:BinOp}:cx P op t xo yo (.string s) (.string u) q=jz op s u q:=bL rfl
@[go_sem] theorem DG:jz .eql s u q=q (.bool (s.toList == u.toList)):=bL rfl
@[go_sem] theorem DH:jz .neq s u q=q (.bool (!(s.toList == u.toList))):=bL rfl
@[go_sem] theorem DI:jz .lss s u q=q (.bool (Op.bytesLess s.toList u.toList)):=bL rfl
@[go_sem] theorem DJ:jz .leq s u q=q (.bool (Op.bytesLess s.toList u.toList || s.toList == u.toList)):=bL rfl
@[go_sem] theorem DL:jz .gtr s u q=q (.bool (!(Op.bytesLess s.toList u.toList || s.toList == u.toList))):=bL rfl
@[go_sem] theorem DM:jz .geq s u q=q (.bool (!(Op.bytesLess s.toList u.toList))):=bL rfl
def eN (P:Program) (t:TypeId):Nat :=
 match P.underlying t with
 | some (.interface _)=>1
 | some .bool=>2
 | some (.pointer _)=>3
 | some (.slice _)=>4
 | some .string=>5
 | _=>0
theorem nY (h:eN P t=1):lT P t=true:=by unfold eN at h; unfold lT; split at h <;> simp_all
theorem BQ (h:eN P t=2):P.underlying t=some .bool:=by unfold eN at h; split at h <;> simp_all
theorem xM (h:eN P t=3):∃ el,P.underlying t=some (.pointer el):=by unfold eN at h; split at h <;> simp_all
theorem kV (h:eN P t=4):∃ el,P.underlying t=some (.slice el):=by unfold eN at h; split at h <;> simp_all
theorem qw {c:Value} (h:eN P t=1):cx P .eql t xo (.const c) .nilIface .nilIface q=q (.bool true):=by simp [cx,wk,cg,nY h,lU]
theorem qy {c:Value} (h:eN P t=1):cx P .neq t xo (.const c) .nilIface .nilIface q=q (.bool false):=by simp [cx,wk,cg,nY h,lU]
theorem oS {u:TypeId} {v:Value} (h:eN P t=1):cx P .eql t xo yo (.iface u v) .nilIface q=q (.bool false):=by simp [cx,wk,cg,nY h]
theorem vN {x y:Bool} (h:eN P t=2):cx P .eql t xo yo (.bool x) (.bool y) q=q (.bool (x == y)):=by simp [cx,wk,cg,BQ h]
theorem qz {x:Option Addr} (h:eN P t=3):cx P .eql t xo yo (.pointer x) (.pointer none) q=q (.bool x.isNone):=by
 obtain ⟨el,he⟩:=xM h
 cases x <;> simp [cx,wk,cg,he]
theorem lK {x:Option Addr} (h:eN P t=3):cx P .neq t xo yo (.pointer x) (.pointer none) q=q (.bool x.isSome):=by
 obtain ⟨el,he⟩:=xM h
 cases x <;> simp [cx,wk,cg,he]
theorem oV {x:Option Addr} {l c l' c':Nat} (h:eN P t=4):cx P .eql t xo yo (.slice x l c) (.slice none l' c') q=q (.bool x.isNone):=by
 obtain ⟨el,he⟩:=kV h
 cases x <;> simp [cx,wk,cg,he]
theorem oX {x:Option Addr} {l c l' c':Nat} (h:eN P t=4):cx P .neq t xo yo (.slice x l c) (.slice none l' c') q=q (.bool x.isSome):=by
 obtain ⟨el,he⟩:=kV h
 cases x <;> simp [cx,wk,cg,he]
end bin
theorem DN {f:FuncId} {args a b:Array Value} (h:iX P f=true):lI P (.func (.func f) a b) args k w=aX P f (a++args++b) k w:=by simp [lI,h]
theorem BR {f:FuncId} {args a b:Array Value} {s:Array Value→Sem Value} (h:mO P f=some s):lI P (.func (.func f) a b) args k w=dw P (s (a++args++b)) k w:=by
 have he:iX P f=false:=by
  unfold mO at h; unfold iX
  split at h
  ·split at h
   ·simp at h
   ·rename_i hc; simp_all
  ·simp at h
 simp [lI,he,h]
theorem zB {t:TypeId} {v:Value} {m:String} {args:Array Value} {f:FuncId} (h:wu P t m=some f) (he:iX P f=true):bu P (.iface t v) m args k w=aX P f (#[v]++args) k w:=by simp [bu,cg,h,he]
theorem zD {t:TypeId} {a:Option Addr} {n c:Nat} (h:eN P t=4):oC P (some t) (some (.slice a n c)) q=q (.int .i64 n):=by
 obtain ⟨el,he⟩:=kV h
 simp [oC,he]
theorem xN {t:TypeId} {s:ByteArray} (h:eN P t=5):oC P (some t) (some (.string s)) q=q (.int .i64 s.size):=by
 have he:P.underlying t=some .string:=by unfold eN at h; split at h <;> simp_all
 simp [oC,he]
theorem zE {t:TypeId} {a:Option Addr} {n c:Nat} (h:eN P t=4):rX P (some t) (some (.slice a n c)) q=q (.int .i64 c):=by
 obtain ⟨el,he⟩:=kV h
 simp [rX,he]
theorem uI {t:TypeId} {a:Option Addr} {len cap n:Nat} {lo hi mx:Option Value} (h:lS P t=some n) (o1:DD lo=true) (o2:DD hi=true) (o3:DD mx=true)
    (c1:0≤bd lo 0) (c2:bd lo 0≤bd hi len) (c3:bd hi len≤bd mx cap) (c4:bd mx cap≤cap) (c5:mx.isSome=true→hi.isSome=true) :
    dW P t (.slice a len cap) lo hi mx q=q (.slice (if bd mx cap=bd lo 0 then a else a.map (·.add ((bd lo 0).toNat * n))) ((bd hi len).toNat - (bd lo 0).toNat) ((bd mx cap).toNat - (bd lo 0).toNat)):=by
 obtain ⟨el,he,hs⟩:=AN h
 simp only [dW,he,hs,j0 o1,j0 o2,j0 o3,cg]
 simp [c1,c2,c3,c4]
 exact fun _=>c5
theorem qS {t:TypeId} {a:Option Addr} {len cap n:Nat} {hi mx:Option Value} (h:lS P t=some n) (o2:DD hi=true) (o3:DD mx=true)
    (c2:0≤bd hi len) (c3:bd hi len≤bd mx cap) (c4:bd mx cap≤cap) (c5:mx.isSome=true→hi.isSome=true) :
    dW P t (.slice a len cap) none hi mx q=q (.slice a (bd hi len).toNat (bd mx cap).toNat):=by
 rw [uI h rfl o2 o3 (by simp [bd]) (by simpa [bd] using c2) c3 c4 c5]
 simp only [oR]
 cases a <;> simp [Addr.add]
theorem fj {t:TypeId} {a:Option Addr} {len cap n:Nat} {kd:IntKind} {l:Int} {hi mx:Option Value} (h:lS P t=some n) (o2:DD hi=true) (o3:DD mx=true)
    (c1:0≤l) (c2:l≤bd hi len) (c3:bd hi len≤bd mx cap) (c4:bd mx cap≤cap) (c5:mx.isSome=true→hi.isSome=true) :
    dW P t (.slice a len cap) (some (.int kd l)) hi mx q=q (.slice (if bd mx cap=l then a else a.map (·.add (l.toNat * n))) ((bd hi len).toNat - l.toNat) ((bd mx cap).toNat - l.toNat)) :=
 uI h rfl o2 o3 c1 c2 c3 c4 c5
def FE (P:Program) (t:TypeId):Option (Nat × Nat) :=
 match P.underlying t with
 | some (.array len el)=>(wt P el).map fun n=>(len,n)
 | _=>none
theorem ry {t:TypeId} {a:Addr} {len n:Nat} {hi mx:Option Value} (h:FE P t=some (len,n)) (o2:DD hi=true) (o3:DD mx=true)
    (c2:0≤bd hi len) (c3:bd hi len≤bd mx len) (c4:bd mx len≤len) (c5:mx.isSome=true→hi.isSome=true) :
    dW P t (.pointer (some a)) none hi mx q=q (.slice (some a) (bd hi len).toNat (bd mx len).toNat):=by
 unfold FE at h
 split at h
 ·rename_i len' el hu
  obtain ⟨n',hn,h2⟩:=Option.map_eq_some_iff.1 h
  simp only [Prod.mk.injEq] at h2
  obtain ⟨rfl,rfl⟩:=h2
  simp only [dW,hu,hn,xK,j0 o2,j0 o3,cg]
  have e:(if bd mx ↑len'=0 then a else a.add ((0:Int).toNat * n'))=a:=by split <;> simp [Addr.add]
  rw [e]
  simp [c2,c3,c4]
  exact fun _=>c5
 ·simp at h
end vals
end Go.E
end
section
namespace Go.Proofs
open Go Go.E
theorem Tryz.ar125:FE Tryz.prog 125=some (10,4):=by kernel_rfl
theorem Tryz.ar129:FE Tryz.prog 129=some (10,2):=by kernel_rfl
theorem Tryz.es44:lS Tryz.prog 44=some 3:=by kernel_rfl
theorem Tryz.es66:lS Tryz.prog 66=some 1:=by kernel_rfl
theorem Tryz.es107:lS Tryz.prog 107=some 1:=by kernel_rfl
theorem Tryz.es110:lS Tryz.prog 110=some 3:=by kernel_rfl
theorem Tryz.es159:lS Tryz.prog 159=some 3:=by kernel_rfl
theorem Tryz.es161:lS Tryz.prog 161=some 2:=by kernel_rfl
theorem Tryz.es166:lS Tryz.prog 166=some 1:=by kernel_rfl
theorem Tryz.kd4:eN Tryz.prog 4=2:=by kernel_rfl
theorem Tryz.kd9:eN Tryz.prog 9=5:=by kernel_rfl
theorem Tryz.kd116:eN Tryz.prog 116=1:=by kernel_rfl
theorem Tryz.kd118:eN Tryz.prog 118=1:=by kernel_rfl
theorem Tryz.kd120:eN Tryz.prog 120=3:=by kernel_rfl
theorem Tryz.kd137:eN Tryz.prog 137=3:=by kernel_rfl
theorem Tryz.ex131:mO Tryz.prog 131=some Extern.BytealgCompare.compare:=by kernel_rfl
theorem Tryz.mi9 (x:Value) (q:Value→Prop):dG Tryz.prog 9 x q=q (.iface 9 x):=by kernel_rfl
theorem Tryz.mi221 (x:Value) (q:Value→Prop):dG Tryz.prog 221 x q=q (.iface 221 x):=by kernel_rfl
theorem Tryz.mi224 (x:Value) (q:Value→Prop):dG Tryz.prog 224 x q=q (.iface 224 x):=by kernel_rfl
theorem Tryz.mi226 (x:Value) (q:Value→Prop):dG Tryz.prog 226 x q=q (.iface 226 x):=by kernel_rfl
theorem Tryz.mi228 (x:Value) (q:Value→Prop):dG Tryz.prog 228 x q=q (.iface 228 x):=by kernel_rfl
theorem Tryz.mi229 (x:Value) (q:Value→Prop):dG Tryz.prog 229 x q=q (.iface 229 x):=by kernel_rfl
theorem Tryz.mi233 (x:Value) (q:Value→Prop):dG Tryz.prog 233 x q=q (.iface 233 x):=by kernel_rfl
theorem Tryz.mi249 (x:Value) (q:Value→Prop):dG Tryz.prog 249 x q=q (.iface 249 x):=by kernel_rfl
theorem Tryz.mi252 (x:Value) (q:Value→Prop):dG Tryz.prog 252 x q=q (.iface 252 x):=by kernel_rfl
theorem Tryz.mi262 (x:Value) (q:Value→Prop):dG Tryz.prog 262 x q=q (.iface 262 x):=by kernel_rfl
theorem Tryz.mi263 (x:Value) (q:Value→Prop):dG Tryz.prog 263 x q=q (.iface 263 x):=by kernel_rfl
theorem Tryz.mi274 (x:Value) (q:Value→Prop):dG Tryz.prog 274 x q=q (.iface 274 x):=by kernel_rfl
theorem Tryz.mi327 (x:Value) (q:Value→Prop):dG Tryz.prog 327 x q=q (.iface 327 x):=by kernel_rfl
@[go_sem] theorem Tryz.qa4 {xo yo:Operand} {x y:Bool} {q:Value→Prop}:cx Tryz.prog .eql 4 xo yo (.bool x) (.bool y) q=q (.bool (x == y)):=vN Tryz.kd4
@[go_sem] theorem Tryz.le9 {s:ByteArray} {q:Value→Prop}:oC Tryz.prog (some 9) (some (.string s)) q=q (.int .i64 s.size):=xN Tryz.kd9
@[go_sem] theorem Tryz.qa116 {xo:Operand} {c:Value} {q:Value→Prop}:cx Tryz.prog .eql 116 xo (.const c) .nilIface .nilIface q=q (.bool true):=qw Tryz.kd116
@[go_sem] theorem Tryz.qb116 {xo:Operand} {c:Value} {q:Value→Prop}:cx Tryz.prog .neq 116 xo (.const c) .nilIface .nilIface q=q (.bool false):=qy Tryz.kd116
@[go_sem] theorem Tryz.qc118 {xo yo:Operand} {u:TypeId} {v:Value} {q:Value→Prop}:cx Tryz.prog .eql 118 xo yo (.iface u v) .nilIface q=q (.bool false):=oS Tryz.kd118
@[go_sem] theorem Tryz.qa120 {xo yo:Operand} {x:Option Addr} {q:Value→Prop}:cx Tryz.prog .eql 120 xo yo (.pointer x) (.pointer none) q=q (.bool x.isNone):=qz Tryz.kd120
@[go_sem] theorem Tryz.qb120 {xo yo:Operand} {x:Option Addr} {q:Value→Prop}:cx Tryz.prog .neq 120 xo yo (.pointer x) (.pointer none) q=q (.bool x.isSome):=lK Tryz.kd120
@[go_sem] theorem Tryz.qb137 {xo yo:Operand} {x:Option Addr} {q:Value→Prop}:cx Tryz.prog .neq 137 xo yo (.pointer x) (.pointer none) q=q (.bool x.isSome):=lK Tryz.kd137
@[go_sem] theorem Tryz.cl131 {args a b:Array Value} {k:aq} {w:World}:lI Tryz.prog (.func (.func 131) a b) args k w=dw Tryz.prog (Extern.BytealgCompare.compare (a++args++b)) k w:=BR Tryz.ex131
attribute [go_sem] Tryz.mi9 Tryz.mi221 Tryz.mi224 Tryz.mi226 Tryz.mi228 Tryz.mi229 Tryz.mi233 Tryz.mi249 Tryz.mi252 Tryz.mi262 Tryz.mi263 Tryz.mi274 Tryz.mi327
theorem Tryz.mix:Tryz.prog.follows .mixedOrders=true:=by kernel_rfl
abbrev CL (f:FuncId):Prop:=∀ {x a b:Array Value} {k:aq} {w:World},lI Tryz.prog (.func (.func f) a b) x k w=aX Tryz.prog f (a++x++b) k w
theorem LK {f:FuncId} (h:iX Tryz.prog f=true:=by kernel_rfl):CL f:=DN h
@[go_sem] theorem KY:CL 13∧CL 15∧CL 18∧CL 19∧CL 22∧CL 25∧CL 26∧CL 28∧CL 31∧CL 33∧CL 34∧CL 35∧CL 36∧CL 38∧CL 44∧CL 45∧CL 46∧CL 47∧CL 48∧CL 49∧CL 50∧CL 53∧CL 55∧CL 57∧CL 58∧CL 59∧CL 62∧CL 64∧CL 65∧CL 66∧CL 67∧CL 68∧CL 72∧CL 73∧CL 75∧CL 76∧CL 78∧CL 79∧CL 80∧CL 81∧CL 84∧CL 86∧CL 88∧CL 89∧CL 90∧CL 91∧CL 92∧CL 93∧CL 94∧CL 95∧CL 96∧CL 97∧CL 98∧CL 99∧CL 100∧CL 101∧CL 102∧CL 103∧CL 110∧CL 112∧CL 113∧CL 114∧CL 115∧CL 116∧CL 122∧CL 123∧CL 124∧CL 125∧CL 126∧CL 127∧CL 128∧CL 129∧CL 130∧CL 134∧CL 135∧CL 136∧CL 137∧CL 138∧CL 139∧CL 140∧CL 141∧CL 142∧CL 143∧CL 144∧CL 145∧CL 146∧CL 147∧CL 149∧CL 150∧CL 151∧CL 152∧CL 153∧CL 154∧CL 155∧CL 156∧CL 157∧CL 158∧CL 159∧CL 160∧CL 161∧CL 162∧CL 163∧CL 164∧CL 165∧CL 166∧CL 167∧CL 168∧CL 186∧CL 187∧CL 188∧CL 200∧CL 201∧CL 202∧CL 203∧CL 204∧CL 205∧CL 206∧CL 207∧CL 208∧CL 209∧CL 210∧CL 211∧CL 212∧CL 213∧CL 214∧CL 215∧CL 216∧CL 218∧CL 219∧CL 220∧CL 221∧CL 224∧CL 225∧CL 226∧CL 227∧CL 236∧CL 237∧CL 238∧CL 239∧CL 249∧CL 250∧CL 251∧CL 252∧CL 253∧CL 254∧CL 255∧CL 256:=by and_intros <;> exact LK
abbrev LD (t:TypeId):Prop:=∀ {x:Value} {k:aq} {w:World},gK Tryz.prog t x k w=Ja x k w
theorem LL {t:TypeId} (h:iy Tryz.prog t=true:=by kernel_rfl):LD t:=Ge h
@[go_sem] theorem KZ:LD 3∧LD 4∧LD 5∧LD 9∧LD 23∧LD 28∧LD 44∧LD 54∧LD 66∧LD 74∧LD 91∧LD 105∧LD 106∧LD 107∧LD 109∧LD 110∧LD 111∧LD 112∧LD 116∧LD 118∧LD 119∧LD 120∧LD 126∧LD 134∧LD 136∧LD 137∧LD 139∧LD 142∧LD 143∧LD 144∧LD 145∧LD 147∧LD 149∧LD 152∧LD 159∧LD 160∧LD 161∧LD 166∧LD 195∧LD 292:=by and_intros <;> exact LL
abbrev LM (t:TypeId) (n:Nat):Prop:=∀ {x:Value} {k:aq} {w:World},gK Tryz.prog t x k w=Jb n x k w
theorem LO {t:TypeId} {n:Nat} (h:wt Tryz.prog t=some n:=by kernel_rfl) (h2:ym Tryz.prog t=true:=by kernel_rfl):LM t n:=Gf h h2
@[go_sem] theorem Kb:LM 37 2∧LM 46 3∧LM 53 2∧LM 56 3∧LM 58 5∧LM 62 3∧LM 64 2∧LM 88 3∧LM 114 4∧LM 122 3∧LM 128 2∧LM 256 3:=by and_intros <;> exact LO
abbrev SZ (t:TypeId) (n:Nat):Prop:=∀ {x v:Value} {k:aq} {w:World},jN Tryz.prog t x v k w=vM n x v k w
theorem LP {t:TypeId} {n:Nat} (h:wt Tryz.prog t=some n:=by kernel_rfl):SZ t n:=Gg h
@[go_sem] theorem Kh:SZ 3 1∧SZ 4 1∧SZ 5 1∧SZ 9 1∧SZ 23 1∧SZ 44 1∧SZ 46 3∧SZ 53 2∧SZ 56 3∧SZ 58 5∧SZ 62 3∧SZ 64 2∧SZ 66 1∧SZ 88 3∧SZ 105 1∧SZ 107 1∧SZ 110 1∧SZ 111 1∧SZ 112 1∧SZ 114 4∧SZ 116 1∧SZ 120 1∧SZ 122 3∧SZ 124 4∧SZ 128 2∧SZ 132 70∧SZ 134 1∧SZ 139 1∧SZ 141 9∧SZ 145 1∧SZ 151 12∧SZ 152 1∧SZ 159 1∧SZ 160 1∧SZ 161 1∧SZ 166 1∧SZ 170 2∧SZ 256 3∧SZ 261 3∧SZ 292 1:=by and_intros <;> exact LP
abbrev OF (t:TypeId) (i o:Nat):Prop:=A7 Tryz.prog t i=some o
theorem LQ {t:TypeId} {i o:Nat} (h:A7 Tryz.prog t i=some o:=by kernel_rfl):OF t i o:=h
@[go_sem] theorem Ki:OF 37 0 0∧OF 37 1 1∧OF 46 0 0∧OF 46 1 1∧OF 46 2 2∧OF 53 0 0∧OF 53 1 1∧OF 56 0 0∧OF 56 1 1∧OF 56 2 2∧OF 58 1 1∧OF 58 2 2∧OF 62 0 0∧OF 62 1 1∧OF 62 2 2∧OF 64 0 0∧OF 64 1 1∧OF 88 0 0∧OF 88 1 1∧OF 88 2 2∧OF 114 0 0∧OF 114 1 1∧OF 114 2 2∧OF 114 3 3∧OF 122 0 0∧OF 122 1 1∧OF 122 2 2∧OF 124 0 0∧OF 124 1 1∧OF 128 0 0∧OF 128 1 1∧OF 130 0 0∧OF 130 1 40∧OF 132 0 0∧OF 132 1 1∧OF 132 2 2∧OF 132 3 3∧OF 132 4 4∧OF 132 5 8∧OF 132 6 9∧OF 132 7 10∧OF 141 0 0∧OF 141 1 1∧OF 141 2 2∧OF 141 4 4∧OF 141 5 5∧OF 141 6 6∧OF 141 8 8∧OF 151 0 0∧OF 151 1 1∧OF 151 2 2∧OF 151 3 3∧OF 151 4 4∧OF 151 5 5∧OF 151 6 6∧OF 151 7 10∧OF 151 8 11∧OF 154 0 0∧OF 154 1 1∧OF 154 2 2∧OF 154 3 72∧OF 154 4 81∧OF 154 5 93∧OF 154 6 94∧OF 163 0 0∧OF 163 1 1∧OF 163 2 2∧OF 165 0 0∧OF 165 1 1∧OF 165 2 2∧OF 165 3 5∧OF 168 0 0∧OF 168 1 1∧OF 168 2 2∧OF 170 0 0∧OF 170 1 1∧OF 172 0 0∧OF 172 1 6∧OF 172 2 9∧OF 208 0 0∧OF 208 1 1∧OF 208 5 5∧OF 256 0 0∧OF 256 1 1∧OF 256 2 2∧OF 261 0 0∧OF 261 1 1∧OF 261 2 2:=by and_intros <;> exact LQ
abbrev QA (t:TypeId):Prop:=∀ {xo yo:Operand} {x:Option Addr} {l c l2 c2:Nat} {q:Value→Prop},cx Tryz.prog .eql t xo yo (.slice x l c) (.slice none l2 c2) q=q (.bool x.isNone)
theorem LR {t:TypeId} (h:eN Tryz.prog t=4:=by kernel_rfl):QA t:=oV h
@[go_sem] theorem Kk:QA 107:=LR
abbrev QB (t:TypeId):Prop:=∀ {xo yo:Operand} {x:Option Addr} {l c l2 c2:Nat} {q:Value→Prop},cx Tryz.prog .neq t xo yo (.slice x l c) (.slice none l2 c2) q=q (.bool x.isSome)
theorem LS {t:TypeId} (h:eN Tryz.prog t=4:=by kernel_rfl):QB t:=oX h
@[go_sem] theorem Kn:QB 107:=LS
abbrev LN (t:TypeId):Prop:=∀ {a:Option Addr} {n c:Nat} {q:Value→Prop},oC Tryz.prog (some t) (some (.slice a n c)) q=q (.int .i64 n)
theorem LU {t:TypeId} (h:eN Tryz.prog t=4:=by kernel_rfl):LN t:=zD h
@[go_sem] theorem Kp:LN 22∧LN 28∧LN 33∧LN 35∧LN 38∧LN 44∧LN 50∧LN 54∧LN 66∧LN 74∧LN 91∧LN 107∧LN 110∧LN 159∧LN 160∧LN 161∧LN 166∧LN 173∧LN 195:=by and_intros <;> exact LU
abbrev CP (t:TypeId):Prop:=∀ {a:Option Addr} {n c:Nat} {q:Value→Prop},rX Tryz.prog (some t) (some (.slice a n c)) q=q (.int .i64 c)
theorem LV {t:TypeId} (h:eN Tryz.prog t=4:=by kernel_rfl):CP t:=zE h
@[go_sem] theorem Kr:CP 110∧CP 166:=by and_intros <;> exact LV
abbrev IX (t:TypeId) (n:Nat):Prop:=∀ {x i:Value} {q:Value→Prop},eX Tryz.prog t x i q=IZ n x i q
theorem LW {t:TypeId} {n:Nat} (h:lS Tryz.prog t=some n:=by kernel_rfl):IX t n:=Gn h
@[go_sem] theorem Ks:IX 22 1∧IX 28 3∧IX 33 5∧IX 35 1∧IX 38 2∧IX 44 3∧IX 50 2∧IX 54 3∧IX 66 1∧IX 74 3∧IX 91 1∧IX 110 3∧IX 159 3∧IX 160 4∧IX 161 2∧IX 173 1∧IX 195 4:=by and_intros <;> exact LW
end Go.Proofs
end
