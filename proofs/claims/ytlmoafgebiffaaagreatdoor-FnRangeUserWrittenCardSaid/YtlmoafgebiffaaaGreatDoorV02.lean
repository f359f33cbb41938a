/- Parts of the proof: S, F. -/
import Derived.WalkKit
import Derived.Test.YtlmoafgebiffaaaGreatDoorChecked
import Derived.Test.YtlmoafgebiffaaaGreatDoorV01
set_option linter.all false
set_option maxRecDepth 10000
section
attribute [go_sem_proc ↓] reduceIte
attribute [go_sem_proc] Nat.reduceEqDiff Nat.reduceAdd
namespace Go.E
open Go
theorem bL {α:Sort _} {a b:α} (h:a=b):a=b:=h
inductive SI where
 | code (c:Code)
 | block (id:Nat)
 | inv (K:de→World→Prop)
def lg (N:Nat) (P:Program) (rs:List ResultVar) (k:aq):List SI→Exit→de→World→Prop
 | []=>Ip P rs k
 | .code c :: st=>tw (fun e w=>WP N P c (lg N P rs k st) e w) (lg N P rs k st)
 | .block id :: st=>mw id (lg N P rs k st)
 | .inv K :: st=>tw K (lg N P rs k st)
structure Cfg where
 N:Nat
 ops:Array Oper
 st:List SI
 rs:List ResultVar
 k:aq
def hZ (N:Nat) (P:Program) (c:Code) (st:List SI) (rs:List ResultVar) (k:aq) (e:de) (w:World):Prop:=WP N P c (lg N P rs k st) e w
def gp (N:Nat) (P:Program) (ex:Exit) (st:List SI) (rs:List ResultVar) (k:aq) (e:de) (w:World):Prop:=lg N P rs k st ex e w
def GQ (P:Program) (C:Cfg) (l:List Oper) (e:de) (w:World):Prop:=uy P C.ops l e (fun e w=>lg C.N P C.rs C.k C.st .normal e w) w
def kw (P:Program) (d:Option Tmp) (C:Cfg) (l:List Oper) (e:de):aq:=fun v w=>GQ P C l (put e d v) w
def yk (k:aq) (w:World):Value→Prop:=fun v=>k v w
def rM (N:Nat) (P:Program) (x:Value) (a b:Code) (st:List SI) (rs:List ResultVar) (k:aq) (e:de) (w:World):Prop:=AA x (hZ N P a st rs k e w) (hZ N P b st rs k e w)
def C7 (c:Bool) (P:Program) (o:Oper) (C:Cfg) (l:List Oper) (e:de) (w:World):Prop:=if c then ir P o e (kw P o.dst C l e) w else GQ P C l (put e o.dst undef) w
section code
variable {N:Nat} {P:Program} {st:List SI} {rs:List ResultVar} {k:aq} {e:de} {w:World}
@[go_sem ↓] theorem IC:hZ N P .skip st rs k e w=gp N P .normal st rs k e w:=bL rfl
@[go_sem ↓] theorem GR {id:Nat} {l:List Oper}:hZ N P (.region id l.toArray false) st rs k e w=GQ P ⟨N,l.toArray,st,rs,k⟩ l e w:=bL rfl
@[go_sem ↓] theorem lh {a b:Code}:hZ N P (.seq a b) st rs k e w=hZ N P a (.code b :: st) rs k e w:=bL rfl
@[go_sem ↓] theorem ID {c:Operand} {a b:Code}:hZ N P (.cond c a b) st rs k e w=rM N P (ev e c) a b st rs k e w:=bL rfl
@[go_sem ↓] theorem iH {id:Nat} {a:Code}:hZ N P (.block id a) st rs k e w=hZ N P a (.block id :: st) rs k e w:=bL rfl
@[go_sem ↓] theorem IE {id:Nat}:hZ N P (.exit id) st rs k e w=gp N P (.exit id) st rs k e w:=bL rfl
@[go_sem ↓] theorem Is:hZ N P .ret st rs k e w=pM P rs e k w:=by
 show lg N P rs k st .ret e w=_
 induction st with
 | nil=>rfl
 | cons x st ih=>cases x <;> exact ih
@[go_sem ↓] theorem IF:gp N P .normal [] rs k e w=pM P rs e k w:=bL rfl
@[go_sem ↓] theorem Gz {c:Code}:gp N P .normal (.code c :: st) rs k e w=hZ N P c st rs k e w:=bL rfl
@[go_sem ↓] theorem GS {id:Nat}:gp N P .normal (.block id :: st) rs k e w=gp N P .normal st rs k e w:=bL rfl
@[go_sem ↓] theorem IG {K:de→World→Prop}:gp N P .normal (.inv K :: st) rs k e w=K e w:=bL rfl
@[go_sem ↓] theorem Ce {c:Code} {i:Nat}:gp N P (.exit i) (.code c :: st) rs k e w=gp N P (.exit i) st rs k e w:=bL rfl
@[go_sem ↓] theorem C8 {K:de→World→Prop} {i:Nat}:gp N P (.exit i) (.inv K :: st) rs k e w=gp N P (.exit i) st rs k e w:=bL rfl
@[go_sem ↓] theorem Cf {i:Nat}:gp N P (.exit i) (.block i :: st) rs k e w=gp N P .normal st rs k e w:=by simp [gp,lg,mw]
@[go_sem ↓] theorem Cg {i j:Nat} (h:i≠j):gp N P (.exit i) (.block j :: st) rs k e w=gp N P (.exit i) st rs k e w:=by simp [gp,lg,mw,h]
@[go_sem] theorem kT {a b:Code}:rM N P (.bool true) a b st rs k e w=hZ N P a st rs k e w:=bL rfl
@[go_sem] theorem jZ {a b:Code}:rM N P (.bool false) a b st rs k e w=hZ N P b st rs k e w:=bL rfl
@[go_sem ↓] theorem It:pM P [] e k w=k (.tuple #[]) w:=bL rfl
@[go_sem ↓] theorem Iu {t:Nat}:pM P [.tmp t] e k w=k (e t) w:=bL rfl
@[go_sem ↓] theorem IH {a:Nat} {t:TypeId}:pM P [.cell a t] e k w=fJ P t (e a) k w:=bL rfl
@[go_sem ↓] theorem II {t u:Nat}:pM P [.tmp t,.tmp u] e k w=k (.tuple #[e t,e u]) w:=bL rfl
@[go_sem ↓] theorem IJ {t u v:Nat}:pM P [.tmp t,.tmp u,.tmp v] e k w=k (.tuple #[e t,e u,e v]) w:=bL rfl
def Kz (k:aq) (u:Value):aq:=fun x w=>k (.tuple #[x,u]) w
def K1 (k:aq) (u v:Value):aq:=fun x w=>k (.tuple #[x,u,v]) w
@[go_sem ↓] theorem KY {u x:Value}:Kz k u x w=k (.tuple #[x,u]) w:=bL rfl
@[go_sem ↓] theorem KZ {u v x:Value}:K1 k u v x w=k (.tuple #[x,u,v]) w:=bL rfl
@[go_sem ↓] theorem G0 {a u:Nat} {t:TypeId}:pM P [.cell a t,.tmp u] e k w=fJ P t (e a) (Kz k (e u)) w:=bL rfl
@[go_sem ↓] theorem G4 {a u v:Nat} {t:TypeId}:pM P [.cell a t,.tmp u,.tmp v] e k w=fJ P t (e a) (K1 k (e u) (e v)) w:=bL rfl
theorem rN {f:FuncId} {fn:Func} {c:Code} {args:Array Value} (hf:P.funcs[f]? = some fn) (hb:fn.body=some c) (hN:fn.ntmps=N) (hrs:fn.results.toList=rs) (hok:dp N c=true) (hn:Nat.ble args.size N=true)
    (h:hZ N P c [] rs k (A0 args) w):ai P f args k w:=by
 subst hN
 subst hrs
 exact wg hf hb hok (by simpa using hn) h
theorem bZ {c:Code} {β:Type} (sl:β→List (Nat × Value)) (I:β→World→Prop) (μ:β→World→Nat) (b₀:β) (hok:dp N c=true) (ha:gm e (sl b₀)) (h₀:I b₀ w)
    (round:∀ (K:de→World→Prop) (e:de) b w,I b w→(∀ (e':de) w' b',gm e' (sl b')→I b' w'→μ b' w' < μ b w→K e' w')→hZ N P c (.inv K :: st) rs k (qY e (sl b)) w):hZ N P (.loop c) st rs k e w :=
 Iq sl I μ b₀ hok ha h₀ fun e b w hI=>round _ e b w hI fun _ _ b' h1 h2 h3=>⟨b',h1,h2,h3⟩
theorem tJ {x y:Code} {β:Type} (sl:β→List (Nat × Value)) (J:β→World→Prop) (hok:dp N x=true)
    (hx:∀ K:de→World→Prop,(∀ (e:de) w b,gm e (sl b)→J b w→K e w)→hZ N P x (.inv K :: st) rs k e w)
    (hy:∀ (e:de) b w,J b w→hZ N P y st rs k (qY e (sl b)) w):hZ N P (.seq x y) st rs k e w :=
 KX sl J (hx _ fun _ _ b h1 h2=>⟨b,h1,h2⟩) hy hok
def tK (P:Program) (C:Cfg) (t:DT) (L:List (Nat × (World→Prop))) (e:de) (w:World):Prop:=wM P C.ops t L e (fun e w=>lg C.N P C.rs C.k C.st .normal e w) w
theorem Iv {id:Nat} {ops:Array Oper} (t:DT) (hm:P.follows .mixedOrders=true) (hops:ops.toList.all (jY N)=true)
    (hns:Region.noSelect ops=true) (hc:iv P ops true t ops.size (Array.replicate ops.size false) []=true)
    (h:tK P ⟨N,ops,st,rs,k⟩ t [] e w.drew):hZ N P (.region id ops true) st rs k e w:=Ir t hm hops hns hc h
end code
section ops
variable {P:Program} {C:Cfg} {rest:List Oper} {e:de} {w:World} {d:Option Tmp} {ty:TypeId} {pos:String} {af:Array Edge}
@[go_sem ↓] theorem Jz {N:Nat} {ops:Array Oper} {st:List SI} {rs:List ResultVar} {k:aq}:GQ P ⟨N,ops,st,rs,k⟩ [] e w=gp N P .normal st rs k e w:=bL rfl
@[go_sem ↓] theorem Iw {op:Op}:GQ P C ({ dst:=d,op,type:=ty,pos,after:=af,guard:=none } :: rest) e w =
    ir P { dst:=d,op,type:=ty,pos,after:=af,guard:=none } e (kw P d C rest e) w:=bL rfl
def lj (l:List Oper) (j:Nat):Option Nat:=(l[j]?).bind (·.dst)
@[go_sem] theorem GT {o:Oper} {l:List Oper}:lj (o :: l) 0=o.dst:=bL rfl
@[go_sem] theorem GU {o:Oper} {l:List Oper} {j:Nat}:lj (o :: l) (j+1)=lj l j:=bL rfl
def Ix (x:Value) (b:Bool):Bool:=match x with
 | .bool t=>t == b
 | _=>false
@[go_sem] theorem Iy (t b:Bool):Ix (.bool t) b=(t == b):=bL rfl
@[go_sem] theorem IK (b:Bool):Ix undef b=false:=bL rfl
def uA (o:Option Nat) (e:de) (b:Bool):Bool:=match o with
 | some d=>Ix (e d) b
 | none=>false
@[go_sem] theorem G7 (d:Nat) (e:de) (b:Bool):uA (some d) e b=Ix (e d) b:=bL rfl
@[go_sem ↓] theorem uB {l:List Oper} {j:Nat} {b:Bool}:yn l.toArray e (some (j,b))=uA (lj l j) e b:=by
 cases h:(l[j]?).bind (·.dst) with
 | none=>simp [yn,uA,lj,h]
 | some d =>
  simp only [yn,uA,lj,Ix,List.getElem?_toArray,h]
  cases e d <;> rfl
@[go_sem ↓] theorem IL {op:Op} {j:Nat} {b:Bool} {N:Nat} {l:List Oper} {st:List SI} {rs:List ResultVar} {k:aq} :
    GQ P ⟨N,l.toArray,st,rs,k⟩ ({ dst:=d,op,type:=ty,pos,after:=af,guard:=some (j,b) } :: rest) e w =
    C7 (uA (lj l j) e b) P { dst:=d,op,type:=ty,pos,after:=af,guard:=some (j,b) } ⟨N,l.toArray,st,rs,k⟩ rest e w:=by
 rw [← uB]; exact bL rfl
@[go_sem] theorem G8 {o:Oper} {l:List Oper}:C7 true P o C l e w=ir P o e (kw P o.dst C l e) w:=bL rfl
@[go_sem] theorem GV {o:Oper} {l:List Oper}:C7 false P o C l e w=GQ P C l (put e o.dst undef) w:=bL rfl
@[go_sem ↓] theorem K6 {l:List Oper} {v:Value}:kw P d C l e v w=GQ P C l (put e d v) w:=bL rfl
@[go_sem ↓] theorem Ka {k:aq} {v:Value}:yk k w v=k v w:=bL rfl
def Kb (P:Program) (C:Cfg) (t:DT) (L:List (Nat × (World→Prop))) (d:Option Tmp) (e:de):aq:=fun v w=>tK P C t L (put e d v) w
def Kc (P:Program) (C:Cfg) (i:Nat) (o:Oper) (t:DT) (L:List (Nat × (World→Prop))) (e:de):aq:=fun v w=>tK P C t ((i,fun w2=>jC P C.ops o e (fun v2 _=>v2=v) w2) :: L) (put e o.dst v) w
def Kd (P:Program) (C:Cfg) (ks:List Nat) (t:DT) (L:List (Nat × (World→Prop))) (d:Option Tmp) (e:de):aq:=fun v w=>nZ ks L w∧tK P C t L (put e d v) w
def AB (o:Option Oper) (P:Program) (C:Cfg) (t:DT) (L:List (Nat × (World→Prop))) (e:de) (w:World):Prop:=match o with
 | some o=>jC P C.ops o e (Kb P C t L o.dst e) w
 | none=>False
def C9 (o:Option Oper) (P:Program) (C:Cfg) (i:Nat) (t:DT) (L:List (Nat × (World→Prop))) (e:de) (w:World):Prop:=match o with
 | some o=>jC P C.ops o e (Kc P C i o t L e) w
 | none=>False
def G9 (o:Option Oper) (P:Program) (C:Cfg) (ks:List Nat) (t:DT) (L:List (Nat × (World→Prop))) (e:de) (w:World):Prop:=match o with
 | some o=>jC P C.ops o e (Kd P C ks t L o.dst e) w
 | none=>False
section trees
variable {L:List (Nat × (World→Prop))} {t:DT} {N:Nat} {l:List Oper} {st:List SI} {rs:List ResultVar} {k:aq} {i:Nat} {is ks:List Nat} {v:Value} {op:Op} {o:Oper}
@[go_sem ↓] theorem Iz:tK P ⟨N,l.toArray,st,rs,k⟩ .done L e w=gp N P .normal st rs k e w:=bL rfl
@[go_sem ↓] theorem DA:tK P ⟨N,l.toArray,st,rs,k⟩ (.free i t) L e w=AB l[i]? P ⟨N,l.toArray,st,rs,k⟩ t L e w:=by
 simp only [tK,wM,List.getElem?_toArray,AB]; cases l[i]? <;> rfl
@[go_sem ↓] theorem Ke:tK P ⟨N,l.toArray,st,rs,k⟩ (sq (i :: is) t) L e w=AB l[i]? P ⟨N,l.toArray,st,rs,k⟩ (sq is t) L e w:=DA
@[go_sem ↓] theorem HA:tK P C (sq [] t) L e w=tK P C t L e w:=bL rfl
@[go_sem ↓] theorem I0:tK P ⟨N,l.toArray,st,rs,k⟩ (.read i t) L e w=C9 l[i]? P ⟨N,l.toArray,st,rs,k⟩ i t L e w:=by
 simp only [tK,wM,List.getElem?_toArray,C9]; cases l[i]? <;> rfl
@[go_sem ↓] theorem J1:tK P ⟨N,l.toArray,st,rs,k⟩ (.eff i ks t) L e w=G9 l[i]? P ⟨N,l.toArray,st,rs,k⟩ ks t L e w:=by
 simp only [tK,wM,List.getElem?_toArray,G9]; cases l[i]? <;> rfl
@[go_sem ↓] theorem J2 {t2:DT}:tK P C (.alt t t2) L e w=(tK P C t L e w∧tK P C t2 L e w):=bL rfl
@[go_sem] theorem HB:AB (some o) P C t L e w=jC P C.ops o e (Kb P C t L o.dst e) w:=bL rfl
@[go_sem] theorem HC:C9 (some o) P C i t L e w=jC P C.ops o e (Kc P C i o t L e) w:=bL rfl
@[go_sem] theorem IM:G9 (some o) P C ks t L e w=jC P C.ops o e (Kd P C ks t L o.dst e) w:=bL rfl
@[go_sem ↓] theorem IN {ops:Array Oper}:jC P ops { dst:=d,op,type:=ty,pos,after:=af,guard:=none } e k w=ir P { dst:=d,op,type:=ty,pos,after:=af,guard:=none } e k w:=bL rfl
def HD (c:Bool) (P:Program) (o:Oper) (e:de) (k:aq) (w:World):Prop:=if c then ir P o e k w else k undef w
@[go_sem] theorem IP:HD true P o e k w=ir P o e k w:=bL rfl
@[go_sem] theorem HE:HD false P o e k w=k undef w:=bL rfl
@[go_sem ↓] theorem IQ {b:Bool} {j:Nat}:jC P l.toArray { dst:=d,op,type:=ty,pos,after:=af,guard:=some (j,b) } e k w=HD (uA (lj l j) e b) P { dst:=d,op,type:=ty,pos,after:=af,guard:=some (j,b) } e k w:=by
 rw [← uB]; exact bL rfl
@[go_sem ↓] theorem Kf:Kb P C t L d e v w=tK P C t L (put e d v) w:=bL rfl
@[go_sem ↓] theorem Kg:Kc P C i o t L e v w=tK P C t ((i,fun w2=>jC P C.ops o e (fun v2 _=>v2=v) w2) :: L) (put e o.dst v) w:=bL rfl
@[go_sem ↓] theorem Kh:Kd P C ks t L d e v w=(nZ ks L w∧tK P C t L (put e d v) w):=bL rfl
@[go_sem ↓] theorem HF {G:World→Prop}:nZ ks ((i,G) :: L) w=((if i ∈ ks then G w else True)∧nZ ks L w):=by simp [nZ]
@[go_sem ↓] theorem IR:nZ ks [] w=True:=bL rfl
end trees
attribute [go_sem] List.getElem?_cons_zero List.getElem?_cons_succ true_and and_true
end ops
@[go_sem] theorem Ki (e:de) (t:Nat):ev e (.tmp t)=e t:=bL rfl
@[go_sem] theorem I1 (e:de) (v:Value):ev e (.const v)=v:=bL rfl
@[go_sem] theorem J3 (e:de) (f:Nat):ev e (.func f) = .func (.func f) #[] #[]:=bL rfl
@[go_sem] theorem Kj (e:de) (d:Nat) (v:Value) (i:Nat):put e (some d) v i=if i=d then v else e i:=bL rfl
@[go_sem] theorem Kk (e:de) (v:Value) (i:Nat):put e none v i=e i:=bL rfl
@[go_sem] theorem J4 (l:List Value) (i:Nat):A0 l.toArray i=l.getD i undef:=by simp [A0]
@[go_sem] theorem IS (e:de) (j:Nat) (v:Value) (l:List (Nat × Value)) (i:Nat):qY e ((j,v) :: l) i=if i=j then v else qY e l i:=bL rfl
@[go_sem] theorem IT (e:de):gm e []=True:=bL rfl
@[go_sem] theorem HG (e:de) (i:Nat) (v:Value) (l:List (Nat × Value)):gm e ((i,v) :: l)=(e i=v∧gm e l):=bL rfl
attribute [go_sem] List.getD_cons_zero List.getD_cons_succ List.getD_nil
def AC (c a b:Value) (q:Value→Prop):Prop:=rC c fun t=>q (if t then a else b)
section op
variable {P:Program} {e:de} {k:aq} {w:World} {d:Option Tmp} {ty:TypeId} {pos:String} {af:Array Edge} {g:Option (Nat × Bool)}
@[go_sem ↓] theorem I2 {x:Operand}:ir P { dst:=d,op := .move x,type:=ty,pos,after:=af,guard:=g } e k w=k (ev e x) w:=bL rfl
@[go_sem ↓] theorem HH {x:Operand}:ir P { dst:=d,op := .assign x,type:=ty,pos,after:=af,guard:=g } e k w=k (ev e x) w:=bL rfl
@[go_sem ↓] theorem I3 {c a b:Operand}:ir P { dst:=d,op := .pick c a b,type:=ty,pos,after:=af,guard:=g } e k w=AC (ev e c) (ev e a) (ev e b) (yk k w):=bL rfl
@[go_sem ↓] theorem I4 {t:TypeId} {a:Operand}:ir P { dst:=d,op := .load t a,type:=ty,pos,after:=af,guard:=g } e k w=fJ P t (ev e a) k w:=bL rfl
@[go_sem ↓] theorem IU {t:TypeId} {a x:Operand}:ir P { dst:=d,op := .store t a x,type:=ty,pos,after:=af,guard:=g } e k w=jN P t (ev e a) (ev e x) k w:=bL rfl
@[go_sem ↓] theorem FL {x:Operand}:ir P { dst:=d,op := .nilCheck x,type:=ty,pos,after:=af,guard:=g } e k w=qU (ev e x) (yk k w):=bL rfl
@[go_sem ↓] theorem E5 {t:TypeId} {x:Operand} {f:Nat}:ir P { dst:=d,op := .fieldAddr t x f,type:=ty,pos,after:=af,guard:=g } e k w=fi (Aq P t f) (ev e x) (yk k w):=bL rfl
@[go_sem ↓] theorem E6 {t:TypeId} {x i:Operand}:ir P { dst:=d,op := .indexAddr t x i,type:=ty,pos,after:=af,guard:=g } e k w=ey P t (ev e x) (ev e i) (yk k w):=bL rfl
@[go_sem ↓] theorem IW {t:TypeId} {x i:Operand}:ir P { dst:=d,op := .index t x i,type:=ty,pos,after:=af,guard:=g } e k w=kP P t (ev e x) (ev e i) (yk k w):=bL rfl
@[go_sem ↓] theorem IY {t yt:TypeId} {op:BinOp} {x y:Operand}:ir P { dst:=d,op := .binOp op t x y yt,type:=ty,pos,after:=af,guard:=g } e k w=ct P op t x y (ev e x) (ev e y) (yk k w):=bL rfl
@[go_sem ↓] theorem I5 {t:TypeId} {op:UnOp} {x:Operand}:ir P { dst:=d,op := .unOp op t x,type:=ty,pos,after:=af,guard:=g } e k w=GP op (ev e x) (yk k w):=bL rfl
@[go_sem ↓] theorem GW {x:Operand} {i:Nat}:ir P { dst:=d,op := .extract x i,type:=ty,pos,after:=af,guard:=g } e k w=iX (ev e x) i (yk k w):=bL rfl
@[go_sem ↓] theorem AD {t:TypeId} {x:Operand}:ir P { dst:=d,op := .makeInterface t x,type:=ty,pos,after:=af,guard:=g } e k w=dC P t (ev e x) (yk k w):=bL rfl
@[go_sem ↓] theorem FM {fn:Fn} {a b:Array Operand}:ir P { dst:=d,op := .makeFunc fn a b,type:=ty,pos,after:=af,guard:=g } e k w=k (.func fn (a.map (ev e)) (b.map (ev e))) w:=bL rfl
@[go_sem ↓] theorem IZ {t:TypeId}:ir P { dst:=d,op := .alloc t,type:=ty,pos,after:=af,guard:=g } e k w=dH P (Instr.alloc t true (.tuple #[])) k w:=bL rfl
@[go_sem ↓] theorem J5 {t:TypeId} {x:Operand}:ir P { dst:=d,op := .box t x,type:=ty,pos,after:=af,guard:=g } e k w=dH P (Instr.box t (ev e x)) k w:=bL rfl
@[go_sem ↓] theorem Ia {t:TypeId} {ps:Array (Nat × Operand)}:ir P { dst:=d,op := .build t ps,type:=ty,pos,after:=af,guard:=g } e k w=cX P t (ps.map fun (i,x)=>(i,ev e x)) (yk k w):=bL rfl
@[go_sem ↓] theorem GX {s t:TypeId} {x:Operand}:ir P { dst:=d,op := .convert s t x,type:=ty,pos,after:=af,guard:=g } e k w=dK P s t (ev e x) k w:=bL rfl
@[go_sem ↓] theorem Ib {t:TypeId} {x:Operand} {lo hi mx:Option Operand}:ir P { dst:=d,op := .slice t x lo hi mx,type:=ty,pos,after:=af,guard:=g } e k w=cz P t (ev e x) (lo.map (ev e)) (hi.map (ev e)) (mx.map (ev e)) (yk k w):=bL rfl
@[go_sem ↓] theorem I6 {f:Operand} {args:Array Operand} {ats:Array TypeId}:ir P { dst:=d,op := .call { callee := .value f,args,argTypes:=ats },type:=ty,pos,after:=af,guard:=g } e k w=lG P (ev e f) (args.map (ev e)) k w:=bL rfl
@[go_sem ↓] theorem HI {r:Operand} {m:String} {args:Array Operand} {ats:Array TypeId}:ir P { dst:=d,op := .call { callee := .invoke r m,args,argTypes:=ats },type:=ty,pos,after:=af,guard:=g } e k w=cQ P (ev e r) m (args.map (ev e)) k w:=bL rfl
@[go_sem ↓] theorem J6 {x:Operand} {t:TypeId}:ir P { dst:=d,op := .call { callee := .builtin .len,args := #[x],argTypes := #[t] },type:=ty,pos,after:=af,guard:=g } e k w=nQ P (some t) (some (ev e x)) (yk k w):=by
 simp only [ir,gj,List.map_toArray,List.map_cons,List.map_nil,List.getElem?_toArray,List.getElem?_cons_zero]; rfl
@[go_sem ↓] theorem J7 {x:Operand} {t:TypeId}:ir P { dst:=d,op := .call { callee := .builtin .cap,args := #[x],argTypes := #[t] },type:=ty,pos,after:=af,guard:=g } e k w=rD P (some t) (some (ev e x)) (yk k w):=by
 simp only [ir,gj,List.map_toArray,List.map_cons,List.map_nil,List.getElem?_toArray,List.getElem?_cons_zero]; rfl
end op
section cells
variable {w:World} {b b' o o':Nat} {v:Value} {ob:Obj}
@[go_sem] theorem cJ:(w.setCell ⟨b,o,none⟩ v).cell? ⟨b,o,none⟩=(w.cell? ⟨b,o,none⟩).map fun _=>v:=by
 cases h:w.cell? ⟨b,o,none⟩ with
 | some x=>rw [World.cell?_setCell_same w _ v h]; rfl
 | none =>
  simp only [World.cell?,World.setCell,Array.getElem?_modify,if_true] at h ⊢
  cases hb:w.heap[b]? with
  | none=>rfl
  | some x=>cases x <;> simp_all
@[go_sem] theorem fk (h:o≠o'):(w.setCell ⟨b,o,none⟩ v).cell? ⟨b',o',none⟩=w.cell? ⟨b',o',none⟩:=World.cell?_setCell_other w _ _ v (fun he=>h (by cases he; rfl))
@[go_sem] theorem wk (h:b≠b'):(w.setCell ⟨b,o,none⟩ v).cell? ⟨b',o',none⟩=w.cell? ⟨b',o',none⟩:=World.cell?_setCell_other w _ _ v (fun he=>h (by cases he; rfl))
attribute [go_sem] World.frozen?_setCell World.size_setCell World.size_alloc World.size_drew World.cell?_drew World.frozen?_drew Option.map_some List.map_toArray List.map_cons List.map_nil
end cells
@[go_sem] theorem DB (a:Array Value):a ++ #[]=a:=by simp
@[go_sem] theorem DD (a:Array Value) : #[]++a=a:=by simp
@[go_sem] theorem DE (x:Value) (l:List Value) : #[x]++l.toArray=(x :: l).toArray:=by simp
attribute [go_sem] List.size_toArray aZ List.length_nil List.cons_append List.nil_append
def I7 (o:Option Value) (q:Value→Prop):Prop:=nP o q
@[go_sem] theorem Ic (v:Value) (q:Value→Prop):I7 (some v) q=q v:=bL rfl
def FN (o:Option Value) (k:aq) (w:World):Prop:=nP o fun v=>k v w
@[go_sem] theorem Ie (v:Value) (k:aq) (w:World):FN (some v) k w=k v w:=bL rfl
def ng (a:Addr) (i n:Nat) (acc:List Value) (k:aq) (w:World):Prop:=jo w a i n fun vs=>k (.agg (acc++vs).toArray) w
def DF (o:Option Value) (a:Addr) (i n:Nat) (acc:List Value) (k:aq) (w:World):Prop:=nP o fun v=>ng a (i+1) n (acc++[v]) k w
@[go_sem] theorem HJ (v:Value) (a:Addr) (i n:Nat) (acc:List Value) (k:aq) (w:World):DF (some v) a i n acc k w=ng a (i+1) n (acc++[v]) k w:=bL rfl
def tD (a:Addr) (i:Nat) (vs:List Value) (k:aq) (w:World):Prop:=pH w a i vs fun w'=>k undef w'
def vF (o:Option Value) (fz:Bool) (v:Value) (a:Addr) (i:Nat) (vs:List Value) (k:aq) (w:World):Prop:=Cc o fz v (tD a (i+1) vs k (w.setCell (a.add i) v))
def bd (o:Option Value) (d:Int):Int:=match o with
 | some (.int _ i)=>i
 | _=>d
def DG (o:Option Value):Bool:=match o with
 | none=>true
 | some (.int _ _)=>true
 | some _=>false
@[go_sem] theorem ni (d:Int):bd none d=d:=bL rfl
theorem wm {d:Int} {q:Int→Prop}:gJ none d q=q d:=rfl
theorem js {o:Option Value} {d:Int} {q:Int→Prop} (h:DG o=true):gJ o d q=q (bd o d):=by
 unfold DG at h
 split at h <;> first | rfl | simp at h
section vals
variable {P:Program} {k:aq} {w:World} {q:Value→Prop}
def J8 (x:Value) (k:aq) (w:World):Prop:=match x with
 | .pointer (some a)=>FN (w.cell? a) k w
 | _=>False
def J9 (n:Nat) (x:Value) (k:aq) (w:World):Prop:=match x with
 | .pointer (some a)=>ng a 0 n [] k w
 | _=>False
theorem HL {t:TypeId} {x:Value} (h:jB P t=true):fJ P t x k w=J8 x k w:=by
 unfold J8; split
 ·simp [fJ,h,FN]
 ·unfold fJ; split
  ·simp_all
  ·rfl
theorem HM {t:TypeId} {x:Value} {n:Nat} (h:wP P t=some n) (ha:ym P t=true):fJ P t x k w=J9 n x k w:=by
 have hs:jB P t=false:=by
  unfold ym at ha; unfold jB; split at ha <;> simp_all
 unfold J9; split
 ·simp [fJ,hs,ha,h,ng]
 ·unfold fJ; split
  ·simp_all
  ·rfl
@[go_sem] theorem Kl {a:Addr}:J8 (.pointer (some a)) k w=FN (w.cell? a) k w:=bL rfl
@[go_sem] theorem Km {n:Nat} {a:Addr}:J9 n (.pointer (some a)) k w=ng a 0 n [] k w:=bL rfl
def vG (n:Nat) (x v:Value) (k:aq) (w:World):Prop:=match x with
 | .pointer (some a)=>v.cells.size=n∧tD a 0 v.cells.toList k w
 | _=>False
theorem HN {t:TypeId} {x v:Value} {n:Nat} (h:wP P t=some n):jN P t x v k w=vG n x v k w:=by
 unfold vG; split
 ·simp only [jN,h,cm,tD,aP,eq_comm]
 ·unfold jN; split
  ·simp_all
  ·rfl
@[go_sem] theorem KA {a:Addr} {kd:IntKind} {n:Int}:vG 1 (.pointer (some a)) (.int kd n) k w=tD a 0 [.int kd n] k w:=by simp [vG,Value.cells]
@[go_sem] theorem I8 {a:Addr} {b:Bool}:vG 1 (.pointer (some a)) (.bool b) k w=tD a 0 [.bool b] k w:=by simp [vG,Value.cells]
@[go_sem] theorem HO {a:Addr} {s:ByteArray}:vG 1 (.pointer (some a)) (.string s) k w=tD a 0 [.string s] k w:=by simp [vG,Value.cells]
@[go_sem] theorem GY {a:Addr} {p:Option Addr}:vG 1 (.pointer (some a)) (.pointer p) k w=tD a 0 [.pointer p] k w:=by simp [vG,Value.cells]
@[go_sem] theorem Ig {a:Addr} {p:Option Addr} {l c:Nat}:vG 1 (.pointer (some a)) (.slice p l c) k w=tD a 0 [.slice p l c] k w:=by simp [vG,Value.cells]
@[go_sem] theorem I9 {a:Addr} {f:Fn} {x y:Array Value}:vG 1 (.pointer (some a)) (.func f x y) k w=tD a 0 [.func f x y] k w:=by simp [vG,Value.cells]
@[go_sem] theorem FO {a:Addr}:vG 1 (.pointer (some a)) .nilIface k w=tD a 0 [.nilIface] k w:=by simp [vG,Value.cells]
@[go_sem] theorem KC {n:Nat} {a:Addr} {l:List Value} (h:l.length=n):vG n (.pointer (some a)) (.agg l.toArray) k w=tD a 0 l k w:=by simp [vG,Value.cells,h]
@[go_sem ↓] theorem HP {a:Addr} {i:Nat} {acc:List Value}:ng a i 0 acc k w=k (.agg acc.toArray) w:=by simp [ng,jo]
@[go_sem ↓] theorem HQ {a:Addr} {i n:Nat} {acc:List Value}:ng a i (n+1) acc k w=DF (w.cell? (a.add i)) a i n acc k w:=by simp [ng,jo,DF]
@[go_sem ↓] theorem FP {a:Addr} {i:Nat}:tD a i [] k w=k undef w:=bL rfl
@[go_sem ↓] theorem wo {a:Addr} {i:Nat} {v:Value} {vs:List Value}:tD a i (v :: vs) k w=vF (w.cell? (a.add i)) (w.frozen? (a.add i)) v a i vs k w:=bL rfl
@[go_sem] theorem KD {a:Addr} {i:Nat} {x:Value} {kd:IntKind} {n:Int} {vs:List Value}:vF (some x) false (.int kd n) a i vs k w=tD a (i+1) vs k (w.setCell (a.add i) (.int kd n)):=by
 simp [vF,Cc,Value.oneCell']
@[go_sem] theorem JA {a:Addr} {i:Nat} {x:Value} {b:Bool} {vs:List Value}:vF (some x) false (.bool b) a i vs k w=tD a (i+1) vs k (w.setCell (a.add i) (.bool b)):=by
 simp [vF,Cc,Value.oneCell']
@[go_sem] theorem HR {a:Addr} {i:Nat} {x:Value} {s:ByteArray} {vs:List Value}:vF (some x) false (.string s) a i vs k w=tD a (i+1) vs k (w.setCell (a.add i) (.string s)):=by
 simp [vF,Cc,Value.oneCell']
@[go_sem] theorem GZ {a:Addr} {i:Nat} {x:Value} {p:Option Addr} {vs:List Value}:vF (some x) false (.pointer p) a i vs k w=tD a (i+1) vs k (w.setCell (a.add i) (.pointer p)):=by
 simp [vF,Cc,Value.oneCell']
@[go_sem] theorem Ih {a:Addr} {i:Nat} {x:Value} {p:Option Addr} {l c:Nat} {vs:List Value}:vF (some x) false (.slice p l c) a i vs k w=tD a (i+1) vs k (w.setCell (a.add i) (.slice p l c)):=by
 simp [vF,Cc,Value.oneCell']
@[go_sem] theorem JB {a:Addr} {i:Nat} {x:Value} {f:Fn} {y z:Array Value} {vs:List Value}:vF (some x) false (.func f y z) a i vs k w=tD a (i+1) vs k (w.setCell (a.add i) (.func f y z)):=by
 simp [vF,Cc,Value.oneCell']
@[go_sem] theorem Ii {a:Addr} {i:Nat} {x:Value} {t:TypeId} {v:Value} {vs:List Value}:vF (some x) false (.iface t v) a i vs k w=tD a (i+1) vs k (w.setCell (a.add i) (.iface t v)):=by
 simp [vF,Cc,Value.oneCell']
@[go_sem] theorem FQ {a:Addr} {i:Nat} {x:Value}  {vs:List Value}:vF (some x) false .nilIface a i vs k w=tD a (i+1) vs k (w.setCell (a.add i) .nilIface):=by
 simp [vF,Cc,Value.oneCell']
@[go_sem] theorem JC {a:Addr}:qU (.pointer (some a)) q=q (.pointer (some a)):=bL rfl
@[go_sem] theorem HS {t:TypeId} {v:Value}:qU (.iface t v) q=q (.iface t v):=bL rfl
@[go_sem] theorem E7 {o:Nat} {a:Addr}:fi (some o) (.pointer (some a)) q=q (.pointer (some (a.add o))):=bL rfl
def JD (n:Nat) (x i:Value) (q:Value→Prop):Prop:=match x,i with
 | .slice (some a) len _,.int _ i=>(0≤i∧i < len)∧q (.pointer (some (a.add (i.toNat * n))))
 | _,_=>False
theorem HT {t:TypeId} {x i:Value} {n:Nat} (h:jn P t=some n):ey P t x i q=JD n x i q:=by
 unfold JD ey
 rw [h]
 cases x <;> try rfl
 rename_i a l c
 cases a <;> try rfl
 cases i <;> rfl
@[go_sem] theorem Kn {n:Nat} {a:Addr} {len cap:Nat} {kd:IntKind} {i:Int} (h0:0≤i) (h1:i < len):JD n (.slice (some a) len cap) (.int kd i) q=q (.pointer (some (a.add (i.toNat * n)))):=by simp [JD,h0,h1]
@[go_sem] theorem HU {a b:Value}:AC (.bool true) a b q=q a:=bL rfl
@[go_sem] theorem Ga {a b:Value}:AC (.bool false) a b q=q b:=bL rfl
@[go_sem] theorem Gb {vs:Array Value} {i:Nat}:iX (.tuple vs) i q=I7 vs[i]? q:=bL rfl
@[go_sem] theorem KF {b:Bool}:GP .not (.bool b) q=q (.bool !b):=bL rfl
section bin
variable {t:TypeId} {xo yo:Operand} {kd:IntKind} {a b:Int}
@[go_sem] theorem JE:ct P .add t xo yo (.int kd a) (.int kd b) q=q (.int kd (kd.wrap (a+b))):=by simp [ct,fG,jq]
@[go_sem] theorem JF:ct P .sub t xo yo (.int kd a) (.int kd b) q=q (.int kd (kd.wrap (a - b))):=by simp [ct,fG,jq]
@[go_sem] theorem JG:ct P .mul t xo yo (.int kd a) (.int kd b) q=q (.int kd (kd.wrap (a * b))):=by simp [ct,fG,jq]
@[go_sem] theorem fu (h:b≠0):ct P .quo t xo yo (.int kd a) (.int kd b) q=q (.int kd (kd.wrap (a.tdiv b))):=by simp [ct,fG,jq,cm,h]
@[go_sem] theorem DH:ct P .and t xo yo (.int kd a) (.int kd b) q=q (.int kd (kd.wrap (BitVec.ofInt kd.bits a &&& BitVec.ofInt kd.bits b).toNat)):=by simp only [ct,fG,jq,Bool.false_eq_true,if_false,if_true]
@[go_sem] theorem KG:ct P .or t xo yo (.int kd a) (.int kd b) q=q (.int kd (kd.wrap (BitVec.ofInt kd.bits a ||| BitVec.ofInt kd.bits b).toNat)):=by simp only [ct,fG,jq,Bool.false_eq_true,if_false,if_true]
@[go_sem] theorem DI:ct P .xor t xo yo (.int kd a) (.int kd b) q=q (.int kd (kd.wrap (BitVec.ofInt kd.bits a ^^^ BitVec.ofInt kd.bits b).toNat)):=by simp only [ct,fG,jq,Bool.false_eq_true,if_false,if_true]
@[go_sem] theorem JH:ct P .eql t xo yo (.int kd a) (.int kd b) q=q (.bool (a == b)):=by simp [ct,fG,jq]
@[go_sem] theorem JI:ct P .neq t xo yo (.int kd a) (.int kd b) q=q (.bool (a != b)):=by simp [ct,fG,jq]
@[go_sem] theorem JJ:ct P .lss t xo yo (.int kd a) (.int kd b) q=q (.bool (decide (a < b))):=by simp [ct,fG,jq]
@[go_sem] theorem JK:ct P .leq t xo yo (.int kd a) (.int kd b) q=q (.bool (decide (a≤b))):=by simp [ct,fG,jq]
@[go_sem] theorem JL:ct P .gtr t xo yo (.int kd a) (.int kd b) q=q (.bool (decide (b < a))):=by simp [ct,fG,jq]
@[go_sem] theorem JM:ct P .geq t xo yo (.int kd a) (.int kd b) q=q (.bool (decide (b≤a))):=by simp [ct,fG,jq]
@[go_sem] theorem rO {k2:IntKind} (h:0≤b):ct P .shl t xo yo (.int kd a) (.int k2 b) q=q (.int kd (kd.wrap (a * 2 ^ (min b.toNat kd.bits)))):=by simp [ct,fG,kQ,cm,h]
@[go_sem] theorem gK {k2:IntKind} (h:0≤b):ct P .shr t xo yo (.int kd a) (.int k2 b) q=q (.int kd (a.fdiv (2 ^ (min b.toNat kd.bits)))):=by simp [ct,fG,kQ,cm,h]
variable {s u:ByteArray}
@[go_sem] theorem JN {op:BinOp}:ct P op t xo yo (.string s) (.string u) q=jr op s u q:=bL rfl
@[go_sem] theorem DJ:jr .eql s u q=q (.bool (s.toList == u.toList)):=bL rfl
@[go_sem] theorem DL:jr .neq s u q=q (.bool (!(s.toList == u.toList))):=bL rfl
@[go_sem] theorem DM:jr .lss s u q=q (.bool (Op.bytesLess s.toList u.toList)):=bL rfl
@[go_sem] theorem DN:jr .leq s u q=q (.bool (Op.bytesLess s.toList u.toList || s.toList == u.toList)):=bL rfl
@[go_sem] theorem DO:jr .gtr s u q=q (.bool (!(Op.bytesLess s.toList u.toList || s.toList == u.toList))):=bL rfl
@[go_sem] theorem DQ:jr .geq s u q=q (.bool (!(Op.bytesLess s.toList u.toList))):=bL rfl
def fC (P:Program) (t:TypeId):Nat :=
 match P.underlying t with
 | some (.interface _)=>1
 | some .bool=>2
 | some (.pointer _)=>3
 | some (.slice _)=>4
 | some .string=>5
 | _=>0
theorem rP (h:fC P t=1):lS P t=true:=by unfold fC at h; unfold lS; split at h <;> simp_all
theorem BE (h:fC P t=2):P.underlying t=some .bool:=by unfold fC at h; split at h <;> simp_all
theorem wq (h:fC P t=3):∃ el,P.underlying t=some (.pointer el):=by unfold fC at h; split at h <;> simp_all
theorem kU (h:fC P t=4):∃ el,P.underlying t=some (.slice el):=by unfold fC at h; split at h <;> simp_all
theorem qZ {c:Value} (h:fC P t=1):ct P .eql t xo (.const c) .nilIface .nilIface q=q (.bool true):=by simp [ct,wQ,cm,rP h,lU]
theorem qd {c:Value} (h:fC P t=1):ct P .neq t xo (.const c) .nilIface .nilIface q=q (.bool false):=by simp [ct,wQ,cm,rP h,lU]
theorem vH {x y:Bool} (h:fC P t=2):ct P .eql t xo yo (.bool x) (.bool y) q=q (.bool (x == y)):=by simp [ct,wQ,cm,BE h]
theorem qf {x:Option Addr} (h:fC P t=3):ct P .eql t xo yo (.pointer x) (.pointer none) q=q (.bool x.isNone):=by
 obtain ⟨el,he⟩:=wq h
 cases x <;> simp [ct,wQ,cm,he]
theorem lI {x:Option Addr} (h:fC P t=3):ct P .neq t xo yo (.pointer x) (.pointer none) q=q (.bool x.isSome):=by
 obtain ⟨el,he⟩:=wq h
 cases x <;> simp [ct,wQ,cm,he]
theorem nj {x:Option Addr} {l c l' c':Nat} (h:fC P t=4):ct P .eql t xo yo (.slice x l c) (.slice none l' c') q=q (.bool x.isNone):=by
 obtain ⟨el,he⟩:=kU h
 cases x <;> simp [ct,wQ,cm,he]
theorem np {x:Option Addr} {l c l' c':Nat} (h:fC P t=4):ct P .neq t xo yo (.slice x l c) (.slice none l' c') q=q (.bool x.isSome):=by
 obtain ⟨el,he⟩:=kU h
 cases x <;> simp [ct,wQ,cm,he]
end bin
theorem DS {f:FuncId} {args a b:Array Value} (h:iO P f=true):lG P (.func (.func f) a b) args k w=ai P f (a++args++b) k w:=by simp [lG,h]
theorem BF {f:FuncId} {args a b:Array Value} {s:Array Value→Sem Value} (h:mH P f=some s):lG P (.func (.func f) a b) args k w=dH P (s (a++args++b)) k w:=by
 have he:iO P f=false:=by
  unfold mH at h; unfold iO
  split at h
  ·split at h
   ·simp at h
   ·rename_i hc; simp_all
  ·simp at h
 simp [lG,he,h]
theorem zB {t:TypeId} {v:Value} {m:String} {args:Array Value} {f:FuncId} (h:wR P t m=some f) (he:iO P f=true):cQ P (.iface t v) m args k w=ai P f (#[v]++args) k w:=by simp [cQ,cm,h,he]
theorem zD {t:TypeId} {a:Option Addr} {n c:Nat} (h:fC P t=4):nQ P (some t) (some (.slice a n c)) q=q (.int .i64 n):=by
 obtain ⟨el,he⟩:=kU h
 simp [nQ,he]
theorem wt {t:TypeId} {s:ByteArray} (h:fC P t=5):nQ P (some t) (some (.string s)) q=q (.int .i64 s.size):=by
 have he:P.underlying t=some .string:=by unfold fC at h; split at h <;> simp_all
 simp [nQ,he]
theorem zE {t:TypeId} {a:Option Addr} {n c:Nat} (h:fC P t=4):rD P (some t) (some (.slice a n c)) q=q (.int .i64 c):=by
 obtain ⟨el,he⟩:=kU h
 simp [rD,he]
theorem uC {t:TypeId} {a:Option Addr} {len cap n:Nat} {lo hi mx:Option Value} (h:jn P t=some n) (o1:DG lo=true) (o2:DG hi=true) (o3:DG mx=true)
    (c1:0≤bd lo 0) (c2:bd lo 0≤bd hi len) (c3:bd hi len≤bd mx cap) (c4:bd mx cap≤cap) (c5:mx.isSome=true→hi.isSome=true) :
    cz P t (.slice a len cap) lo hi mx q=q (.slice (if bd mx cap=bd lo 0 then a else a.map (·.add ((bd lo 0).toNat * n))) ((bd hi len).toNat - (bd lo 0).toNat) ((bd mx cap).toNat - (bd lo 0).toNat)):=by
 obtain ⟨el,he,hs⟩:=z8 h
 simp only [cz,he,hs,js o1,js o2,js o3,cm]
 simp [c1,c2,c3,c4]
 exact fun _=>c5
theorem qH {t:TypeId} {a:Option Addr} {len cap n:Nat} {hi mx:Option Value} (h:jn P t=some n) (o2:DG hi=true) (o3:DG mx=true)
    (c2:0≤bd hi len) (c3:bd hi len≤bd mx cap) (c4:bd mx cap≤cap) (c5:mx.isSome=true→hi.isSome=true) :
    cz P t (.slice a len cap) none hi mx q=q (.slice a (bd hi len).toNat (bd mx cap).toNat):=by
 rw [uC h rfl o2 o3 (by simp [bd]) (by simpa [bd] using c2) c3 c4 c5]
 simp only [ni]
 cases a <;> simp [Addr.add]
theorem eW {t:TypeId} {a:Option Addr} {len cap n:Nat} {kd:IntKind} {l:Int} {hi mx:Option Value} (h:jn P t=some n) (o2:DG hi=true) (o3:DG mx=true)
    (c1:0≤l) (c2:l≤bd hi len) (c3:bd hi len≤bd mx cap) (c4:bd mx cap≤cap) (c5:mx.isSome=true→hi.isSome=true) :
    cz P t (.slice a len cap) (some (.int kd l)) hi mx q=q (.slice (if bd mx cap=l then a else a.map (·.add (l.toNat * n))) ((bd hi len).toNat - l.toNat) ((bd mx cap).toNat - l.toNat)) :=
 uC h rfl o2 o3 c1 c2 c3 c4 c5
def FR (P:Program) (t:TypeId):Option (Nat × Nat) :=
 match P.underlying t with
 | some (.array len el)=>(wP P el).map fun n=>(len,n)
 | _=>none
theorem rQ {t:TypeId} {a:Addr} {len n:Nat} {hi mx:Option Value} (h:FR P t=some (len,n)) (o2:DG hi=true) (o3:DG mx=true)
    (c2:0≤bd hi len) (c3:bd hi len≤bd mx len) (c4:bd mx len≤len) (c5:mx.isSome=true→hi.isSome=true) :
    cz P t (.pointer (some a)) none hi mx q=q (.slice (some a) (bd hi len).toNat (bd mx len).toNat):=by
 unfold FR at h
 split at h
 ·rename_i len' el hu
  obtain ⟨n',hn,h2⟩:=Option.map_eq_some_iff.1 h
  simp only [Prod.mk.injEq] at h2
  obtain ⟨rfl,rfl⟩:=h2
  simp only [cz,hu,hn,wm,js o2,js o3,cm]
  have e:(if bd mx ↑len'=0 then a else a.add ((0:Int).toNat * n'))=a:=by split <;> simp [Addr.add]
  rw [e]
  simp [c2,c3,c4]
  exact fun _=>c5
 ·simp at h
end vals
end Go.E
end
section
namespace Go.Proofs
open Go Go.E
theorem Tryz.ar161:FR Tryz.prog 161=some (10,4):=by kernel_rfl
theorem Tryz.ar165:FR Tryz.prog 165=some (10,2):=by kernel_rfl
theorem Tryz.es28:jn Tryz.prog 28=some 3:=by kernel_rfl
theorem Tryz.es56:jn Tryz.prog 56=some 1:=by kernel_rfl
theorem Tryz.es57:jn Tryz.prog 57=some 3:=by kernel_rfl
theorem Tryz.es97:jn Tryz.prog 97=some 1:=by kernel_rfl
theorem Tryz.es102:jn Tryz.prog 102=some 1:=by kernel_rfl
theorem Tryz.es103:jn Tryz.prog 103=some 2:=by kernel_rfl
theorem Tryz.es140:jn Tryz.prog 140=some 4:=by kernel_rfl
theorem Tryz.es143:jn Tryz.prog 143=some 3:=by kernel_rfl
theorem Tryz.es189:jn Tryz.prog 189=some 2:=by kernel_rfl
theorem Tryz.es194:jn Tryz.prog 194=some 1:=by kernel_rfl
theorem Tryz.kd4:fC Tryz.prog 4=2:=by kernel_rfl
theorem Tryz.kd9:fC Tryz.prog 9=5:=by kernel_rfl
theorem Tryz.kd64:fC Tryz.prog 64=1:=by kernel_rfl
theorem Tryz.kd66:fC Tryz.prog 66=3:=by kernel_rfl
theorem Tryz.kd169:fC Tryz.prog 169=3:=by kernel_rfl
theorem Tryz.ex108:mH Tryz.prog 108=some Extern.BytealgCompare.compare:=by kernel_rfl
theorem Tryz.mi9 (x:Value) (q:Value→Prop):dC Tryz.prog 9 x q=q (.iface 9 x):=by kernel_rfl
theorem Tryz.mi222 (x:Value) (q:Value→Prop):dC Tryz.prog 222 x q=q (.iface 222 x):=by kernel_rfl
theorem Tryz.mi223 (x:Value) (q:Value→Prop):dC Tryz.prog 223 x q=q (.iface 223 x):=by kernel_rfl
theorem Tryz.mi227 (x:Value) (q:Value→Prop):dC Tryz.prog 227 x q=q (.iface 227 x):=by kernel_rfl
theorem Tryz.mi230 (x:Value) (q:Value→Prop):dC Tryz.prog 230 x q=q (.iface 230 x):=by kernel_rfl
theorem Tryz.mi232 (x:Value) (q:Value→Prop):dC Tryz.prog 232 x q=q (.iface 232 x):=by kernel_rfl
theorem Tryz.mi234 (x:Value) (q:Value→Prop):dC Tryz.prog 234 x q=q (.iface 234 x):=by kernel_rfl
theorem Tryz.mi235 (x:Value) (q:Value→Prop):dC Tryz.prog 235 x q=q (.iface 235 x):=by kernel_rfl
theorem Tryz.mi236 (x:Value) (q:Value→Prop):dC Tryz.prog 236 x q=q (.iface 236 x):=by kernel_rfl
theorem Tryz.mi244 (x:Value) (q:Value→Prop):dC Tryz.prog 244 x q=q (.iface 244 x):=by kernel_rfl
theorem Tryz.mi283 (x:Value) (q:Value→Prop):dC Tryz.prog 283 x q=q (.iface 283 x):=by kernel_rfl
theorem Tryz.mi306 (x:Value) (q:Value→Prop):dC Tryz.prog 306 x q=q (.iface 306 x):=by kernel_rfl
@[go_sem] theorem Tryz.qa4 {xo yo:Operand} {x y:Bool} {q:Value→Prop}:ct Tryz.prog .eql 4 xo yo (.bool x) (.bool y) q=q (.bool (x == y)):=vH Tryz.kd4
@[go_sem] theorem Tryz.le9 {s:ByteArray} {q:Value→Prop}:nQ Tryz.prog (some 9) (some (.string s)) q=q (.int .i64 s.size):=wt Tryz.kd9
@[go_sem] theorem Tryz.qa64 {xo:Operand} {c:Value} {q:Value→Prop}:ct Tryz.prog .eql 64 xo (.const c) .nilIface .nilIface q=q (.bool true):=qZ Tryz.kd64
@[go_sem] theorem Tryz.qb64 {xo:Operand} {c:Value} {q:Value→Prop}:ct Tryz.prog .neq 64 xo (.const c) .nilIface .nilIface q=q (.bool false):=qd Tryz.kd64
@[go_sem] theorem Tryz.qa66 {xo yo:Operand} {x:Option Addr} {q:Value→Prop}:ct Tryz.prog .eql 66 xo yo (.pointer x) (.pointer none) q=q (.bool x.isNone):=qf Tryz.kd66
@[go_sem] theorem Tryz.qb66 {xo yo:Operand} {x:Option Addr} {q:Value→Prop}:ct Tryz.prog .neq 66 xo yo (.pointer x) (.pointer none) q=q (.bool x.isSome):=lI Tryz.kd66
@[go_sem] theorem Tryz.qb169 {xo yo:Operand} {x:Option Addr} {q:Value→Prop}:ct Tryz.prog .neq 169 xo yo (.pointer x) (.pointer none) q=q (.bool x.isSome):=lI Tryz.kd169
@[go_sem] theorem Tryz.cl108 {args a b:Array Value} {k:aq} {w:World}:lG Tryz.prog (.func (.func 108) a b) args k w=dH Tryz.prog (Extern.BytealgCompare.compare (a++args++b)) k w:=BF Tryz.ex108
attribute [go_sem] Tryz.mi9 Tryz.mi222 Tryz.mi223 Tryz.mi227 Tryz.mi230 Tryz.mi232 Tryz.mi234 Tryz.mi235 Tryz.mi236 Tryz.mi244 Tryz.mi283 Tryz.mi306
theorem Tryz.mix:Tryz.prog.follows .mixedOrders=true:=by kernel_rfl
abbrev CL (f:FuncId):Prop:=∀ {x a b:Array Value} {k:aq} {w:World},lG Tryz.prog (.func (.func f) a b) x k w=ai Tryz.prog f (a++x++b) k w
theorem Ld {f:FuncId} (h:iO Tryz.prog f=true:=by kernel_rfl):CL f:=DS h
@[go_sem] theorem K7:CL 4∧CL 5∧CL 6∧CL 7∧CL 8∧CL 9∧CL 10∧CL 11∧CL 12∧CL 13∧CL 14∧CL 15∧CL 16∧CL 17∧CL 18∧CL 19∧CL 20∧CL 21∧CL 22∧CL 23∧CL 24∧CL 25∧CL 26∧CL 27∧CL 28∧CL 29∧CL 30∧CL 31∧CL 32∧CL 33∧CL 34∧CL 35∧CL 36∧CL 37∧CL 38∧CL 39∧CL 40∧CL 41∧CL 42∧CL 43∧CL 44∧CL 45∧CL 46∧CL 47∧CL 48∧CL 49∧CL 50∧CL 52∧CL 53∧CL 54∧CL 55∧CL 56∧CL 57∧CL 60∧CL 61∧CL 62∧CL 63∧CL 64∧CL 65∧CL 66∧CL 67∧CL 68∧CL 69∧CL 70∧CL 71∧CL 72∧CL 73∧CL 74∧CL 75∧CL 76∧CL 77∧CL 78∧CL 79∧CL 80∧CL 81∧CL 84∧CL 85∧CL 86∧CL 93∧CL 94∧CL 95∧CL 96∧CL 97∧CL 99∧CL 100∧CL 101∧CL 102∧CL 103∧CL 104∧CL 105∧CL 106∧CL 107∧CL 111∧CL 112∧CL 113∧CL 114∧CL 115∧CL 116∧CL 117∧CL 118∧CL 119∧CL 120∧CL 122∧CL 123∧CL 124∧CL 125∧CL 126∧CL 127∧CL 128∧CL 129∧CL 130∧CL 131∧CL 132∧CL 133∧CL 134∧CL 135∧CL 136∧CL 155∧CL 156∧CL 176∧CL 177∧CL 178∧CL 179∧CL 180∧CL 181∧CL 182∧CL 183∧CL 184∧CL 185∧CL 186∧CL 187∧CL 188∧CL 189∧CL 190∧CL 191∧CL 192∧CL 193∧CL 194∧CL 195∧CL 196∧CL 197∧CL 198∧CL 199∧CL 200∧CL 201∧CL 202∧CL 203∧CL 204∧CL 205∧CL 206∧CL 207∧CL 208∧CL 217∧CL 218∧CL 219∧CL 220∧CL 230∧CL 231∧CL 232∧CL 233∧CL 234∧CL 235∧CL 236∧CL 237:=by and_intros <;> exact Ld
abbrev LD (t:TypeId):Prop:=∀ {x:Value} {k:aq} {w:World},fJ Tryz.prog t x k w=J8 x k w
theorem Le {t:TypeId} (h:jB Tryz.prog t=true:=by kernel_rfl):LD t:=HL h
@[go_sem] theorem K8:LD 3∧LD 4∧LD 5∧LD 9∧LD 22∧LD 23∧LD 27∧LD 28∧LD 32∧LD 35∧LD 56∧LD 57∧LD 58∧LD 59∧LD 64∧LD 66∧LD 70∧LD 77∧LD 79∧LD 80∧LD 97∧LD 102∧LD 103∧LD 122∧LD 124∧LD 132∧LD 138∧LD 140∧LD 143∧LD 151∧LD 153∧LD 155∧LD 156∧LD 162∧LD 169∧LD 171∧LD 174∧LD 175∧LD 177∧LD 179∧LD 182∧LD 188∧LD 189∧LD 194∧LD 275:=by and_intros <;> exact Le
abbrev LM (t:TypeId) (n:Nat):Prop:=∀ {x:Value} {k:aq} {w:World},fJ Tryz.prog t x k w=J9 n x k w
theorem Lg {t:TypeId} {n:Nat} (h:wP Tryz.prog t=some n:=by kernel_rfl) (h2:ym Tryz.prog t=true:=by kernel_rfl):LM t n:=HM h h2
@[go_sem] theorem K9:LM 30 3∧LM 37 3∧LM 40 3∧LM 53 3∧LM 61 4∧LM 68 2∧LM 88 2∧LM 91 3∧LM 95 5∧LM 113 2∧LM 117 3∧LM 158 3∧LM 164 2∧LM 205 2:=by and_intros <;> exact Lg
abbrev SZ (t:TypeId) (n:Nat):Prop:=∀ {x v:Value} {k:aq} {w:World},jN Tryz.prog t x v k w=vG n x v k w
theorem Lh {t:TypeId} {n:Nat} (h:wP Tryz.prog t=some n:=by kernel_rfl):SZ t n:=HN h
@[go_sem] theorem LA:SZ 3 1∧SZ 4 1∧SZ 5 1∧SZ 9 1∧SZ 23 1∧SZ 27 1∧SZ 28 1∧SZ 30 3∧SZ 32 1∧SZ 37 3∧SZ 40 3∧SZ 53 3∧SZ 56 1∧SZ 57 1∧SZ 58 1∧SZ 59 1∧SZ 61 4∧SZ 64 1∧SZ 66 1∧SZ 68 2∧SZ 91 3∧SZ 95 5∧SZ 97 1∧SZ 102 1∧SZ 103 1∧SZ 105 4∧SZ 113 2∧SZ 117 3∧SZ 122 1∧SZ 138 1∧SZ 140 1∧SZ 143 1∧SZ 158 3∧SZ 160 4∧SZ 164 2∧SZ 168 70∧SZ 171 1∧SZ 173 9∧SZ 175 1∧SZ 181 12∧SZ 182 1∧SZ 188 1∧SZ 189 1∧SZ 194 1∧SZ 198 2∧SZ 205 2∧SZ 256 3∧SZ 275 1:=by and_intros <;> exact Lh
abbrev OF (t:TypeId) (i o:Nat):Prop:=Aq Tryz.prog t i=some o
theorem Li {t:TypeId} {i o:Nat} (h:Aq Tryz.prog t i=some o:=by kernel_rfl):OF t i o:=h
@[go_sem] theorem LC:OF 30 0 0∧OF 30 1 1∧OF 30 2 2∧OF 37 0 0∧OF 37 1 1∧OF 37 2 2∧OF 40 0 0∧OF 40 1 1∧OF 40 2 2∧OF 53 0 0∧OF 53 1 1∧OF 53 2 2∧OF 61 0 0∧OF 61 1 1∧OF 61 2 2∧OF 61 3 3∧OF 68 0 0∧OF 68 1 1∧OF 88 0 0∧OF 88 1 1∧OF 91 0 0∧OF 91 1 1∧OF 91 2 2∧OF 95 1 1∧OF 95 2 2∧OF 105 0 0∧OF 105 1 1∧OF 105 2 2∧OF 105 3 3∧OF 113 0 0∧OF 113 1 1∧OF 117 0 0∧OF 117 1 1∧OF 117 2 2∧OF 137 0 0∧OF 137 1 1∧OF 137 5 5∧OF 142 0 0∧OF 142 1 1∧OF 145 0 0∧OF 145 2 2∧OF 145 3 3∧OF 145 4 4∧OF 145 5 5∧OF 145 6 7∧OF 145 7 8∧OF 145 8 9∧OF 158 0 0∧OF 158 1 1∧OF 158 2 2∧OF 160 0 0∧OF 160 1 1∧OF 164 0 0∧OF 164 1 1∧OF 166 0 0∧OF 166 1 40∧OF 168 0 0∧OF 168 1 1∧OF 168 2 2∧OF 168 3 3∧OF 168 4 4∧OF 168 5 8∧OF 168 6 9∧OF 168 7 10∧OF 173 0 0∧OF 173 1 1∧OF 173 2 2∧OF 173 4 4∧OF 173 5 5∧OF 173 6 6∧OF 173 8 8∧OF 181 0 0∧OF 181 1 1∧OF 181 2 2∧OF 181 3 3∧OF 181 4 4∧OF 181 5 5∧OF 181 6 6∧OF 181 7 10∧OF 181 8 11∧OF 184 0 0∧OF 184 1 1∧OF 184 2 2∧OF 184 3 72∧OF 184 4 81∧OF 184 5 93∧OF 184 6 94∧OF 191 0 0∧OF 191 1 1∧OF 191 2 2∧OF 193 0 0∧OF 193 1 1∧OF 193 2 2∧OF 193 3 5∧OF 196 0 0∧OF 196 1 1∧OF 196 2 2∧OF 198 0 0∧OF 198 1 1∧OF 200 0 0∧OF 200 1 6∧OF 200 2 9∧OF 205 0 0∧OF 205 1 1∧OF 256 0 0∧OF 256 1 1∧OF 256 2 2:=by and_intros <;> exact Li
abbrev QA (t:TypeId):Prop:=∀ {xo yo:Operand} {x:Option Addr} {l c l2 c2:Nat} {q:Value→Prop},ct Tryz.prog .eql t xo yo (.slice x l c) (.slice none l2 c2) q=q (.bool x.isNone)
theorem Lj {t:TypeId} (h:fC Tryz.prog t=4:=by kernel_rfl):QA t:=nj h
@[go_sem] theorem LF:QA 56:=Lj
abbrev QB (t:TypeId):Prop:=∀ {xo yo:Operand} {x:Option Addr} {l c l2 c2:Nat} {q:Value→Prop},ct Tryz.prog .neq t xo yo (.slice x l c) (.slice none l2 c2) q=q (.bool x.isSome)
theorem Lk {t:TypeId} (h:fC Tryz.prog t=4:=by kernel_rfl):QB t:=np h
@[go_sem] theorem LG:QB 56:=Lk
abbrev LN (t:TypeId):Prop:=∀ {a:Option Addr} {n c:Nat} {q:Value→Prop},nQ Tryz.prog (some t) (some (.slice a n c)) q=q (.int .i64 n)
theorem Ll {t:TypeId} (h:fC Tryz.prog t=4:=by kernel_rfl):LN t:=zD h
@[go_sem] theorem LH:LN 22∧LN 26∧LN 27∧LN 28∧LN 32∧LN 35∧LN 56∧LN 57∧LN 83∧LN 85∧LN 89∧LN 97∧LN 102∧LN 103∧LN 140∧LN 143∧LN 188∧LN 189∧LN 194∧LN 201:=by and_intros <;> exact Ll
abbrev CP (t:TypeId):Prop:=∀ {a:Option Addr} {n c:Nat} {q:Value→Prop},rD Tryz.prog (some t) (some (.slice a n c)) q=q (.int .i64 c)
theorem Lm {t:TypeId} (h:fC Tryz.prog t=4:=by kernel_rfl):CP t:=zE h
@[go_sem] theorem LI:CP 56∧CP 194:=by and_intros <;> exact Lm
abbrev IX (t:TypeId) (n:Nat):Prop:=∀ {x i:Value} {q:Value→Prop},ey Tryz.prog t x i q=JD n x i q
theorem Ln {t:TypeId} {n:Nat} (h:jn Tryz.prog t=some n:=by kernel_rfl):IX t n:=HT h
@[go_sem] theorem LJ:IX 22 3∧IX 26 1∧IX 27 3∧IX 28 3∧IX 32 3∧IX 35 3∧IX 56 1∧IX 57 3∧IX 83 5∧IX 85 1∧IX 89 2∧IX 97 1∧IX 102 1∧IX 103 2∧IX 140 4∧IX 143 3∧IX 188 4∧IX 189 2∧IX 201 1:=by and_intros <;> exact Ln
end Go.Proofs
end
