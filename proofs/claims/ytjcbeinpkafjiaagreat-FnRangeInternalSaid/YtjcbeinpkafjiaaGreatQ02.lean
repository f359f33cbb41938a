/- Parts of the proof: S, F. -/
import Derived.WalkKit
import Derived.Test.YtjcbeinpkafjiaaGreatChecked
import Derived.Test.YtjcbeinpkafjiaaGreatQ01
set_option linter.all false
set_option maxRecDepth 10000
section
attribute [go_sem_proc ↓] reduceIte
attribute [go_sem_proc] Nat.reduceEqDiff Nat.reduceAdd
namespace Go.E
open Go
theorem ar {α:Sort _} {a b:α} (h:a=b):a=b:=h
inductive SI where
 | code (c:Code)
 | block (id:Nat)
 | inv (K:dS→World→Prop)
def kp (N:Nat) (P:Program) (rs:List ResultVar) (k:ae):List SI→Exit→dS→World→Prop
 | []=>FH P rs k
 | .code c :: st=>rX (fun e w=>WP N P c (kp N P rs k st) e w) (kp N P rs k st)
 | .block id :: st=>l8 id (kp N P rs k st)
 | .inv K :: st=>rX K (kp N P rs k st)
structure Cfg where
 N:Nat
 ops:Array Oper
 st:List SI
 rs:List ResultVar
 k:ae
def gV (N:Nat) (P:Program) (c:Code) (st:List SI) (rs:List ResultVar) (k:ae) (e:dS) (w:World):Prop:=WP N P c (kp N P rs k st) e w
def gE (N:Nat) (P:Program) (ex:Exit) (st:List SI) (rs:List ResultVar) (k:ae) (e:dS) (w:World):Prop:=kp N P rs k st ex e w
def C4 (P:Program) (C:Cfg) (l:List Oper) (e:dS) (w:World):Prop:=sO P C.ops l e (fun e w=>kp C.N P C.rs C.k C.st .normal e w) w
def kw (P:Program) (d:Option Tmp) (C:Cfg) (l:List Oper) (e:dS):ae:=fun v w=>C4 P C l (put e d v) w
def uF (k:ae) (w:World):Value→Prop:=fun v=>k v w
def pr (N:Nat) (P:Program) (x:Value) (a b:Code) (st:List SI) (rs:List ResultVar) (k:ae) (e:dS) (w:World):Prop:=xd x (gV N P a st rs k e w) (gV N P b st rs k e w)
def AO (c:Bool) (P:Program) (o:Oper) (C:Cfg) (l:List Oper) (e:dS) (w:World):Prop:=if c then iF P o e (kw P o.dst C l e) w else C4 P C l (put e o.dst undef) w
section code
variable {N:Nat} {P:Program} {st:List SI} {rs:List ResultVar} {k:ae} {e:dS} {w:World}
@[go_sem ↓] theorem Ej:gV N P .skip st rs k e w=gE N P .normal st rs k e w:=ar rfl
@[go_sem ↓] theorem C5 {id:Nat} {l:List Oper}:gV N P (.region id l.toArray false) st rs k e w=C4 P ⟨N,l.toArray,st,rs,k⟩ l e w:=ar rfl
@[go_sem ↓] theorem kq {a b:Code}:gV N P (.seq a b) st rs k e w=gV N P a (.code b :: st) rs k e w:=ar rfl
@[go_sem ↓] theorem Ek {c:Operand} {a b:Code}:gV N P (.cond c a b) st rs k e w=pr N P (ev e c) a b st rs k e w:=ar rfl
@[go_sem ↓] theorem gh {id:Nat} {a:Code}:gV N P (.block id a) st rs k e w=gV N P a (.block id :: st) rs k e w:=ar rfl
@[go_sem ↓] theorem El {id:Nat}:gV N P (.exit id) st rs k e w=gE N P (.exit id) st rs k e w:=ar rfl
@[go_sem ↓] theorem FN:gV N P .ret st rs k e w=qw P rs e k w:=by
 show kp N P rs k st .ret e w=_
 induction st with
 | nil=>rfl
 | cons x st ih=>cases x <;> exact ih
@[go_sem ↓] theorem Em:gE N P .normal [] rs k e w=qw P rs e k w:=ar rfl
@[go_sem ↓] theorem Dc {c:Code}:gE N P .normal (.code c :: st) rs k e w=gV N P c st rs k e w:=ar rfl
@[go_sem ↓] theorem C6 {id:Nat}:gE N P .normal (.block id :: st) rs k e w=gE N P .normal st rs k e w:=ar rfl
@[go_sem ↓] theorem En {K:dS→World→Prop}:gE N P .normal (.inv K :: st) rs k e w=K e w:=ar rfl
@[go_sem ↓] theorem zq {c:Code} {i:Nat}:gE N P (.exit i) (.code c :: st) rs k e w=gE N P (.exit i) st rs k e w:=ar rfl
@[go_sem ↓] theorem AP {K:dS→World→Prop} {i:Nat}:gE N P (.exit i) (.inv K :: st) rs k e w=gE N P (.exit i) st rs k e w:=ar rfl
@[go_sem ↓] theorem zr {i:Nat}:gE N P (.exit i) (.block i :: st) rs k e w=gE N P .normal st rs k e w:=by simp [gE,kp,l8]
@[go_sem ↓] theorem zt {i j:Nat} (h:i≠j):gE N P (.exit i) (.block j :: st) rs k e w=gE N P (.exit i) st rs k e w:=by simp [gE,kp,l8,h]
@[go_sem] theorem jv {a b:Code}:pr N P (.bool true) a b st rs k e w=gV N P a st rs k e w:=ar rfl
@[go_sem] theorem jF {a b:Code}:pr N P (.bool false) a b st rs k e w=gV N P b st rs k e w:=ar rfl
@[go_sem ↓] theorem FO:qw P [] e k w=k (.tuple #[]) w:=ar rfl
@[go_sem ↓] theorem FP {t:Nat}:qw P [.tmp t] e k w=k (e t) w:=ar rfl
@[go_sem ↓] theorem Eo {a:Nat} {t:TypeId}:qw P [.cell a t] e k w=fW P t (e a) k w:=ar rfl
@[go_sem ↓] theorem Ep {t u:Nat}:qw P [.tmp t,.tmp u] e k w=k (.tuple #[e t,e u]) w:=ar rfl
theorem pt {f:FuncId} {fn:Func} {c:Code} {args:Array Value} (hf:P.funcs[f]? = some fn) (hb:fn.body=some c) (hN:fn.ntmps=N) (hrs:fn.results.toList=rs) (hok:dX N c=true) (hn:Nat.ble args.size N=true)
    (h:gV N P c [] rs k (yU args) w):aU P f args k w:=by
 subst hN
 subst hrs
 exact uA hf hb hok (by simpa using hn) h
theorem bI {c:Code} {β:Type} (sl:β→List (Nat × Value)) (I:β→World→Prop) (μ:β→World→Nat) (b₀:β) (hok:dX N c=true) (ha:gZ e (sl b₀)) (h₀:I b₀ w)
    (round:∀ (K:dS→World→Prop) (e:dS) b w,I b w→(∀ (e':dS) w' b',gZ e' (sl b')→I b' w'→μ b' w' < μ b w→K e' w')→gV N P c (.inv K :: st) rs k (pH e (sl b)) w):gV N P (.loop c) st rs k e w :=
 FL sl I μ b₀ hok ha h₀ fun e b w hI=>round _ e b w hI fun _ _ b' h1 h2 h3=>⟨b',h1,h2,h3⟩
theorem qx {x y:Code} {β:Type} (sl:β→List (Nat × Value)) (J:β→World→Prop) (hok:dX N x=true)
    (hx:∀ K:dS→World→Prop,(∀ (e:dS) w b,gZ e (sl b)→J b w→K e w)→gV N P x (.inv K :: st) rs k e w)
    (hy:∀ (e:dS) b w,J b w→gV N P y st rs k (pH e (sl b)) w):gV N P (.seq x y) st rs k e w :=
 Gu sl J (hx _ fun _ _ b h1 h2=>⟨b,h1,h2⟩) hy hok
def qy (P:Program) (C:Cfg) (t:DT) (L:List (Nat × (World→Prop))) (e:dS) (w:World):Prop:=ta P C.ops t L e (fun e w=>kp C.N P C.rs C.k C.st .normal e w) w
theorem FQ {id:Nat} {ops:Array Oper} (t:DT) (hm:P.follows .mixedOrders=true) (hops:ops.toList.all (jE N)=true)
    (hns:Region.noSelect ops=true) (hc:iN P ops true t ops.size (Array.replicate ops.size false) []=true)
    (h:qy P ⟨N,ops,st,rs,k⟩ t [] e w.drew):gV N P (.region id ops true) st rs k e w:=FM t hm hops hns hc h
end code
section ops
variable {P:Program} {C:Cfg} {rest:List Oper} {e:dS} {w:World} {d:Option Tmp} {ty:TypeId} {pos:String} {af:Array Edge}
@[go_sem ↓] theorem GS {N:Nat} {ops:Array Oper} {st:List SI} {rs:List ResultVar} {k:ae}:C4 P ⟨N,ops,st,rs,k⟩ [] e w=gE N P .normal st rs k e w:=ar rfl
@[go_sem ↓] theorem FR {op:Op}:C4 P C ({ dst:=d,op,type:=ty,pos,after:=af,guard:=none } :: rest) e w =
    iF P { dst:=d,op,type:=ty,pos,after:=af,guard:=none } e (kw P d C rest e) w:=ar rfl
def kr (l:List Oper) (j:Nat):Option Nat:=(l[j]?).bind (·.dst)
@[go_sem] theorem C7 {o:Oper} {l:List Oper}:kr (o :: l) 0=o.dst:=ar rfl
@[go_sem] theorem C8 {o:Oper} {l:List Oper} {j:Nat}:kr (o :: l) (j+1)=kr l j:=ar rfl
def FS (x:Value) (b:Bool):Bool:=match x with
 | .bool t=>t == b
 | _=>false
@[go_sem] theorem FT (t b:Bool):FS (.bool t) b=(t == b):=ar rfl
@[go_sem] theorem Er (b:Bool):FS undef b=false:=ar rfl
def rb (o:Option Nat) (e:dS) (b:Bool):Bool:=match o with
 | some d=>FS (e d) b
 | none=>false
@[go_sem] theorem Dd (d:Nat) (e:dS) (b:Bool):rb (some d) e b=FS (e d) b:=ar rfl
@[go_sem ↓] theorem re {l:List Oper} {j:Nat} {b:Bool}:vy l.toArray e (some (j,b))=rb (kr l j) e b:=by
 cases h:(l[j]?).bind (·.dst) with
 | none=>simp [vy,rb,kr,h]
 | some d =>
  simp only [vy,rb,kr,FS,List.getElem?_toArray,h]
  cases e d <;> rfl
@[go_sem ↓] theorem Es {op:Op} {j:Nat} {b:Bool} {N:Nat} {l:List Oper} {st:List SI} {rs:List ResultVar} {k:ae} :
    C4 P ⟨N,l.toArray,st,rs,k⟩ ({ dst:=d,op,type:=ty,pos,after:=af,guard:=some (j,b) } :: rest) e w =
    AO (rb (kr l j) e b) P { dst:=d,op,type:=ty,pos,after:=af,guard:=some (j,b) } ⟨N,l.toArray,st,rs,k⟩ rest e w:=by
 rw [← re]; exact ar rfl
@[go_sem] theorem Di {o:Oper} {l:List Oper}:AO true P o C l e w=iF P o e (kw P o.dst C l e) w:=ar rfl
@[go_sem] theorem C9 {o:Oper} {l:List Oper}:AO false P o C l e w=C4 P C l (put e o.dst undef) w:=ar rfl
@[go_sem ↓] theorem HN {l:List Oper} {v:Value}:kw P d C l e v w=C4 P C l (put e d v) w:=ar rfl
@[go_sem ↓] theorem Gv {k:ae} {v:Value}:uF k w v=k v w:=ar rfl
def Gw (P:Program) (C:Cfg) (t:DT) (L:List (Nat × (World→Prop))) (d:Option Tmp) (e:dS):ae:=fun v w=>qy P C t L (put e d v) w
def Gx (P:Program) (C:Cfg) (i:Nat) (o:Oper) (t:DT) (L:List (Nat × (World→Prop))) (e:dS):ae:=fun v w=>qy P C t ((i,fun w2=>iV P C.ops o e (fun v2 _=>v2=v) w2) :: L) (put e o.dst v) w
def Gy (P:Program) (C:Cfg) (ks:List Nat) (t:DT) (L:List (Nat × (World→Prop))) (d:Option Tmp) (e:dS):ae:=fun v w=>mW ks L w∧qy P C t L (put e d v) w
def xf (o:Option Oper) (P:Program) (C:Cfg) (t:DT) (L:List (Nat × (World→Prop))) (e:dS) (w:World):Prop:=match o with
 | some o=>iV P C.ops o e (Gw P C t L o.dst e) w
 | none=>False
def AQ (o:Option Oper) (P:Program) (C:Cfg) (i:Nat) (t:DT) (L:List (Nat × (World→Prop))) (e:dS) (w:World):Prop:=match o with
 | some o=>iV P C.ops o e (Gx P C i o t L e) w
 | none=>False
def Dn (o:Option Oper) (P:Program) (C:Cfg) (ks:List Nat) (t:DT) (L:List (Nat × (World→Prop))) (e:dS) (w:World):Prop:=match o with
 | some o=>iV P C.ops o e (Gy P C ks t L o.dst e) w
 | none=>False
section trees
variable {L:List (Nat × (World→Prop))} {t:DT} {N:Nat} {l:List Oper} {st:List SI} {rs:List ResultVar} {k:ae} {i:Nat} {is ks:List Nat} {v:Value} {op:Op} {o:Oper}
@[go_sem ↓] theorem FU:qy P ⟨N,l.toArray,st,rs,k⟩ .done L e w=gE N P .normal st rs k e w:=ar rfl
@[go_sem ↓] theorem AR:qy P ⟨N,l.toArray,st,rs,k⟩ (.free i t) L e w=xf l[i]? P ⟨N,l.toArray,st,rs,k⟩ t L e w:=by
 simp only [qy,ta,List.getElem?_toArray,xf]; cases l[i]? <;> rfl
@[go_sem ↓] theorem Gz:qy P ⟨N,l.toArray,st,rs,k⟩ (sq (i :: is) t) L e w=xf l[i]? P ⟨N,l.toArray,st,rs,k⟩ (sq is t) L e w:=AR
@[go_sem ↓] theorem Do:qy P C (sq [] t) L e w=qy P C t L e w:=ar rfl
@[go_sem ↓] theorem FV:qy P ⟨N,l.toArray,st,rs,k⟩ (.read i t) L e w=AQ l[i]? P ⟨N,l.toArray,st,rs,k⟩ i t L e w:=by
 simp only [qy,ta,List.getElem?_toArray,AQ]; cases l[i]? <;> rfl
@[go_sem ↓] theorem GT:qy P ⟨N,l.toArray,st,rs,k⟩ (.eff i ks t) L e w=Dn l[i]? P ⟨N,l.toArray,st,rs,k⟩ ks t L e w:=by
 simp only [qy,ta,List.getElem?_toArray,Dn]; cases l[i]? <;> rfl
@[go_sem ↓] theorem GU {t2:DT}:qy P C (.alt t t2) L e w=(qy P C t L e w∧qy P C t2 L e w):=ar rfl
@[go_sem] theorem Dp:xf (some o) P C t L e w=iV P C.ops o e (Gw P C t L o.dst e) w:=ar rfl
@[go_sem] theorem Dq:AQ (some o) P C i t L e w=iV P C.ops o e (Gx P C i o t L e) w:=ar rfl
@[go_sem] theorem Et:Dn (some o) P C ks t L e w=iV P C.ops o e (Gy P C ks t L o.dst e) w:=ar rfl
@[go_sem ↓] theorem Eu {ops:Array Oper}:iV P ops { dst:=d,op,type:=ty,pos,after:=af,guard:=none } e k w=iF P { dst:=d,op,type:=ty,pos,after:=af,guard:=none } e k w:=ar rfl
def Dr (c:Bool) (P:Program) (o:Oper) (e:dS) (k:ae) (w:World):Prop:=if c then iF P o e k w else k undef w
@[go_sem] theorem Ev:Dr true P o e k w=iF P o e k w:=ar rfl
@[go_sem] theorem Ds:Dr false P o e k w=k undef w:=ar rfl
@[go_sem ↓] theorem Ew {b:Bool} {j:Nat}:iV P l.toArray { dst:=d,op,type:=ty,pos,after:=af,guard:=some (j,b) } e k w=Dr (rb (kr l j) e b) P { dst:=d,op,type:=ty,pos,after:=af,guard:=some (j,b) } e k w:=by
 rw [← re]; exact ar rfl
@[go_sem ↓] theorem G0:Gw P C t L d e v w=qy P C t L (put e d v) w:=ar rfl
@[go_sem ↓] theorem G1:Gx P C i o t L e v w=qy P C t ((i,fun w2=>iV P C.ops o e (fun v2 _=>v2=v) w2) :: L) (put e o.dst v) w:=ar rfl
@[go_sem ↓] theorem G2:Gy P C ks t L d e v w=(mW ks L w∧qy P C t L (put e d v) w):=ar rfl
@[go_sem ↓] theorem Dt {G:World→Prop}:mW ks ((i,G) :: L) w=((if i ∈ ks then G w else True)∧mW ks L w):=by simp [mW]
@[go_sem ↓] theorem Ex:mW ks [] w=True:=ar rfl
end trees
attribute [go_sem] List.getElem?_cons_zero List.getElem?_cons_succ true_and and_true
end ops
@[go_sem] theorem G3 (e:dS) (t:Nat):ev e (.tmp t)=e t:=ar rfl
@[go_sem] theorem FW (e:dS) (v:Value):ev e (.const v)=v:=ar rfl
@[go_sem] theorem GV (e:dS) (f:Nat):ev e (.func f) = .func (.func f) #[] #[]:=ar rfl
@[go_sem] theorem G4 (e:dS) (d:Nat) (v:Value) (i:Nat):put e (some d) v i=if i=d then v else e i:=ar rfl
@[go_sem] theorem G5 (e:dS) (v:Value) (i:Nat):put e none v i=e i:=ar rfl
@[go_sem] theorem GW (l:List Value) (i:Nat):yU l.toArray i=l.getD i undef:=by simp [yU]
@[go_sem] theorem Ey (e:dS) (j:Nat) (v:Value) (l:List (Nat × Value)) (i:Nat):pH e ((j,v) :: l) i=if i=j then v else pH e l i:=ar rfl
@[go_sem] theorem Ez (e:dS):gZ e []=True:=ar rfl
@[go_sem] theorem Dv (e:dS) (i:Nat) (v:Value) (l:List (Nat × Value)):gZ e ((i,v) :: l)=(e i=v∧gZ e l):=ar rfl
attribute [go_sem] List.getD_cons_zero List.getD_cons_succ List.getD_nil
def AS (c a b:Value) (q:Value→Prop):Prop:=pX c fun t=>q (if t then a else b)
section op
variable {P:Program} {e:dS} {k:ae} {w:World} {d:Option Tmp} {ty:TypeId} {pos:String} {af:Array Edge} {g:Option (Nat × Bool)}
@[go_sem ↓] theorem FX {x:Operand}:iF P { dst:=d,op := .move x,type:=ty,pos,after:=af,guard:=g } e k w=k (ev e x) w:=ar rfl
@[go_sem ↓] theorem Dw {x:Operand}:iF P { dst:=d,op := .assign x,type:=ty,pos,after:=af,guard:=g } e k w=k (ev e x) w:=ar rfl
@[go_sem ↓] theorem FY {c a b:Operand}:iF P { dst:=d,op := .pick c a b,type:=ty,pos,after:=af,guard:=g } e k w=AS (ev e c) (ev e a) (ev e b) (uF k w):=ar rfl
@[go_sem ↓] theorem FZ {t:TypeId} {a:Operand}:iF P { dst:=d,op := .load t a,type:=ty,pos,after:=af,guard:=g } e k w=fW P t (ev e a) k w:=ar rfl
@[go_sem ↓] theorem E0 {t:TypeId} {a x:Operand}:iF P { dst:=d,op := .store t a x,type:=ty,pos,after:=af,guard:=g } e k w=ij P t (ev e a) (ev e x) k w:=ar rfl
@[go_sem ↓] theorem CA {x:Operand}:iF P { dst:=d,op := .nilCheck x,type:=ty,pos,after:=af,guard:=g } e k w=pD (ev e x) (uF k w):=ar rfl
@[go_sem ↓] theorem Bs {t:TypeId} {x:Operand} {f:Nat}:iF P { dst:=d,op := .fieldAddr t x f,type:=ty,pos,after:=af,guard:=g } e k w=fF (yL P t f) (ev e x) (uF k w):=ar rfl
@[go_sem ↓] theorem E1 {t:TypeId} {x:Operand} {f:Nat}:iF P { dst:=d,op := .field t x f,type:=ty,pos,after:=af,guard:=g } e k w=jq P t f (ev e x) (uF k w):=ar rfl
@[go_sem ↓] theorem Bt {t:TypeId} {x i:Operand}:iF P { dst:=d,op := .indexAddr t x i,type:=ty,pos,after:=af,guard:=g } e k w=eH P t (ev e x) (ev e i) (uF k w):=ar rfl
@[go_sem ↓] theorem E2 {t:TypeId} {x i:Operand}:iF P { dst:=d,op := .index t x i,type:=ty,pos,after:=af,guard:=g } e k w=jr P t (ev e x) (ev e i) (uF k w):=ar rfl
@[go_sem ↓] theorem E3 {t yt:TypeId} {op:BinOp} {x y:Operand}:iF P { dst:=d,op := .binOp op t x y yt,type:=ty,pos,after:=af,guard:=g } e k w=cZ P op t x y (ev e x) (ev e y) (uF k w):=ar rfl
@[go_sem ↓] theorem Fa {t:TypeId} {op:UnOp} {x:Operand}:iF P { dst:=d,op := .unOp op t x,type:=ty,pos,after:=af,guard:=g } e k w=C3 op (ev e x) (uF k w):=ar rfl
@[go_sem ↓] theorem DA {x:Operand} {i:Nat}:iF P { dst:=d,op := .extract x i,type:=ty,pos,after:=af,guard:=g } e k w=iE (ev e x) i (uF k w):=ar rfl
@[go_sem ↓] theorem xg {t:TypeId} {x:Operand}:iF P { dst:=d,op := .makeInterface t x,type:=ty,pos,after:=af,guard:=g } e k w=cr P t (ev e x) (uF k w):=ar rfl
@[go_sem ↓] theorem CB {fn:Fn} {a b:Array Operand}:iF P { dst:=d,op := .makeFunc fn a b,type:=ty,pos,after:=af,guard:=g } e k w=k (.func fn (a.map (ev e)) (b.map (ev e))) w:=ar rfl
@[go_sem ↓] theorem E4 {t:TypeId}:iF P { dst:=d,op := .alloc t,type:=ty,pos,after:=af,guard:=g } e k w=dW P (Instr.alloc t true (.tuple #[])) k w:=ar rfl
@[go_sem ↓] theorem GX {t:TypeId} {x:Operand}:iF P { dst:=d,op := .box t x,type:=ty,pos,after:=af,guard:=g } e k w=dW P (Instr.box t (ev e x)) k w:=ar rfl
@[go_sem ↓] theorem E5 {t:TypeId} {ps:Array (Nat × Operand)}:iF P { dst:=d,op := .build t ps,type:=ty,pos,after:=af,guard:=g } e k w=cO P t (ps.map fun (i,x)=>(i,ev e x)) (uF k w):=ar rfl
@[go_sem ↓] theorem DB {s t:TypeId} {x:Operand}:iF P { dst:=d,op := .convert s t x,type:=ty,pos,after:=af,guard:=g } e k w=eW P s t (ev e x) k w:=ar rfl
@[go_sem ↓] theorem E6 {t:TypeId} {x:Operand} {lo hi mx:Option Operand}:iF P { dst:=d,op := .slice t x lo hi mx,type:=ty,pos,after:=af,guard:=g } e k w=dR P t (ev e x) (lo.map (ev e)) (hi.map (ev e)) (mx.map (ev e)) (uF k w):=ar rfl
@[go_sem ↓] theorem Fb {f:Operand} {args:Array Operand} {ats:Array TypeId}:iF P { dst:=d,op := .call { callee := .value f,args,argTypes:=ats },type:=ty,pos,after:=af,guard:=g } e k w=kG P (ev e f) (args.map (ev e)) k w:=ar rfl
@[go_sem ↓] theorem Dy {r:Operand} {m:String} {args:Array Operand} {ats:Array TypeId}:iF P { dst:=d,op := .call { callee := .invoke r m,args,argTypes:=ats },type:=ty,pos,after:=af,guard:=g } e k w=bm P (ev e r) m (args.map (ev e)) k w:=ar rfl
@[go_sem ↓] theorem GY {x:Operand} {t:TypeId}:iF P { dst:=d,op := .call { callee := .builtin .len,args := #[x],argTypes := #[t] },type:=ty,pos,after:=af,guard:=g } e k w=mP P (some t) (some (ev e x)) (uF k w):=by
 simp only [iF,gD,List.map_toArray,List.map_cons,List.map_nil,List.getElem?_toArray,List.getElem?_cons_zero]; rfl
@[go_sem ↓] theorem GZ {x:Operand} {t:TypeId}:iF P { dst:=d,op := .call { callee := .builtin .cap,args := #[x],argTypes := #[t] },type:=ty,pos,after:=af,guard:=g } e k w=pY P (some t) (some (ev e x)) (uF k w):=by
 simp only [iF,gD,List.map_toArray,List.map_cons,List.map_nil,List.getElem?_toArray,List.getElem?_cons_zero]; rfl
end op
section cells
variable {w:World} {b b' o o':Nat} {v:Value} {ob:Obj}
@[go_sem] theorem cG:(w.setCell ⟨b,o,none⟩ v).cell? ⟨b,o,none⟩=(w.cell? ⟨b,o,none⟩).map fun _=>v:=by
 cases h:w.cell? ⟨b,o,none⟩ with
 | some x=>rw [World.cell?_setCell_same w _ v h]; rfl
 | none =>
  simp only [World.cell?,World.setCell,Array.getElem?_modify,if_true] at h ⊢
  cases hb:w.heap[b]? with
  | none=>rfl
  | some x=>cases x <;> simp_all
@[go_sem] theorem gF (h:o≠o'):(w.setCell ⟨b,o,none⟩ v).cell? ⟨b',o',none⟩=w.cell? ⟨b',o',none⟩:=World.cell?_setCell_other w _ _ v (fun he=>h (by cases he; rfl))
@[go_sem] theorem uH (h:b≠b'):(w.setCell ⟨b,o,none⟩ v).cell? ⟨b',o',none⟩=w.cell? ⟨b',o',none⟩:=World.cell?_setCell_other w _ _ v (fun he=>h (by cases he; rfl))
attribute [go_sem] World.frozen?_setCell World.size_setCell World.size_alloc World.size_drew World.cell?_drew World.frozen?_drew Option.map_some List.map_toArray List.map_cons List.map_nil
end cells
@[go_sem] theorem AT (a:Array Value):a ++ #[]=a:=by simp
@[go_sem] theorem AU (a:Array Value) : #[]++a=a:=by simp
@[go_sem] theorem AV (x:Value) (l:List Value) : #[x]++l.toArray=(x :: l).toArray:=by simp
attribute [go_sem] List.size_toArray aX List.length_nil List.cons_append List.nil_append
def Fc (o:Option Value) (q:Value→Prop):Prop:=ly o q
@[go_sem] theorem E7 (v:Value) (q:Value→Prop):Fc (some v) q=q v:=ar rfl
def CC (o:Option Value) (k:ae) (w:World):Prop:=ly o fun v=>k v w
@[go_sem] theorem E8 (v:Value) (k:ae) (w:World):CC (some v) k w=k v w:=ar rfl
def mX (a:Addr) (i n:Nat) (acc:List Value) (k:ae) (w:World):Prop:=jW w a i n fun vs=>k (.agg (acc++vs).toArray) w
def AW (o:Option Value) (a:Addr) (i n:Nat) (acc:List Value) (k:ae) (w:World):Prop:=ly o fun v=>mX a (i+1) n (acc++[v]) k w
@[go_sem] theorem Dz (v:Value) (a:Addr) (i n:Nat) (acc:List Value) (k:ae) (w:World):AW (some v) a i n acc k w=mX a (i+1) n (acc++[v]) k w:=ar rfl
def qp (a:Addr) (i:Nat) (vs:List Value) (k:ae) (w:World):Prop:=nj w a i vs fun w'=>k undef w'
def sX (o:Option Value) (fz:Bool) (v:Value) (a:Addr) (i:Nat) (vs:List Value) (k:ae) (w:World):Prop:=Bp o fz v (qp a (i+1) vs k (w.setCell (a.add i) v))
def bd (o:Option Value) (d:Int):Int:=match o with
 | some (.int _ i)=>i
 | _=>d
def AX (o:Option Value):Bool:=match o with
 | none=>true
 | some (.int _ _)=>true
 | some _=>false
@[go_sem] theorem mY (d:Int):bd none d=d:=ar rfl
theorem uI {d:Int} {q:Int→Prop}:fV none d q=q d:=rfl
theorem jY {o:Option Value} {d:Int} {q:Int→Prop} (h:AX o=true):fV o d q=q (bd o d):=by
 unfold AX at h
 split at h <;> first | rfl | simp at h
section vals
variable {P:Program} {k:ae} {w:World} {q:Value→Prop}
def Ga (x:Value) (k:ae) (w:World):Prop:=match x with
 | .pointer (some a)=>CC (w.cell? a) k w
 | _=>False
def Gb (n:Nat) (x:Value) (k:ae) (w:World):Prop:=match x with
 | .pointer (some a)=>mX a 0 n [] k w
 | _=>False
theorem D1 {t:TypeId} {x:Value} (h:gw P t=true):fW P t x k w=Ga x k w:=by
 unfold Ga; split
 ·simp [fW,h,CC]
 ·unfold fW; split
  ·simp_all
  ·rfl
theorem D8 {t:TypeId} {x:Value} {n:Nat} (h:tf P t=some n) (ha:te P t=true):fW P t x k w=Gb n x k w:=by
 have hs:gw P t=false:=by
  unfold te at ha; unfold gw; split at ha <;> simp_all
 unfold Gb; split
 ·simp [fW,hs,ha,h,mX]
 ·unfold fW; split
  ·simp_all
  ·rfl
@[go_sem] theorem G6 {a:Addr}:Ga (.pointer (some a)) k w=CC (w.cell? a) k w:=ar rfl
@[go_sem] theorem G7 {n:Nat} {a:Addr}:Gb n (.pointer (some a)) k w=mX a 0 n [] k w:=ar rfl
def sY (n:Nat) (x v:Value) (k:ae) (w:World):Prop:=match x with
 | .pointer (some a)=>v.cells.size=n∧qp a 0 v.cells.toList k w
 | _=>False
theorem D9 {t:TypeId} {x v:Value} {n:Nat} (h:tf P t=some n):ij P t x v k w=sY n x v k w:=by
 unfold sY; split
 ·simp only [ij,h,cN,qp,aJ,eq_comm]
 ·unfold ij; split
  ·simp_all
  ·rfl
@[go_sem] theorem Gc {a:Addr} {kd:IntKind} {n:Int}:sY 1 (.pointer (some a)) (.int kd n) k w=qp a 0 [.int kd n] k w:=by simp [sY,Value.cells]
@[go_sem] theorem Fe {a:Addr} {b:Bool}:sY 1 (.pointer (some a)) (.bool b) k w=qp a 0 [.bool b] k w:=by simp [sY,Value.cells]
@[go_sem] theorem EA {a:Addr} {s:ByteArray}:sY 1 (.pointer (some a)) (.string s) k w=qp a 0 [.string s] k w:=by simp [sY,Value.cells]
@[go_sem] theorem DD {a:Addr} {p:Option Addr}:sY 1 (.pointer (some a)) (.pointer p) k w=qp a 0 [.pointer p] k w:=by simp [sY,Value.cells]
@[go_sem] theorem E9 {a:Addr} {p:Option Addr} {l c:Nat}:sY 1 (.pointer (some a)) (.slice p l c) k w=qp a 0 [.slice p l c] k w:=by simp [sY,Value.cells]
@[go_sem] theorem Ff {a:Addr} {f:Fn} {x y:Array Value}:sY 1 (.pointer (some a)) (.func f x y) k w=qp a 0 [.func f x y] k w:=by simp [sY,Value.cells]
@[go_sem] theorem CD {a:Addr}:sY 1 (.pointer (some a)) .nilIface k w=qp a 0 [.nilIface] k w:=by simp [sY,Value.cells]
@[go_sem] theorem Gd {n:Nat} {a:Addr} {l:List Value} (h:l.length=n):sY n (.pointer (some a)) (.agg l.toArray) k w=qp a 0 l k w:=by simp [sY,Value.cells,h]
@[go_sem ↓] theorem EB {a:Addr} {i:Nat} {acc:List Value}:mX a i 0 acc k w=k (.agg acc.toArray) w:=by simp [mX,jW]
@[go_sem ↓] theorem EC {a:Addr} {i n:Nat} {acc:List Value}:mX a i (n+1) acc k w=AW (w.cell? (a.add i)) a i n acc k w:=by simp [mX,jW,AW]
@[go_sem ↓] theorem CE {a:Addr} {i:Nat}:qp a i [] k w=k undef w:=ar rfl
@[go_sem ↓] theorem uJ {a:Addr} {i:Nat} {v:Value} {vs:List Value}:qp a i (v :: vs) k w=sX (w.cell? (a.add i)) (w.frozen? (a.add i)) v a i vs k w:=ar rfl
@[go_sem] theorem Ge {a:Addr} {i:Nat} {x:Value} {kd:IntKind} {n:Int} {vs:List Value}:sX (some x) false (.int kd n) a i vs k w=qp a (i+1) vs k (w.setCell (a.add i) (.int kd n)):=by
 simp [sX,Bp,Value.oneCell']
@[go_sem] theorem Fg {a:Addr} {i:Nat} {x:Value} {b:Bool} {vs:List Value}:sX (some x) false (.bool b) a i vs k w=qp a (i+1) vs k (w.setCell (a.add i) (.bool b)):=by
 simp [sX,Bp,Value.oneCell']
@[go_sem] theorem ED {a:Addr} {i:Nat} {x:Value} {s:ByteArray} {vs:List Value}:sX (some x) false (.string s) a i vs k w=qp a (i+1) vs k (w.setCell (a.add i) (.string s)):=by
 simp [sX,Bp,Value.oneCell']
@[go_sem] theorem DE {a:Addr} {i:Nat} {x:Value} {p:Option Addr} {vs:List Value}:sX (some x) false (.pointer p) a i vs k w=qp a (i+1) vs k (w.setCell (a.add i) (.pointer p)):=by
 simp [sX,Bp,Value.oneCell']
@[go_sem] theorem FA {a:Addr} {i:Nat} {x:Value} {p:Option Addr} {l c:Nat} {vs:List Value}:sX (some x) false (.slice p l c) a i vs k w=qp a (i+1) vs k (w.setCell (a.add i) (.slice p l c)):=by
 simp [sX,Bp,Value.oneCell']
@[go_sem] theorem Fh {a:Addr} {i:Nat} {x:Value} {f:Fn} {y z:Array Value} {vs:List Value}:sX (some x) false (.func f y z) a i vs k w=qp a (i+1) vs k (w.setCell (a.add i) (.func f y z)):=by
 simp [sX,Bp,Value.oneCell']
@[go_sem] theorem FB {a:Addr} {i:Nat} {x:Value} {t:TypeId} {v:Value} {vs:List Value}:sX (some x) false (.iface t v) a i vs k w=qp a (i+1) vs k (w.setCell (a.add i) (.iface t v)):=by
 simp [sX,Bp,Value.oneCell']
@[go_sem] theorem CF {a:Addr} {i:Nat} {x:Value}  {vs:List Value}:sX (some x) false .nilIface a i vs k w=qp a (i+1) vs k (w.setCell (a.add i) .nilIface):=by
 simp [sX,Bp,Value.oneCell']
@[go_sem] theorem Fi {a:Addr}:pD (.pointer (some a)) q=q (.pointer (some a)):=ar rfl
@[go_sem] theorem EE {t:TypeId} {v:Value}:pD (.iface t v) q=q (.iface t v):=ar rfl
@[go_sem] theorem Bu {o:Nat} {a:Addr}:fF (some o) (.pointer (some a)) q=q (.pointer (some (a.add o))):=ar rfl
def Fj (n:Nat) (x i:Value) (q:Value→Prop):Prop:=match x,i with
 | .slice (some a) len _,.int _ i=>(0≤i∧i < len)∧q (.pointer (some (a.add (i.toNat * n))))
 | _,_=>False
theorem EF {t:TypeId} {x i:Value} {n:Nat} (h:kP P t=some n):eH P t x i q=Fj n x i q:=by
 unfold Fj eH
 rw [h]
 cases x <;> try rfl
 rename_i a l c
 cases a <;> try rfl
 cases i <;> rfl
@[go_sem] theorem G8 {n:Nat} {a:Addr} {len cap:Nat} {kd:IntKind} {i:Int} (h0:0≤i) (h1:i < len):Fj n (.slice (some a) len cap) (.int kd i) q=q (.pointer (some (a.add (i.toNat * n)))):=by simp [Fj,h0,h1]
@[go_sem] theorem EG {a b:Value}:AS (.bool true) a b q=q a:=ar rfl
@[go_sem] theorem DF {a b:Value}:AS (.bool false) a b q=q b:=ar rfl
@[go_sem] theorem DG {vs:Array Value} {i:Nat}:iE (.tuple vs) i q=Fc vs[i]? q:=ar rfl
@[go_sem] theorem Gf {b:Bool}:C3 .not (.bool b) q=q (.bool !b):=ar rfl
section bin
variable {t:TypeId} {xo yo:Operand} {kd:IntKind} {a b:Int}
@[go_sem] theorem Fk:cZ P .add t xo yo (.int kd a) (.int kd b) q=q (.int kd (kd.wrap (a+b))):=by simp [cZ,ee,js]
@[go_sem] theorem Fl:cZ P .sub t xo yo (.int kd a) (.int kd b) q=q (.int kd (kd.wrap (a - b))):=by simp [cZ,ee,js]
@[go_sem] theorem Fo:cZ P .mul t xo yo (.int kd a) (.int kd b) q=q (.int kd (kd.wrap (a * b))):=by simp [cZ,ee,js]
@[go_sem] theorem fI (h:b≠0):cZ P .quo t xo yo (.int kd a) (.int kd b) q=q (.int kd (kd.wrap (a.tdiv b))):=by simp [cZ,ee,js,cN,h]
@[go_sem] theorem AY:cZ P .and t xo yo (.int kd a) (.int kd b) q=q (.int kd (kd.wrap (BitVec.ofInt kd.bits a &&& BitVec.ofInt kd.bits b).toNat)):=by simp only [cZ,ee,js,Bool.false_eq_true,if_false,if_true]
@[go_sem] theorem AZ:cZ P .xor t xo yo (.int kd a) (.int kd b) q=q (.int kd (kd.wrap (BitVec.ofInt kd.bits a ^^^ BitVec.ofInt kd.bits b).toNat)):=by simp only [cZ,ee,js,Bool.false_eq_true,if_false,if_true]
@[go_sem] theorem Fq:cZ P .eql t xo yo (.int kd a) (.int kd b) q=q (.bool (a == b)):=by simp [cZ,ee,js]
@[go_sem] theorem Fs:cZ P .neq t xo yo (.int kd a) (.int kd b) q=q (.bool (a != b)):=by simp [cZ,ee,js]
@[go_sem] theorem Ft:cZ P .lss t xo yo (.int kd a) (.int kd b) q=q (.bool (decide (a < b))):=by simp [cZ,ee,js]
@[go_sem] theorem Fu:cZ P .leq t xo yo (.int kd a) (.int kd b) q=q (.bool (decide (a≤b))):=by simp [cZ,ee,js]
@[go_sem] theorem Fv:cZ P .gtr t xo yo (.int kd a) (.int kd b) q=q (.bool (decide (b < a))):=by simp [cZ,ee,js]
@[go_sem] theorem Fw:cZ P .geq t xo yo (.int kd a) (.int kd b) q=q (.bool (decide (b≤a))):=by simp [cZ,ee,js]
@[go_sem] theorem px {k2:IntKind} (h:0≤b):cZ P .shl t xo yo (.int kd a) (.int k2 b) q=q (.int kd (kd.wrap (a * 2 ^ (min b.toNat kd.bits)))):=by simp [cZ,ee,jt,cN,h]
@[go_sem] theorem eh {k2:IntKind} (h:0≤b):cZ P .shr t xo yo (.int kd a) (.int k2 b) q=q (.int kd (a.fdiv (2 ^ (min b.toNat kd.bits)))):=by simp [cZ,ee,jt,cN,h]
variable {s u:ByteArray}
@[go_sem] theorem Fx {op:BinOp}:cZ P op t xo yo (.string s) (.string u) q=jX op s u q:=ar rfl
@[go_sem] theorem Aa:jX .eql s u q=q (.bool (s.toList == u.toList)):=ar rfl
@[go_sem] theorem Ab:jX .neq s u q=q (.bool (!(s.toList == u.toList))):=ar rfl
@[go_sem] theorem Ac:jX .lss s u q=q (.bool (Op.bytesLess s.toList u.toList)):=ar rfl
@[go_sem] theorem Ad:jX .leq s u q=q (.bool (Op.bytesLess s.toList u.toList || s.toList == u.toList)):=ar rfl
@[go_sem] theorem Ae:jX .gtr s u q=q (.bool (!(Op.bytesLess s.toList u.toList || s.toList == u.toList))):=ar rfl
@[go_sem] theorem Af:jX .geq s u q=q (.bool (!(Op.bytesLess s.toList u.toList))):=ar rfl
def eL (P:Program) (t:TypeId):Nat :=
 match P.underlying t with
 | some (.interface _)=>1
 | some .bool=>2
 | some (.pointer _)=>3
 | some (.slice _)=>4
 | some .string=>5
 | _=>0
theorem py (h:eL P t=1):kV P t=true:=by unfold eL at h; unfold kV; split at h <;> simp_all
theorem yg (h:eL P t=2):P.underlying t=some .bool:=by unfold eL at h; split at h <;> simp_all
theorem uK (h:eL P t=3):∃ el,P.underlying t=some (.pointer el):=by unfold eL at h; split at h <;> simp_all
theorem jw (h:eL P t=4):∃ el,P.underlying t=some (.slice el):=by unfold eL at h; split at h <;> simp_all
theorem pI {c:Value} (h:eL P t=1):cZ P .eql t xo (.const c) .nilIface .nilIface q=q (.bool true):=by simp [cZ,tg,cN,py h,kW]
theorem pJ {c:Value} (h:eL P t=1):cZ P .neq t xo (.const c) .nilIface .nilIface q=q (.bool false):=by simp [cZ,tg,cN,py h,kW]
theorem sZ {x y:Bool} (h:eL P t=2):cZ P .eql t xo yo (.bool x) (.bool y) q=q (.bool (x == y)):=by simp [cZ,tg,cN,yg h]
theorem pM {x:Option Addr} (h:eL P t=3):cZ P .eql t xo yo (.pointer x) (.pointer none) q=q (.bool x.isNone):=by
 obtain ⟨el,he⟩:=uK h
 cases x <;> simp [cZ,tg,cN,he]
theorem kJ {x:Option Addr} (h:eL P t=3):cZ P .neq t xo yo (.pointer x) (.pointer none) q=q (.bool x.isSome):=by
 obtain ⟨el,he⟩:=uK h
 cases x <;> simp [cZ,tg,cN,he]
theorem mZ {x:Option Addr} {l c l' c':Nat} (h:eL P t=4):cZ P .eql t xo yo (.slice x l c) (.slice none l' c') q=q (.bool x.isNone):=by
 obtain ⟨el,he⟩:=jw h
 cases x <;> simp [cZ,tg,cN,he]
theorem ma {x:Option Addr} {l c l' c':Nat} (h:eL P t=4):cZ P .neq t xo yo (.slice x l c) (.slice none l' c') q=q (.bool x.isSome):=by
 obtain ⟨el,he⟩:=jw h
 cases x <;> simp [cZ,tg,cN,he]
end bin
theorem Ag {f:FuncId} {args a b:Array Value} (h:gx P f=true):kG P (.func (.func f) a b) args k w=aU P f (a++args++b) k w:=by simp [kG,h]
theorem yh {f:FuncId} {args a b:Array Value} {s:Array Value→Sem Value} (h:lK P f=some s):kG P (.func (.func f) a b) args k w=dW P (s (a++args++b)) k w:=by
 have he:gx P f=false:=by
  unfold lK at h; unfold gx
  split at h
  ·split at h
   ·simp at h
   ·rename_i hc; simp_all
  ·simp at h
 simp [kG,he,h]
theorem wM {t:TypeId} {v:Value} {m:String} {args:Array Value} {f:FuncId} (h:th P t m=some f) (he:gx P f=true):bm P (.iface t v) m args k w=aU P f (#[v]++args) k w:=by simp [bm,cN,h,he]
theorem wN {t:TypeId} {a:Option Addr} {n c:Nat} (h:eL P t=4):mP P (some t) (some (.slice a n c)) q=q (.int .i64 n):=by
 obtain ⟨el,he⟩:=jw h
 simp [mP,he]
theorem uN {t:TypeId} {s:ByteArray} (h:eL P t=5):mP P (some t) (some (.string s)) q=q (.int .i64 s.size):=by
 have he:P.underlying t=some .string:=by unfold eL at h; split at h <;> simp_all
 simp [mP,he]
theorem wO {t:TypeId} {a:Option Addr} {n c:Nat} (h:eL P t=4):pY P (some t) (some (.slice a n c)) q=q (.int .i64 c):=by
 obtain ⟨el,he⟩:=jw h
 simp [pY,he]
theorem rh {t:TypeId} {a:Option Addr} {len cap n:Nat} {lo hi mx:Option Value} (h:kP P t=some n) (o1:AX lo=true) (o2:AX hi=true) (o3:AX mx=true)
    (c1:0≤bd lo 0) (c2:bd lo 0≤bd hi len) (c3:bd hi len≤bd mx cap) (c4:bd mx cap≤cap) (c5:mx.isSome=true→hi.isSome=true) :
    dR P t (.slice a len cap) lo hi mx q=q (.slice (if bd mx cap=bd lo 0 then a else a.map (·.add ((bd lo 0).toNat * n))) ((bd hi len).toNat - (bd lo 0).toNat) ((bd mx cap).toNat - (bd lo 0).toNat)):=by
 obtain ⟨el,he,hs⟩:=xY h
 simp only [dR,he,hs,jY o1,jY o2,jY o3,cN]
 simp [c1,c2,c3,c4]
 exact fun _=>c5
theorem oO {t:TypeId} {a:Option Addr} {len cap n:Nat} {hi mx:Option Value} (h:kP P t=some n) (o2:AX hi=true) (o3:AX mx=true)
    (c2:0≤bd hi len) (c3:bd hi len≤bd mx cap) (c4:bd mx cap≤cap) (c5:mx.isSome=true→hi.isSome=true) :
    dR P t (.slice a len cap) none hi mx q=q (.slice a (bd hi len).toNat (bd mx cap).toNat):=by
 rw [rh h rfl o2 o3 (by simp [bd]) (by simpa [bd] using c2) c3 c4 c5]
 simp only [mY]
 cases a <;> simp [Addr.add]
theorem iG {t:TypeId} {a:Option Addr} {len cap n:Nat} {kd:IntKind} {l:Int} {hi mx:Option Value} (h:kP P t=some n) (o2:AX hi=true) (o3:AX mx=true)
    (c1:0≤l) (c2:l≤bd hi len) (c3:bd hi len≤bd mx cap) (c4:bd mx cap≤cap) (c5:mx.isSome=true→hi.isSome=true) :
    dR P t (.slice a len cap) (some (.int kd l)) hi mx q=q (.slice (if bd mx cap=l then a else a.map (·.add (l.toNat * n))) ((bd hi len).toNat - l.toNat) ((bd mx cap).toNat - l.toNat)) :=
 rh h rfl o2 o3 c1 c2 c3 c4 c5
def CG (P:Program) (t:TypeId):Option (Nat × Nat) :=
 match P.underlying t with
 | some (.array len el)=>(tf P el).map fun n=>(len,n)
 | _=>none
theorem qA {t:TypeId} {a:Addr} {len n:Nat} {hi mx:Option Value} (h:CG P t=some (len,n)) (o2:AX hi=true) (o3:AX mx=true)
    (c2:0≤bd hi len) (c3:bd hi len≤bd mx len) (c4:bd mx len≤len) (c5:mx.isSome=true→hi.isSome=true) :
    dR P t (.pointer (some a)) none hi mx q=q (.slice (some a) (bd hi len).toNat (bd mx len).toNat):=by
 unfold CG at h
 split at h
 ·rename_i len' el hu
  obtain ⟨n',hn,h2⟩:=Option.map_eq_some_iff.1 h
  simp only [Prod.mk.injEq] at h2
  obtain ⟨rfl,rfl⟩:=h2
  simp only [dR,hu,hn,uI,jY o2,jY o3,cN]
  have e:(if bd mx ↑len'=0 then a else a.add ((0:Int).toNat * n'))=a:=by split <;> simp [Addr.add]
  rw [e]
  simp [c2,c3,c4]
  exact fun _=>c5
 ·simp at h
end vals
end Go.E
end
section
namespace Go.Proofs
open Go Go.E
theorem Tryz.ar125:CG Tryz.prog 125=some (10,4):=by kernel_rfl
theorem Tryz.ar129:CG Tryz.prog 129=some (10,2):=by kernel_rfl
theorem Tryz.es44:kP Tryz.prog 44=some 3:=by kernel_rfl
theorem Tryz.es50:kP Tryz.prog 50=some 2:=by kernel_rfl
theorem Tryz.es66:kP Tryz.prog 66=some 1:=by kernel_rfl
theorem Tryz.es107:kP Tryz.prog 107=some 1:=by kernel_rfl
theorem Tryz.es110:kP Tryz.prog 110=some 3:=by kernel_rfl
theorem Tryz.es159:kP Tryz.prog 159=some 3:=by kernel_rfl
theorem Tryz.es161:kP Tryz.prog 161=some 2:=by kernel_rfl
theorem Tryz.es166:kP Tryz.prog 166=some 1:=by kernel_rfl
theorem Tryz.kd4:eL Tryz.prog 4=2:=by kernel_rfl
theorem Tryz.kd9:eL Tryz.prog 9=5:=by kernel_rfl
theorem Tryz.kd116:eL Tryz.prog 116=1:=by kernel_rfl
theorem Tryz.kd120:eL Tryz.prog 120=3:=by kernel_rfl
theorem Tryz.kd137:eL Tryz.prog 137=3:=by kernel_rfl
theorem Tryz.ex131:lK Tryz.prog 131=some Extern.BytealgCompare.compare:=by kernel_rfl
theorem Tryz.mi9 (x:Value) (q:Value→Prop):cr Tryz.prog 9 x q=q (.iface 9 x):=by kernel_rfl
theorem Tryz.mi221 (x:Value) (q:Value→Prop):cr Tryz.prog 221 x q=q (.iface 221 x):=by kernel_rfl
theorem Tryz.mi224 (x:Value) (q:Value→Prop):cr Tryz.prog 224 x q=q (.iface 224 x):=by kernel_rfl
theorem Tryz.mi226 (x:Value) (q:Value→Prop):cr Tryz.prog 226 x q=q (.iface 226 x):=by kernel_rfl
theorem Tryz.mi228 (x:Value) (q:Value→Prop):cr Tryz.prog 228 x q=q (.iface 228 x):=by kernel_rfl
theorem Tryz.mi229 (x:Value) (q:Value→Prop):cr Tryz.prog 229 x q=q (.iface 229 x):=by kernel_rfl
theorem Tryz.mi233 (x:Value) (q:Value→Prop):cr Tryz.prog 233 x q=q (.iface 233 x):=by kernel_rfl
theorem Tryz.mi249 (x:Value) (q:Value→Prop):cr Tryz.prog 249 x q=q (.iface 249 x):=by kernel_rfl
theorem Tryz.mi252 (x:Value) (q:Value→Prop):cr Tryz.prog 252 x q=q (.iface 252 x):=by kernel_rfl
theorem Tryz.mi262 (x:Value) (q:Value→Prop):cr Tryz.prog 262 x q=q (.iface 262 x):=by kernel_rfl
theorem Tryz.mi263 (x:Value) (q:Value→Prop):cr Tryz.prog 263 x q=q (.iface 263 x):=by kernel_rfl
theorem Tryz.mi274 (x:Value) (q:Value→Prop):cr Tryz.prog 274 x q=q (.iface 274 x):=by kernel_rfl
theorem Tryz.mi327 (x:Value) (q:Value→Prop):cr Tryz.prog 327 x q=q (.iface 327 x):=by kernel_rfl
@[go_sem] theorem Tryz.qa4 {xo yo:Operand} {x y:Bool} {q:Value→Prop}:cZ Tryz.prog .eql 4 xo yo (.bool x) (.bool y) q=q (.bool (x == y)):=sZ Tryz.kd4
@[go_sem] theorem Tryz.le9 {s:ByteArray} {q:Value→Prop}:mP Tryz.prog (some 9) (some (.string s)) q=q (.int .i64 s.size):=uN Tryz.kd9
@[go_sem] theorem Tryz.qa116 {xo:Operand} {c:Value} {q:Value→Prop}:cZ Tryz.prog .eql 116 xo (.const c) .nilIface .nilIface q=q (.bool true):=pI Tryz.kd116
@[go_sem] theorem Tryz.qb116 {xo:Operand} {c:Value} {q:Value→Prop}:cZ Tryz.prog .neq 116 xo (.const c) .nilIface .nilIface q=q (.bool false):=pJ Tryz.kd116
@[go_sem] theorem Tryz.qa120 {xo yo:Operand} {x:Option Addr} {q:Value→Prop}:cZ Tryz.prog .eql 120 xo yo (.pointer x) (.pointer none) q=q (.bool x.isNone):=pM Tryz.kd120
@[go_sem] theorem Tryz.qb120 {xo yo:Operand} {x:Option Addr} {q:Value→Prop}:cZ Tryz.prog .neq 120 xo yo (.pointer x) (.pointer none) q=q (.bool x.isSome):=kJ Tryz.kd120
@[go_sem] theorem Tryz.qb137 {xo yo:Operand} {x:Option Addr} {q:Value→Prop}:cZ Tryz.prog .neq 137 xo yo (.pointer x) (.pointer none) q=q (.bool x.isSome):=kJ Tryz.kd137
@[go_sem] theorem Tryz.cl131 {args a b:Array Value} {k:ae} {w:World}:kG Tryz.prog (.func (.func 131) a b) args k w=dW Tryz.prog (Extern.BytealgCompare.compare (a++args++b)) k w:=yh Tryz.ex131
attribute [go_sem] Tryz.mi9 Tryz.mi221 Tryz.mi224 Tryz.mi226 Tryz.mi228 Tryz.mi229 Tryz.mi233 Tryz.mi249 Tryz.mi252 Tryz.mi262 Tryz.mi263 Tryz.mi274 Tryz.mi327
theorem Tryz.mix:Tryz.prog.follows .mixedOrders=true:=by kernel_rfl
abbrev CL (f:FuncId):Prop:=∀ {x a b:Array Value} {k:ae} {w:World},kG Tryz.prog (.func (.func f) a b) x k w=aU Tryz.prog f (a++x++b) k w
theorem Hj {f:FuncId} (h:gx Tryz.prog f=true:=by kernel_rfl):CL f:=Ag h
@[go_sem] theorem HO:CL 13∧CL 15∧CL 18∧CL 19∧CL 22∧CL 23∧CL 24∧CL 25∧CL 26∧CL 27∧CL 28∧CL 42∧CL 43∧CL 44∧CL 48∧CL 53∧CL 55∧CL 57∧CL 58∧CL 59∧CL 64∧CL 65∧CL 66∧CL 67∧CL 68∧CL 72∧CL 73∧CL 74∧CL 75∧CL 77∧CL 79∧CL 84∧CL 86∧CL 88∧CL 89∧CL 91∧CL 92∧CL 93∧CL 94∧CL 95∧CL 96∧CL 97∧CL 98∧CL 99∧CL 100∧CL 101∧CL 102∧CL 103∧CL 110∧CL 112∧CL 122∧CL 123∧CL 124∧CL 125∧CL 126∧CL 127∧CL 128∧CL 129∧CL 130∧CL 134∧CL 137∧CL 138∧CL 139∧CL 140∧CL 141∧CL 142∧CL 143∧CL 147∧CL 149∧CL 150∧CL 151∧CL 152∧CL 153∧CL 154∧CL 155∧CL 156∧CL 157∧CL 158∧CL 159∧CL 160∧CL 161∧CL 162∧CL 163∧CL 164∧CL 165∧CL 166∧CL 167∧CL 168∧CL 186∧CL 187∧CL 188∧CL 200∧CL 201∧CL 202∧CL 203∧CL 204∧CL 205∧CL 206∧CL 207∧CL 208∧CL 209∧CL 210∧CL 211∧CL 212∧CL 213∧CL 214∧CL 215∧CL 216∧CL 218∧CL 219∧CL 220∧CL 221∧CL 224∧CL 225∧CL 226∧CL 227∧CL 236∧CL 237∧CL 238∧CL 239∧CL 249∧CL 250∧CL 251∧CL 252∧CL 253∧CL 254∧CL 255∧CL 256:=by and_intros <;> exact Hj
abbrev LD (t:TypeId):Prop:=∀ {x:Value} {k:ae} {w:World},fW Tryz.prog t x k w=Ga x k w
theorem Hk {t:TypeId} (h:gw Tryz.prog t=true:=by kernel_rfl):LD t:=D1 h
@[go_sem] theorem HP:LD 3∧LD 4∧LD 5∧LD 9∧LD 23∧LD 28∧LD 44∧LD 54∧LD 66∧LD 74∧LD 105∧LD 106∧LD 107∧LD 109∧LD 110∧LD 111∧LD 112∧LD 116∧LD 118∧LD 119∧LD 120∧LD 126∧LD 134∧LD 136∧LD 137∧LD 139∧LD 142∧LD 144∧LD 145∧LD 147∧LD 149∧LD 152∧LD 159∧LD 160∧LD 161∧LD 166∧LD 195∧LD 292:=by and_intros <;> exact Hk
abbrev LM (t:TypeId) (n:Nat):Prop:=∀ {x:Value} {k:ae} {w:World},fW Tryz.prog t x k w=Gb n x k w
theorem Hl {t:TypeId} {n:Nat} (h:tf Tryz.prog t=some n:=by kernel_rfl) (h2:te Tryz.prog t=true:=by kernel_rfl):LM t n:=D8 h h2
@[go_sem] theorem HQ:LM 37 2∧LM 46 3∧LM 53 2∧LM 56 3∧LM 58 5∧LM 62 3∧LM 64 2∧LM 88 3∧LM 114 4∧LM 122 3∧LM 128 2∧LM 256 3:=by and_intros <;> exact Hl
abbrev SZ (t:TypeId) (n:Nat):Prop:=∀ {x v:Value} {k:ae} {w:World},ij Tryz.prog t x v k w=sY n x v k w
theorem Hm {t:TypeId} {n:Nat} (h:tf Tryz.prog t=some n:=by kernel_rfl):SZ t n:=D9 h
@[go_sem] theorem HR:SZ 3 1∧SZ 4 1∧SZ 5 1∧SZ 9 1∧SZ 23 1∧SZ 44 1∧SZ 46 3∧SZ 53 2∧SZ 56 3∧SZ 58 5∧SZ 62 3∧SZ 64 2∧SZ 66 1∧SZ 88 3∧SZ 105 1∧SZ 107 1∧SZ 110 1∧SZ 111 1∧SZ 112 1∧SZ 114 4∧SZ 116 1∧SZ 120 1∧SZ 122 3∧SZ 124 4∧SZ 128 2∧SZ 132 70∧SZ 134 1∧SZ 139 1∧SZ 141 9∧SZ 145 1∧SZ 151 12∧SZ 152 1∧SZ 159 1∧SZ 160 1∧SZ 161 1∧SZ 166 1∧SZ 170 2∧SZ 256 3∧SZ 261 3∧SZ 292 1:=by and_intros <;> exact Hm
abbrev OF (t:TypeId) (i o:Nat):Prop:=yL Tryz.prog t i=some o
theorem Hn {t:TypeId} {i o:Nat} (h:yL Tryz.prog t i=some o:=by kernel_rfl):OF t i o:=h
@[go_sem] theorem HS:OF 37 0 0∧OF 37 1 1∧OF 46 0 0∧OF 46 1 1∧OF 46 2 2∧OF 53 0 0∧OF 53 1 1∧OF 56 0 0∧OF 56 1 1∧OF 56 2 2∧OF 58 1 1∧OF 58 2 2∧OF 62 0 0∧OF 62 1 1∧OF 62 2 2∧OF 64 0 0∧OF 64 1 1∧OF 88 0 0∧OF 88 1 1∧OF 88 2 2∧OF 114 0 0∧OF 114 1 1∧OF 114 2 2∧OF 114 3 3∧OF 122 0 0∧OF 122 1 1∧OF 122 2 2∧OF 124 0 0∧OF 124 1 1∧OF 128 0 0∧OF 128 1 1∧OF 130 0 0∧OF 130 1 40∧OF 132 0 0∧OF 132 1 1∧OF 132 2 2∧OF 132 3 3∧OF 132 4 4∧OF 132 5 8∧OF 132 6 9∧OF 132 7 10∧OF 141 0 0∧OF 141 1 1∧OF 141 2 2∧OF 141 4 4∧OF 141 5 5∧OF 141 6 6∧OF 141 8 8∧OF 151 0 0∧OF 151 1 1∧OF 151 2 2∧OF 151 3 3∧OF 151 4 4∧OF 151 5 5∧OF 151 6 6∧OF 151 7 10∧OF 151 8 11∧OF 154 0 0∧OF 154 1 1∧OF 154 2 2∧OF 154 3 72∧OF 154 4 81∧OF 154 5 93∧OF 154 6 94∧OF 163 0 0∧OF 163 1 1∧OF 163 2 2∧OF 165 0 0∧OF 165 1 1∧OF 165 2 2∧OF 165 3 5∧OF 168 0 0∧OF 168 1 1∧OF 168 2 2∧OF 170 0 0∧OF 170 1 1∧OF 172 0 0∧OF 172 1 6∧OF 172 2 9∧OF 208 0 0∧OF 208 1 1∧OF 208 5 5∧OF 256 0 0∧OF 256 1 1∧OF 256 2 2∧OF 261 0 0∧OF 261 1 1∧OF 261 2 2:=by and_intros <;> exact Hn
abbrev QA (t:TypeId):Prop:=∀ {xo yo:Operand} {x:Option Addr} {l c l2 c2:Nat} {q:Value→Prop},cZ Tryz.prog .eql t xo yo (.slice x l c) (.slice none l2 c2) q=q (.bool x.isNone)
theorem Ho {t:TypeId} (h:eL Tryz.prog t=4:=by kernel_rfl):QA t:=mZ h
@[go_sem] theorem HT:QA 107:=Ho
abbrev QB (t:TypeId):Prop:=∀ {xo yo:Operand} {x:Option Addr} {l c l2 c2:Nat} {q:Value→Prop},cZ Tryz.prog .neq t xo yo (.slice x l c) (.slice none l2 c2) q=q (.bool x.isSome)
theorem Hp {t:TypeId} (h:eL Tryz.prog t=4:=by kernel_rfl):QB t:=ma h
@[go_sem] theorem HU:QB 107:=Hp
abbrev LN (t:TypeId):Prop:=∀ {a:Option Addr} {n c:Nat} {q:Value→Prop},mP Tryz.prog (some t) (some (.slice a n c)) q=q (.int .i64 n)
theorem Hq {t:TypeId} (h:eL Tryz.prog t=4:=by kernel_rfl):LN t:=wN h
@[go_sem] theorem HV:LN 22∧LN 28∧LN 33∧LN 35∧LN 38∧LN 44∧LN 50∧LN 54∧LN 66∧LN 74∧LN 107∧LN 110∧LN 159∧LN 160∧LN 161∧LN 166∧LN 173∧LN 195:=by and_intros <;> exact Hq
abbrev CP (t:TypeId):Prop:=∀ {a:Option Addr} {n c:Nat} {q:Value→Prop},pY Tryz.prog (some t) (some (.slice a n c)) q=q (.int .i64 c)
theorem Hr {t:TypeId} (h:eL Tryz.prog t=4:=by kernel_rfl):CP t:=wO h
@[go_sem] theorem HX:CP 166:=Hr
abbrev IX (t:TypeId) (n:Nat):Prop:=∀ {x i:Value} {q:Value→Prop},eH Tryz.prog t x i q=Fj n x i q
theorem Hs {t:TypeId} {n:Nat} (h:kP Tryz.prog t=some n:=by kernel_rfl):IX t n:=EF h
@[go_sem] theorem HY:IX 22 1∧IX 28 3∧IX 33 5∧IX 35 1∧IX 38 2∧IX 44 3∧IX 50 2∧IX 54 3∧IX 66 1∧IX 74 3∧IX 110 3∧IX 159 3∧IX 160 4∧IX 161 2∧IX 173 1∧IX 195 4:=by and_intros <;> exact Hs
end Go.Proofs
end
