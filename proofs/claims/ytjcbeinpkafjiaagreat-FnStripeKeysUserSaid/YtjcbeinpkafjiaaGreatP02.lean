/- Parts of the proof: S, F. -/
import Derived.WalkKit
import Derived.Test.YtjcbeinpkafjiaaGreatChecked
import Derived.Test.YtjcbeinpkafjiaaGreatP01
set_option linter.all false
set_option maxRecDepth 10000
section
attribute [go_sem_proc ↓] reduceIte
attribute [go_sem_proc] Nat.reduceEqDiff Nat.reduceAdd
namespace Go.E
open Go
theorem bK {α:Sort _} {a b:α} (h:a=b):a=b:=h
inductive SI where
 | code (c:Code)
 | block (id:Nat)
 | inv (K:dq→World→Prop)
def lR (N:Nat) (P:Program) (rs:List ResultVar) (k:ao):List SI→Exit→dq→World→Prop
 | []=>Hx P rs k
 | .code c :: st=>tg (fun e w=>WP N P c (lR N P rs k st) e w) (lR N P rs k st)
 | .block id :: st=>mw id (lR N P rs k st)
 | .inv K :: st=>tg K (lR N P rs k st)
structure Cfg where
 N:Nat
 ops:Array Oper
 st:List SI
 rs:List ResultVar
 k:ao
def gy (N:Nat) (P:Program) (c:Code) (st:List SI) (rs:List ResultVar) (k:ao) (e:dq) (w:World):Prop:=WP N P c (lR N P rs k st) e w
def gh (N:Nat) (P:Program) (ex:Exit) (st:List SI) (rs:List ResultVar) (k:ao) (e:dq) (w:World):Prop:=lR N P rs k st ex e w
def Fh (P:Program) (C:Cfg) (l:List Oper) (e:dq) (w:World):Prop:=uk P C.ops l e (fun e w=>lR C.N P C.rs C.k C.st .normal e w) w
def kw (P:Program) (d:Option Tmp) (C:Cfg) (l:List Oper) (e:dq):ao:=fun v w=>Fh P C l (put e d v) w
def yS (k:ao) (w:World):Value→Prop:=fun v=>k v w
def rS (N:Nat) (P:Program) (x:Value) (a b:Code) (st:List SI) (rs:List ResultVar) (k:ao) (e:dq) (w:World):Prop:=AA x (gy N P a st rs k e w) (gy N P b st rs k e w)
def Ck (c:Bool) (P:Program) (o:Oper) (C:Cfg) (l:List Oper) (e:dq) (w:World):Prop:=if c then ic P o e (kw P o.dst C l e) w else Fh P C l (put e o.dst undef) w
section code
variable {N:Nat} {P:Program} {st:List SI} {rs:List ResultVar} {k:ao} {e:dq} {w:World}
@[go_sem ↓] theorem HM:gy N P .skip st rs k e w=gh N P .normal st rs k e w:=bK rfl
@[go_sem ↓] theorem Fi {id:Nat} {l:List Oper}:gy N P (.region id l.toArray false) st rs k e w=Fh P ⟨N,l.toArray,st,rs,k⟩ l e w:=bK rfl
@[go_sem ↓] theorem lS {a b:Code}:gy N P (.seq a b) st rs k e w=gy N P a (.code b :: st) rs k e w:=bK rfl
@[go_sem ↓] theorem HN {c:Operand} {a b:Code}:gy N P (.cond c a b) st rs k e w=rS N P (ev e c) a b st rs k e w:=bK rfl
@[go_sem ↓] theorem iH {id:Nat} {a:Code}:gy N P (.block id a) st rs k e w=gy N P a (.block id :: st) rs k e w:=bK rfl
@[go_sem ↓] theorem HO {id:Nat}:gy N P (.exit id) st rs k e w=gh N P (.exit id) st rs k e w:=bK rfl
@[go_sem ↓] theorem H0:gy N P .ret st rs k e w=sm P rs e k w:=by
 show lR N P rs k st .ret e w=_
 induction st with
 | nil=>rfl
 | cons x st ih=>cases x <;> exact ih
@[go_sem ↓] theorem HP:gh N P .normal [] rs k e w=sm P rs e k w:=bK rfl
@[go_sem ↓] theorem F9 {c:Code}:gh N P .normal (.code c :: st) rs k e w=gy N P c st rs k e w:=bK rfl
@[go_sem ↓] theorem Fj {id:Nat}:gh N P .normal (.block id :: st) rs k e w=gh N P .normal st rs k e w:=bK rfl
@[go_sem ↓] theorem HQ {K:dq→World→Prop}:gh N P .normal (.inv K :: st) rs k e w=K e w:=bK rfl
@[go_sem ↓] theorem CI {c:Code} {i:Nat}:gh N P (.exit i) (.code c :: st) rs k e w=gh N P (.exit i) st rs k e w:=bK rfl
@[go_sem ↓] theorem Cl {K:dq→World→Prop} {i:Nat}:gh N P (.exit i) (.inv K :: st) rs k e w=gh N P (.exit i) st rs k e w:=bK rfl
@[go_sem ↓] theorem CJ {i:Nat}:gh N P (.exit i) (.block i :: st) rs k e w=gh N P .normal st rs k e w:=by simp [gh,lR,mw]
@[go_sem ↓] theorem CK {i j:Nat} (h:i≠j):gh N P (.exit i) (.block j :: st) rs k e w=gh N P (.exit i) st rs k e w:=by simp [gh,lR,mw,h]
@[go_sem] theorem kJ {a b:Code}:rS N P (.bool true) a b st rs k e w=gy N P a st rs k e w:=bK rfl
@[go_sem] theorem jY {a b:Code}:rS N P (.bool false) a b st rs k e w=gy N P b st rs k e w:=bK rfl
@[go_sem ↓] theorem H1:sm P [] e k w=k (.tuple #[]) w:=bK rfl
@[go_sem ↓] theorem H2 {t:Nat}:sm P [.tmp t] e k w=k (e t) w:=bK rfl
@[go_sem ↓] theorem HR {a:Nat} {t:TypeId}:sm P [.cell a t] e k w=gE P t (e a) k w:=bK rfl
@[go_sem ↓] theorem HS {t u:Nat}:sm P [.tmp t,.tmp u] e k w=k (.tuple #[e t,e u]) w:=bK rfl
theorem rT {f:FuncId} {fn:Func} {c:Code} {args:Array Value} (hf:P.funcs[f]? = some fn) (hb:fn.body=some c) (hN:fn.ntmps=N) (hrs:fn.results.toList=rs) (hok:dt N c=true) (hn:Nat.ble args.size N=true)
    (h:gy N P c [] rs k (Ay args) w):aY P f args k w:=by
 subst hN
 subst hrs
 exact wm hf hb hok (by simpa using hn) h
theorem bQ {c:Code} {β:Type} (sl:β→List (Nat × Value)) (I:β→World→Prop) (μ:β→World→Nat) (b₀:β) (hok:dt N c=true) (ha:iC e (sl b₀)) (h₀:I b₀ w)
    (round:∀ (K:dq→World→Prop) (e:dq) b w,I b w→(∀ (e':dq) w' b',iC e' (sl b')→I b' w'→μ b' w' < μ b w→K e' w')→gy N P c (.inv K :: st) rs k (qh e (sl b)) w):gy N P (.loop c) st rs k e w :=
 Hy sl I μ b₀ hok ha h₀ fun e b w hI=>round _ e b w hI fun _ _ b' h1 h2 h3=>⟨b',h1,h2,h3⟩
theorem sr {x y:Code} {β:Type} (sl:β→List (Nat × Value)) (J:β→World→Prop) (hok:dt N x=true)
    (hx:∀ K:dq→World→Prop,(∀ (e:dq) w b,iC e (sl b)→J b w→K e w)→gy N P x (.inv K :: st) rs k e w)
    (hy:∀ (e:dq) b w,J b w→gy N P y st rs k (qh e (sl b)) w):gy N P (.seq x y) st rs k e w :=
 Ji sl J (hx _ fun _ _ b h1 h2=>⟨b,h1,h2⟩) hy hok
def su (P:Program) (C:Cfg) (t:DT) (L:List (Nat × (World→Prop))) (e:dq) (w:World):Prop:=wP P C.ops t L e (fun e w=>lR C.N P C.rs C.k C.st .normal e w) w
theorem H3 {id:Nat} {ops:Array Oper} (t:DT) (hm:P.follows .mixedOrders=true) (hops:ops.toList.all (jX N)=true)
    (hns:Region.noSelect ops=true) (hc:ij P ops true t ops.size (Array.replicate ops.size false) []=true)
    (h:su P ⟨N,ops,st,rs,k⟩ t [] e w.drew):gy N P (.region id ops true) st rs k e w:=Hz t hm hops hns hc h
end code
section ops
variable {P:Program} {C:Cfg} {rest:List Oper} {e:dq} {w:World} {d:Option Tmp} {ty:TypeId} {pos:String} {af:Array Edge}
@[go_sem ↓] theorem JF {N:Nat} {ops:Array Oper} {st:List SI} {rs:List ResultVar} {k:ao}:Fh P ⟨N,ops,st,rs,k⟩ [] e w=gh N P .normal st rs k e w:=bK rfl
@[go_sem ↓] theorem H4 {op:Op}:Fh P C ({ dst:=d,op,type:=ty,pos,after:=af,guard:=none } :: rest) e w =
    ic P { dst:=d,op,type:=ty,pos,after:=af,guard:=none } e (kw P d C rest e) w:=bK rfl
def lT (l:List Oper) (j:Nat):Option Nat:=(l[j]?).bind (·.dst)
@[go_sem] theorem Fl {o:Oper} {l:List Oper}:lT (o :: l) 0=o.dst:=bK rfl
@[go_sem] theorem Fo {o:Oper} {l:List Oper} {j:Nat}:lT (o :: l) (j+1)=lT l j:=bK rfl
def H5 (x:Value) (b:Bool):Bool:=match x with
 | .bool t=>t == b
 | _=>false
@[go_sem] theorem H6 (t b:Bool):H5 (.bool t) b=(t == b):=bK rfl
@[go_sem] theorem HT (b:Bool):H5 undef b=false:=bK rfl
def tk (o:Option Nat) (e:dq) (b:Bool):Bool:=match o with
 | some d=>H5 (e d) b
 | none=>false
@[go_sem] theorem GA (d:Nat) (e:dq) (b:Bool):tk (some d) e b=H5 (e d) b:=bK rfl
@[go_sem ↓] theorem tm {l:List Oper} {j:Nat} {b:Bool}:yX l.toArray e (some (j,b))=tk (lT l j) e b:=by
 cases h:(l[j]?).bind (·.dst) with
 | none=>simp [yX,tk,lT,h]
 | some d =>
  simp only [yX,tk,lT,H5,List.getElem?_toArray,h]
  cases e d <;> rfl
@[go_sem ↓] theorem HU {op:Op} {j:Nat} {b:Bool} {N:Nat} {l:List Oper} {st:List SI} {rs:List ResultVar} {k:ao} :
    Fh P ⟨N,l.toArray,st,rs,k⟩ ({ dst:=d,op,type:=ty,pos,after:=af,guard:=some (j,b) } :: rest) e w =
    Ck (tk (lT l j) e b) P { dst:=d,op,type:=ty,pos,after:=af,guard:=some (j,b) } ⟨N,l.toArray,st,rs,k⟩ rest e w:=by
 rw [← tm]; exact bK rfl
@[go_sem] theorem GC {o:Oper} {l:List Oper}:Ck true P o C l e w=ic P o e (kw P o.dst C l e) w:=bK rfl
@[go_sem] theorem Fq {o:Oper} {l:List Oper}:Ck false P o C l e w=Fh P C l (put e o.dst undef) w:=bK rfl
@[go_sem ↓] theorem KH {l:List Oper} {v:Value}:kw P d C l e v w=Fh P C l (put e d v) w:=bK rfl
@[go_sem ↓] theorem Jj {k:ao} {v:Value}:yS k w v=k v w:=bK rfl
def Jk (P:Program) (C:Cfg) (t:DT) (L:List (Nat × (World→Prop))) (d:Option Tmp) (e:dq):ao:=fun v w=>su P C t L (put e d v) w
def Jl (P:Program) (C:Cfg) (i:Nat) (o:Oper) (t:DT) (L:List (Nat × (World→Prop))) (e:dq):ao:=fun v w=>su P C t ((i,fun w2=>im P C.ops o e (fun v2 _=>v2=v) w2) :: L) (put e o.dst v) w
def Jm (P:Program) (C:Cfg) (ks:List Nat) (t:DT) (L:List (Nat × (World→Prop))) (d:Option Tmp) (e:dq):ao:=fun v w=>nx ks L w∧su P C t L (put e d v) w
def AC (o:Option Oper) (P:Program) (C:Cfg) (t:DT) (L:List (Nat × (World→Prop))) (e:dq) (w:World):Prop:=match o with
 | some o=>im P C.ops o e (Jk P C t L o.dst e) w
 | none=>False
def Cm (o:Option Oper) (P:Program) (C:Cfg) (i:Nat) (t:DT) (L:List (Nat × (World→Prop))) (e:dq) (w:World):Prop:=match o with
 | some o=>im P C.ops o e (Jl P C i o t L e) w
 | none=>False
def GD (o:Option Oper) (P:Program) (C:Cfg) (ks:List Nat) (t:DT) (L:List (Nat × (World→Prop))) (e:dq) (w:World):Prop:=match o with
 | some o=>im P C.ops o e (Jm P C ks t L o.dst e) w
 | none=>False
section trees
variable {L:List (Nat × (World→Prop))} {t:DT} {N:Nat} {l:List Oper} {st:List SI} {rs:List ResultVar} {k:ao} {i:Nat} {is ks:List Nat} {v:Value} {op:Op} {o:Oper}
@[go_sem ↓] theorem H7:su P ⟨N,l.toArray,st,rs,k⟩ .done L e w=gh N P .normal st rs k e w:=bK rfl
@[go_sem ↓] theorem Cn:su P ⟨N,l.toArray,st,rs,k⟩ (.free i t) L e w=AC l[i]? P ⟨N,l.toArray,st,rs,k⟩ t L e w:=by
 simp only [su,wP,List.getElem?_toArray,AC]; cases l[i]? <;> rfl
@[go_sem ↓] theorem Jn:su P ⟨N,l.toArray,st,rs,k⟩ (sq (i :: is) t) L e w=AC l[i]? P ⟨N,l.toArray,st,rs,k⟩ (sq is t) L e w:=Cn
@[go_sem ↓] theorem GE:su P C (sq [] t) L e w=su P C t L e w:=bK rfl
@[go_sem ↓] theorem H8:su P ⟨N,l.toArray,st,rs,k⟩ (.read i t) L e w=Cm l[i]? P ⟨N,l.toArray,st,rs,k⟩ i t L e w:=by
 simp only [su,wP,List.getElem?_toArray,Cm]; cases l[i]? <;> rfl
@[go_sem ↓] theorem JG:su P ⟨N,l.toArray,st,rs,k⟩ (.eff i ks t) L e w=GD l[i]? P ⟨N,l.toArray,st,rs,k⟩ ks t L e w:=by
 simp only [su,wP,List.getElem?_toArray,GD]; cases l[i]? <;> rfl
@[go_sem ↓] theorem JH {t2:DT}:su P C (.alt t t2) L e w=(su P C t L e w∧su P C t2 L e w):=bK rfl
@[go_sem] theorem GF:AC (some o) P C t L e w=im P C.ops o e (Jk P C t L o.dst e) w:=bK rfl
@[go_sem] theorem GG:Cm (some o) P C i t L e w=im P C.ops o e (Jl P C i o t L e) w:=bK rfl
@[go_sem] theorem HV:GD (some o) P C ks t L e w=im P C.ops o e (Jm P C ks t L o.dst e) w:=bK rfl
@[go_sem ↓] theorem HX {ops:Array Oper}:im P ops { dst:=d,op,type:=ty,pos,after:=af,guard:=none } e k w=ic P { dst:=d,op,type:=ty,pos,after:=af,guard:=none } e k w:=bK rfl
def GH (c:Bool) (P:Program) (o:Oper) (e:dq) (k:ao) (w:World):Prop:=if c then ic P o e k w else k undef w
@[go_sem] theorem HY:GH true P o e k w=ic P o e k w:=bK rfl
@[go_sem] theorem GI:GH false P o e k w=k undef w:=bK rfl
@[go_sem ↓] theorem HZ {b:Bool} {j:Nat}:im P l.toArray { dst:=d,op,type:=ty,pos,after:=af,guard:=some (j,b) } e k w=GH (tk (lT l j) e b) P { dst:=d,op,type:=ty,pos,after:=af,guard:=some (j,b) } e k w:=by
 rw [← tm]; exact bK rfl
@[go_sem ↓] theorem Jo:Jk P C t L d e v w=su P C t L (put e d v) w:=bK rfl
@[go_sem ↓] theorem Jp:Jl P C i o t L e v w=su P C t ((i,fun w2=>im P C.ops o e (fun v2 _=>v2=v) w2) :: L) (put e o.dst v) w:=bK rfl
@[go_sem ↓] theorem Jq:Jm P C ks t L d e v w=(nx ks L w∧su P C t L (put e d v) w):=bK rfl
@[go_sem ↓] theorem GJ {G:World→Prop}:nx ks ((i,G) :: L) w=((if i ∈ ks then G w else True)∧nx ks L w):=by simp [nx]
@[go_sem ↓] theorem Ha:nx ks [] w=True:=bK rfl
end trees
attribute [go_sem] List.getElem?_cons_zero List.getElem?_cons_succ true_and and_true
end ops
@[go_sem] theorem Jr (e:dq) (t:Nat):ev e (.tmp t)=e t:=bK rfl
@[go_sem] theorem H9 (e:dq) (v:Value):ev e (.const v)=v:=bK rfl
@[go_sem] theorem JI (e:dq) (f:Nat):ev e (.func f) = .func (.func f) #[] #[]:=bK rfl
@[go_sem] theorem Js (e:dq) (d:Nat) (v:Value) (i:Nat):put e (some d) v i=if i=d then v else e i:=bK rfl
@[go_sem] theorem Jt (e:dq) (v:Value) (i:Nat):put e none v i=e i:=bK rfl
@[go_sem] theorem JJ (l:List Value) (i:Nat):Ay l.toArray i=l.getD i undef:=by simp [Ay]
@[go_sem] theorem Hc (e:dq) (j:Nat) (v:Value) (l:List (Nat × Value)) (i:Nat):qh e ((j,v) :: l) i=if i=j then v else qh e l i:=bK rfl
@[go_sem] theorem Hd (e:dq):iC e []=True:=bK rfl
@[go_sem] theorem GK (e:dq) (i:Nat) (v:Value) (l:List (Nat × Value)):iC e ((i,v) :: l)=(e i=v∧iC e l):=bK rfl
attribute [go_sem] List.getD_cons_zero List.getD_cons_succ List.getD_nil
def Cp (c a b:Value) (q:Value→Prop):Prop:=rI c fun t=>q (if t then a else b)
section op
variable {P:Program} {e:dq} {k:ao} {w:World} {d:Option Tmp} {ty:TypeId} {pos:String} {af:Array Edge} {g:Option (Nat × Bool)}
@[go_sem ↓] theorem IA {x:Operand}:ic P { dst:=d,op := .move x,type:=ty,pos,after:=af,guard:=g } e k w=k (ev e x) w:=bK rfl
@[go_sem ↓] theorem GM {x:Operand}:ic P { dst:=d,op := .assign x,type:=ty,pos,after:=af,guard:=g } e k w=k (ev e x) w:=bK rfl
@[go_sem ↓] theorem IB {c a b:Operand}:ic P { dst:=d,op := .pick c a b,type:=ty,pos,after:=af,guard:=g } e k w=Cp (ev e c) (ev e a) (ev e b) (yS k w):=bK rfl
@[go_sem ↓] theorem IC {t:TypeId} {a:Operand}:ic P { dst:=d,op := .load t a,type:=ty,pos,after:=af,guard:=g } e k w=gE P t (ev e a) k w:=bK rfl
@[go_sem ↓] theorem He {t:TypeId} {a x:Operand}:ic P { dst:=d,op := .store t a x,type:=ty,pos,after:=af,guard:=g } e k w=jF P t (ev e a) (ev e x) k w:=bK rfl
@[go_sem ↓] theorem Es {x:Operand}:ic P { dst:=d,op := .nilCheck x,type:=ty,pos,after:=af,guard:=g } e k w=qa (ev e x) (yS k w):=bK rfl
@[go_sem ↓] theorem Eb {t:TypeId} {x:Operand} {f:Nat}:ic P { dst:=d,op := .fieldAddr t x f,type:=ty,pos,after:=af,guard:=g } e k w=fY (Ao P t f) (ev e x) (yS k w):=bK rfl
@[go_sem ↓] theorem Ec {t:TypeId} {x i:Operand}:ic P { dst:=d,op := .indexAddr t x i,type:=ty,pos,after:=af,guard:=g } e k w=eW P t (ev e x) (ev e i) (yS k w):=bK rfl
@[go_sem ↓] theorem Hf {t:TypeId} {x i:Operand}:ic P { dst:=d,op := .index t x i,type:=ty,pos,after:=af,guard:=g } e k w=kE P t (ev e x) (ev e i) (yS k w):=bK rfl
@[go_sem ↓] theorem Hg {t yt:TypeId} {op:BinOp} {x y:Operand}:ic P { dst:=d,op := .binOp op t x y yt,type:=ty,pos,after:=af,guard:=g } e k w=cu P op t x y (ev e x) (ev e y) (yS k w):=bK rfl
@[go_sem ↓] theorem ID {t:TypeId} {op:UnOp} {x:Operand}:ic P { dst:=d,op := .unOp op t x,type:=ty,pos,after:=af,guard:=g } e k w=Fg op (ev e x) (yS k w):=bK rfl
@[go_sem ↓] theorem Fs {x:Operand} {i:Nat}:ic P { dst:=d,op := .extract x i,type:=ty,pos,after:=af,guard:=g } e k w=iX (ev e x) i (yS k w):=bK rfl
@[go_sem ↓] theorem AD {t:TypeId} {x:Operand}:ic P { dst:=d,op := .makeInterface t x,type:=ty,pos,after:=af,guard:=g } e k w=dE P t (ev e x) (yS k w):=bK rfl
@[go_sem ↓] theorem Et {fn:Fn} {a b:Array Operand}:ic P { dst:=d,op := .makeFunc fn a b,type:=ty,pos,after:=af,guard:=g } e k w=k (.func fn (a.map (ev e)) (b.map (ev e))) w:=bK rfl
@[go_sem ↓] theorem Hh {t:TypeId}:ic P { dst:=d,op := .alloc t,type:=ty,pos,after:=af,guard:=g } e k w=eD P (Instr.alloc t true (.tuple #[])) k w:=bK rfl
@[go_sem ↓] theorem JK {t:TypeId} {x:Operand}:ic P { dst:=d,op := .box t x,type:=ty,pos,after:=af,guard:=g } e k w=eD P (Instr.box t (ev e x)) k w:=bK rfl
@[go_sem ↓] theorem Hi {t:TypeId} {ps:Array (Nat × Operand)}:ic P { dst:=d,op := .build t ps,type:=ty,pos,after:=af,guard:=g } e k w=cn P t (ps.map fun (i,x)=>(i,ev e x)) (yS k w):=bK rfl
@[go_sem ↓] theorem Ft {s t:TypeId} {x:Operand}:ic P { dst:=d,op := .convert s t x,type:=ty,pos,after:=af,guard:=g } e k w=fA P s t (ev e x) k w:=bK rfl
@[go_sem ↓] theorem Hj {t:TypeId} {x:Operand} {lo hi mx:Option Operand}:ic P { dst:=d,op := .slice t x lo hi mx,type:=ty,pos,after:=af,guard:=g } e k w=dR P t (ev e x) (lo.map (ev e)) (hi.map (ev e)) (mx.map (ev e)) (yS k w):=bK rfl
@[go_sem ↓] theorem IE {f:Operand} {args:Array Operand} {ats:Array TypeId}:ic P { dst:=d,op := .call { callee := .value f,args,argTypes:=ats },type:=ty,pos,after:=af,guard:=g } e k w=ku P (ev e f) (args.map (ev e)) k w:=bK rfl
@[go_sem ↓] theorem GN {r:Operand} {m:String} {args:Array Operand} {ats:Array TypeId}:ic P { dst:=d,op := .call { callee := .invoke r m,args,argTypes:=ats },type:=ty,pos,after:=af,guard:=g } e k w=bt P (ev e r) m (args.map (ev e)) k w:=bK rfl
@[go_sem ↓] theorem JL {x:Operand} {t:TypeId}:ic P { dst:=d,op := .call { callee := .builtin .len,args := #[x],argTypes := #[t] },type:=ty,pos,after:=af,guard:=g } e k w=ni P (some t) (some (ev e x)) (yS k w):=by
 simp only [ic,gg,List.map_toArray,List.map_cons,List.map_nil,List.getElem?_toArray,List.getElem?_cons_zero]; rfl
@[go_sem ↓] theorem JM {x:Operand} {t:TypeId}:ic P { dst:=d,op := .call { callee := .builtin .cap,args := #[x],argTypes := #[t] },type:=ty,pos,after:=af,guard:=g } e k w=rJ P (some t) (some (ev e x)) (yS k w):=by
 simp only [ic,gg,List.map_toArray,List.map_cons,List.map_nil,List.getElem?_toArray,List.getElem?_cons_zero]; rfl
end op
section cells
variable {w:World} {b b' o o':Nat} {v:Value} {ob:Obj}
@[go_sem] theorem cG:(w.setCell ⟨b,o,none⟩ v).cell? ⟨b,o,none⟩=(w.cell? ⟨b,o,none⟩).map fun _=>v:=by
 cases h:w.cell? ⟨b,o,none⟩ with
 | some x=>rw [World.cell?_setCell_same w _ v h]; rfl
 | none =>
  simp only [World.cell?,World.setCell,Array.getElem?_modify,if_true] at h ⊢
  cases hb:w.heap[b]? with
  | none=>rfl
  | some x=>cases x <;> simp_all
@[go_sem] theorem gi (h:o≠o'):(w.setCell ⟨b,o,none⟩ v).cell? ⟨b',o',none⟩=w.cell? ⟨b',o',none⟩:=World.cell?_setCell_other w _ _ v (fun he=>h (by cases he; rfl))
@[go_sem] theorem wt (h:b≠b'):(w.setCell ⟨b,o,none⟩ v).cell? ⟨b',o',none⟩=w.cell? ⟨b',o',none⟩:=World.cell?_setCell_other w _ _ v (fun he=>h (by cases he; rfl))
attribute [go_sem] World.frozen?_setCell World.size_setCell World.size_alloc World.size_drew World.cell?_drew World.frozen?_drew Option.map_some List.map_toArray List.map_cons List.map_nil
end cells
@[go_sem] theorem Cq (a:Array Value):a ++ #[]=a:=by simp
@[go_sem] theorem Cr (a:Array Value) : #[]++a=a:=by simp
@[go_sem] theorem Cs (x:Value) (l:List Value) : #[x]++l.toArray=(x :: l).toArray:=by simp
attribute [go_sem] List.size_toArray ag List.length_nil List.cons_append List.nil_append
def IF (o:Option Value) (q:Value→Prop):Prop:=nh o q
@[go_sem] theorem Hk (v:Value) (q:Value→Prop):IF (some v) q=q v:=bK rfl
def Eu (o:Option Value) (k:ao) (w:World):Prop:=nh o fun v=>k v w
@[go_sem] theorem Hl (v:Value) (k:ao) (w:World):Eu (some v) k w=k v w:=bK rfl
def ny (a:Addr) (i n:Nat) (acc:List Value) (k:ao) (w:World):Prop:=jo w a i n fun vs=>k (.agg (acc++vs).toArray) w
def Ct (o:Option Value) (a:Addr) (i n:Nat) (acc:List Value) (k:ao) (w:World):Prop:=nh o fun v=>ny a (i+1) n (acc++[v]) k w
@[go_sem] theorem GO (v:Value) (a:Addr) (i n:Nat) (acc:List Value) (k:ao) (w:World):Ct (some v) a i n acc k w=ny a (i+1) n (acc++[v]) k w:=bK rfl
def sf (a:Addr) (i:Nat) (vs:List Value) (k:ao) (w:World):Prop:=pM w a i vs fun w'=>k undef w'
def uw (o:Option Value) (fz:Bool) (v:Value) (a:Addr) (i:Nat) (vs:List Value) (k:ao) (w:World):Prop:=Ea o fz v (sf a (i+1) vs k (w.setCell (a.add i) v))
def bd (o:Option Value) (d:Int):Int:=match o with
 | some (.int _ i)=>i
 | _=>d
def Cv (o:Option Value):Bool:=match o with
 | none=>true
 | some (.int _ _)=>true
 | some _=>false
@[go_sem] theorem nz (d:Int):bd none d=d:=bK rfl
theorem wu {d:Int} {q:Int→Prop}:gC none d q=q d:=rfl
theorem jr {o:Option Value} {d:Int} {q:Int→Prop} (h:Cv o=true):gC o d q=q (bd o d):=by
 unfold Cv at h
 split at h <;> first | rfl | simp at h
section vals
variable {P:Program} {k:ao} {w:World} {q:Value→Prop}
def JN (x:Value) (k:ao) (w:World):Prop:=match x with
 | .pointer (some a)=>Eu (w.cell? a) k w
 | _=>False
def JO (n:Nat) (x:Value) (k:ao) (w:World):Prop:=match x with
 | .pointer (some a)=>ny a 0 n [] k w
 | _=>False
theorem GP {t:TypeId} {x:Value} (h:il P t=true):gE P t x k w=JN x k w:=by
 unfold JN; split
 ·simp [gE,h,Eu]
 ·unfold gE; split
  ·simp_all
  ·rfl
theorem GQ {t:TypeId} {x:Value} {n:Nat} (h:wU P t=some n) (ha:yW P t=true):gE P t x k w=JO n x k w:=by
 have hs:il P t=false:=by
  unfold yW at ha; unfold il; split at ha <;> simp_all
 unfold JO; split
 ·simp [gE,hs,ha,h,ny]
 ·unfold gE; split
  ·simp_all
  ·rfl
@[go_sem] theorem Ju {a:Addr}:JN (.pointer (some a)) k w=Eu (w.cell? a) k w:=bK rfl
@[go_sem] theorem Jv {n:Nat} {a:Addr}:JO n (.pointer (some a)) k w=ny a 0 n [] k w:=bK rfl
def ux (n:Nat) (x v:Value) (k:ao) (w:World):Prop:=match x with
 | .pointer (some a)=>v.cells.size=n∧sf a 0 v.cells.toList k w
 | _=>False
theorem GR {t:TypeId} {x v:Value} {n:Nat} (h:wU P t=some n):jF P t x v k w=ux n x v k w:=by
 unfold ux; split
 ·simp only [jF,h,cY,sf,aK,eq_comm]
 ·unfold jF; split
  ·simp_all
  ·rfl
@[go_sem] theorem JP {a:Addr} {kd:IntKind} {n:Int}:ux 1 (.pointer (some a)) (.int kd n) k w=sf a 0 [.int kd n] k w:=by simp [ux,Value.cells]
@[go_sem] theorem IG {a:Addr} {b:Bool}:ux 1 (.pointer (some a)) (.bool b) k w=sf a 0 [.bool b] k w:=by simp [ux,Value.cells]
@[go_sem] theorem GS {a:Addr} {s:ByteArray}:ux 1 (.pointer (some a)) (.string s) k w=sf a 0 [.string s] k w:=by simp [ux,Value.cells]
@[go_sem] theorem Fu {a:Addr} {p:Option Addr}:ux 1 (.pointer (some a)) (.pointer p) k w=sf a 0 [.pointer p] k w:=by simp [ux,Value.cells]
@[go_sem] theorem Hm {a:Addr} {p:Option Addr} {l c:Nat}:ux 1 (.pointer (some a)) (.slice p l c) k w=sf a 0 [.slice p l c] k w:=by simp [ux,Value.cells]
@[go_sem] theorem IH {a:Addr} {f:Fn} {x y:Array Value}:ux 1 (.pointer (some a)) (.func f x y) k w=sf a 0 [.func f x y] k w:=by simp [ux,Value.cells]
@[go_sem] theorem Ev {a:Addr}:ux 1 (.pointer (some a)) .nilIface k w=sf a 0 [.nilIface] k w:=by simp [ux,Value.cells]
@[go_sem] theorem JQ {n:Nat} {a:Addr} {l:List Value} (h:l.length=n):ux n (.pointer (some a)) (.agg l.toArray) k w=sf a 0 l k w:=by simp [ux,Value.cells,h]
@[go_sem ↓] theorem GT {a:Addr} {i:Nat} {acc:List Value}:ny a i 0 acc k w=k (.agg acc.toArray) w:=by simp [ny,jo]
@[go_sem ↓] theorem GU {a:Addr} {i n:Nat} {acc:List Value}:ny a i (n+1) acc k w=Ct (w.cell? (a.add i)) a i n acc k w:=by simp [ny,jo,Ct]
@[go_sem ↓] theorem Ew {a:Addr} {i:Nat}:sf a i [] k w=k undef w:=bK rfl
@[go_sem ↓] theorem wv {a:Addr} {i:Nat} {v:Value} {vs:List Value}:sf a i (v :: vs) k w=uw (w.cell? (a.add i)) (w.frozen? (a.add i)) v a i vs k w:=bK rfl
@[go_sem] theorem JR {a:Addr} {i:Nat} {x:Value} {kd:IntKind} {n:Int} {vs:List Value}:uw (some x) false (.int kd n) a i vs k w=sf a (i+1) vs k (w.setCell (a.add i) (.int kd n)):=by
 simp [uw,Ea,Value.oneCell']
@[go_sem] theorem II {a:Addr} {i:Nat} {x:Value} {b:Bool} {vs:List Value}:uw (some x) false (.bool b) a i vs k w=sf a (i+1) vs k (w.setCell (a.add i) (.bool b)):=by
 simp [uw,Ea,Value.oneCell']
@[go_sem] theorem GV {a:Addr} {i:Nat} {x:Value} {s:ByteArray} {vs:List Value}:uw (some x) false (.string s) a i vs k w=sf a (i+1) vs k (w.setCell (a.add i) (.string s)):=by
 simp [uw,Ea,Value.oneCell']
@[go_sem] theorem Fv {a:Addr} {i:Nat} {x:Value} {p:Option Addr} {vs:List Value}:uw (some x) false (.pointer p) a i vs k w=sf a (i+1) vs k (w.setCell (a.add i) (.pointer p)):=by
 simp [uw,Ea,Value.oneCell']
@[go_sem] theorem Hn {a:Addr} {i:Nat} {x:Value} {p:Option Addr} {l c:Nat} {vs:List Value}:uw (some x) false (.slice p l c) a i vs k w=sf a (i+1) vs k (w.setCell (a.add i) (.slice p l c)):=by
 simp [uw,Ea,Value.oneCell']
@[go_sem] theorem IJ {a:Addr} {i:Nat} {x:Value} {f:Fn} {y z:Array Value} {vs:List Value}:uw (some x) false (.func f y z) a i vs k w=sf a (i+1) vs k (w.setCell (a.add i) (.func f y z)):=by
 simp [uw,Ea,Value.oneCell']
@[go_sem] theorem Ho {a:Addr} {i:Nat} {x:Value} {t:TypeId} {v:Value} {vs:List Value}:uw (some x) false (.iface t v) a i vs k w=sf a (i+1) vs k (w.setCell (a.add i) (.iface t v)):=by
 simp [uw,Ea,Value.oneCell']
@[go_sem] theorem Ex {a:Addr} {i:Nat} {x:Value}  {vs:List Value}:uw (some x) false .nilIface a i vs k w=sf a (i+1) vs k (w.setCell (a.add i) .nilIface):=by
 simp [uw,Ea,Value.oneCell']
@[go_sem] theorem IK {a:Addr}:qa (.pointer (some a)) q=q (.pointer (some a)):=bK rfl
@[go_sem] theorem GW {t:TypeId} {v:Value}:qa (.iface t v) q=q (.iface t v):=bK rfl
@[go_sem] theorem Ed {o:Nat} {a:Addr}:fY (some o) (.pointer (some a)) q=q (.pointer (some (a.add o))):=bK rfl
def IL (n:Nat) (x i:Value) (q:Value→Prop):Prop:=match x,i with
 | .slice (some a) len _,.int _ i=>(0≤i∧i < len)∧q (.pointer (some (a.add (i.toNat * n))))
 | _,_=>False
theorem GX {t:TypeId} {x i:Value} {n:Nat} (h:lI P t=some n):eW P t x i q=IL n x i q:=by
 unfold IL eW
 rw [h]
 cases x <;> try rfl
 rename_i a l c
 cases a <;> try rfl
 cases i <;> rfl
@[go_sem] theorem Jw {n:Nat} {a:Addr} {len cap:Nat} {kd:IntKind} {i:Int} (h0:0≤i) (h1:i < len):IL n (.slice (some a) len cap) (.int kd i) q=q (.pointer (some (a.add (i.toNat * n)))):=by simp [IL,h0,h1]
@[go_sem] theorem GY {a b:Value}:Cp (.bool true) a b q=q a:=bK rfl
@[go_sem] theorem Fw {a b:Value}:Cp (.bool false) a b q=q b:=bK rfl
@[go_sem] theorem Fx {vs:Array Value} {i:Nat}:iX (.tuple vs) i q=IF vs[i]? q:=bK rfl
@[go_sem] theorem JS {b:Bool}:Fg .not (.bool b) q=q (.bool !b):=bK rfl
section bin
variable {t:TypeId} {xo yo:Operand} {kd:IntKind} {a b:Int}
@[go_sem] theorem IM:cu P .add t xo yo (.int kd a) (.int kd b) q=q (.int kd (kd.wrap (a+b))):=by simp [cu,fL,kF]
@[go_sem] theorem IN:cu P .sub t xo yo (.int kd a) (.int kd b) q=q (.int kd (kd.wrap (a - b))):=by simp [cu,fL,kF]
@[go_sem] theorem IP:cu P .mul t xo yo (.int kd a) (.int kd b) q=q (.int kd (kd.wrap (a * b))):=by simp [cu,fL,kF]
@[go_sem] theorem fa (h:b≠0):cu P .quo t xo yo (.int kd a) (.int kd b) q=q (.int kd (kd.wrap (a.tdiv b))):=by simp [cu,fL,kF,cY,h]
@[go_sem] theorem Cw:cu P .and t xo yo (.int kd a) (.int kd b) q=q (.int kd (kd.wrap (BitVec.ofInt kd.bits a &&& BitVec.ofInt kd.bits b).toNat)):=by simp only [cu,fL,kF,Bool.false_eq_true,if_false,if_true]
@[go_sem] theorem Cx:cu P .xor t xo yo (.int kd a) (.int kd b) q=q (.int kd (kd.wrap (BitVec.ofInt kd.bits a ^^^ BitVec.ofInt kd.bits b).toNat)):=by simp only [cu,fL,kF,Bool.false_eq_true,if_false,if_true]
@[go_sem] theorem IQ:cu P .eql t xo yo (.int kd a) (.int kd b) q=q (.bool (a == b)):=by simp [cu,fL,kF]
@[go_sem] theorem IR:cu P .neq t xo yo (.int kd a) (.int kd b) q=q (.bool (a != b)):=by simp [cu,fL,kF]
@[go_sem] theorem IS:cu P .lss t xo yo (.int kd a) (.int kd b) q=q (.bool (decide (a < b))):=by simp [cu,fL,kF]
@[go_sem] theorem IT:cu P .leq t xo yo (.int kd a) (.int kd b) q=q (.bool (decide (a≤b))):=by simp [cu,fL,kF]
@[go_sem] theorem IU:cu P .gtr t xo yo (.int kd a) (.int kd b) q=q (.bool (decide (b < a))):=by simp [cu,fL,kF]
@[go_sem] theorem IW:cu P .geq t xo yo (.int kd a) (.int kd b) q=q (.bool (decide (b≤a))):=by simp [cu,fL,kF]
@[go_sem] theorem rW {k2:IntKind} (h:0≤b):cu P .shl t xo yo (.int kd a) (.int k2 b) q=q (.int kd (kd.wrap (a * 2 ^ (min b.toNat kd.bits)))):=by simp [cu,fL,kG,cY,h]
@[go_sem] theorem gF {k2:IntKind} (h:0≤b):cu P .shr t xo yo (.int kd a) (.int k2 b) q=q (.int kd (a.fdiv (2 ^ (min b.toNat kd.bits)))):=by simp [cu,fL,kG,cY,h]
variable {s u:ByteArray}
@[go_sem] theorem IY {op:BinOp}:cu P op t xo yo (.string s) (.string u) q=jq op s u q:=bK rfl
@[go_sem] theorem Cy:jq .eql s u q=q (.bool (s.toList == u.toList)):=bK rfl
@[go_sem] theorem Cz:jq .neq s u q=q (.bool (!(s.toList == u.toList))):=bK rfl
@[go_sem] theorem C0:jq .lss s u q=q (.bool (Op.bytesLess s.toList u.toList)):=bK rfl
@[go_sem] theorem C1:jq .leq s u q=q (.bool (Op.bytesLess s.toList u.toList || s.toList == u.toList)):=bK rfl
@[go_sem] theorem C2:jq .gtr s u q=q (.bool (!(Op.bytesLess s.toList u.toList || s.toList == u.toList))):=bK rfl
@[go_sem] theorem C3:jq .geq s u q=q (.bool (!(Op.bytesLess s.toList u.toList))):=bK rfl
def eJ (P:Program) (t:TypeId):Nat :=
 match P.underlying t with
 | some (.interface _)=>1
 | some .bool=>2
 | some (.pointer _)=>3
 | some (.slice _)=>4
 | some .string=>5
 | _=>0
theorem m7 (h:eJ P t=1):lJ P t=true:=by unfold eJ at h; unfold lJ; split at h <;> simp_all
theorem BB (h:eJ P t=2):P.underlying t=some .bool:=by unfold eJ at h; split at h <;> simp_all
theorem wx (h:eJ P t=3):∃ el,P.underlying t=some (.pointer el):=by unfold eJ at h; split at h <;> simp_all
theorem kK (h:eJ P t=4):∃ el,P.underlying t=some (.slice el):=by unfold eJ at h; split at h <;> simp_all
theorem qi {c:Value} (h:eJ P t=1):cu P .eql t xo (.const c) .nilIface .nilIface q=q (.bool true):=by simp [cu,wO,cY,m7 h,lK]
theorem qj {c:Value} (h:eJ P t=1):cu P .neq t xo (.const c) .nilIface .nilIface q=q (.bool false):=by simp [cu,wO,cY,m7 h,lK]
theorem n9 {u:TypeId} {v:Value} (h:eJ P t=1):cu P .eql t xo yo (.iface u v) .nilIface q=q (.bool false):=by simp [cu,wO,cY,m7 h]
theorem uy {x y:Bool} (h:eJ P t=2):cu P .eql t xo yo (.bool x) (.bool y) q=q (.bool (x == y)):=by simp [cu,wO,cY,BB h]
theorem qm {x:Option Addr} (h:eJ P t=3):cu P .eql t xo yo (.pointer x) (.pointer none) q=q (.bool x.isNone):=by
 obtain ⟨el,he⟩:=wx h
 cases x <;> simp [cu,wO,cY,he]
theorem lA {x:Option Addr} (h:eJ P t=3):cu P .neq t xo yo (.pointer x) (.pointer none) q=q (.bool x.isSome):=by
 obtain ⟨el,he⟩:=wx h
 cases x <;> simp [cu,wO,cY,he]
theorem oA {x:Option Addr} {l c l' c':Nat} (h:eJ P t=4):cu P .eql t xo yo (.slice x l c) (.slice none l' c') q=q (.bool x.isNone):=by
 obtain ⟨el,he⟩:=kK h
 cases x <;> simp [cu,wO,cY,he]
theorem oC {x:Option Addr} {l c l' c':Nat} (h:eJ P t=4):cu P .neq t xo yo (.slice x l c) (.slice none l' c') q=q (.bool x.isSome):=by
 obtain ⟨el,he⟩:=kK h
 cases x <;> simp [cu,wO,cY,he]
end bin
theorem C4 {f:FuncId} {args a b:Array Value} (h:iP P f=true):ku P (.func (.func f) a b) args k w=aY P f (a++args++b) k w:=by simp [ku,h]
theorem BD {f:FuncId} {args a b:Array Value} {s:Array Value→Sem Value} (h:mC P f=some s):ku P (.func (.func f) a b) args k w=eD P (s (a++args++b)) k w:=by
 have he:iP P f=false:=by
  unfold mC at h; unfold iP
  split at h
  ·split at h
   ·simp at h
   ·rename_i hc; simp_all
  ·simp at h
 simp [ku,he,h]
theorem yp {t:TypeId} {v:Value} {m:String} {args:Array Value} {f:FuncId} (h:wV P t m=some f) (he:iP P f=true):bt P (.iface t v) m args k w=aY P f (#[v]++args) k w:=by simp [bt,cY,h,he]
theorem yq {t:TypeId} {a:Option Addr} {n c:Nat} (h:eJ P t=4):ni P (some t) (some (.slice a n c)) q=q (.int .i64 n):=by
 obtain ⟨el,he⟩:=kK h
 simp [ni,he]
theorem wy {t:TypeId} {s:ByteArray} (h:eJ P t=5):ni P (some t) (some (.string s)) q=q (.int .i64 s.size):=by
 have he:P.underlying t=some .string:=by unfold eJ at h; split at h <;> simp_all
 simp [ni,he]
theorem yr {t:TypeId} {a:Option Addr} {n c:Nat} (h:eJ P t=4):rJ P (some t) (some (.slice a n c)) q=q (.int .i64 c):=by
 obtain ⟨el,he⟩:=kK h
 simp [rJ,he]
theorem tq {t:TypeId} {a:Option Addr} {len cap n:Nat} {lo hi mx:Option Value} (h:lI P t=some n) (o1:Cv lo=true) (o2:Cv hi=true) (o3:Cv mx=true)
    (c1:0≤bd lo 0) (c2:bd lo 0≤bd hi len) (c3:bd hi len≤bd mx cap) (c4:bd mx cap≤cap) (c5:mx.isSome=true→hi.isSome=true) :
    dR P t (.slice a len cap) lo hi mx q=q (.slice (if bd mx cap=bd lo 0 then a else a.map (·.add ((bd lo 0).toNat * n))) ((bd hi len).toNat - (bd lo 0).toNat) ((bd mx cap).toNat - (bd lo 0).toNat)):=by
 obtain ⟨el,he,hs⟩:=z8 h
 simp only [dR,he,hs,jr o1,jr o2,jr o3,cY]
 simp [c1,c2,c3,c4]
 exact fun _=>c5
theorem qG {t:TypeId} {a:Option Addr} {len cap n:Nat} {hi mx:Option Value} (h:lI P t=some n) (o2:Cv hi=true) (o3:Cv mx=true)
    (c2:0≤bd hi len) (c3:bd hi len≤bd mx cap) (c4:bd mx cap≤cap) (c5:mx.isSome=true→hi.isSome=true) :
    dR P t (.slice a len cap) none hi mx q=q (.slice a (bd hi len).toNat (bd mx cap).toNat):=by
 rw [tq h rfl o2 o3 (by simp [bd]) (by simpa [bd] using c2) c3 c4 c5]
 simp only [nz]
 cases a <;> simp [Addr.add]
theorem fb {t:TypeId} {a:Option Addr} {len cap n:Nat} {kd:IntKind} {l:Int} {hi mx:Option Value} (h:lI P t=some n) (o2:Cv hi=true) (o3:Cv mx=true)
    (c1:0≤l) (c2:l≤bd hi len) (c3:bd hi len≤bd mx cap) (c4:bd mx cap≤cap) (c5:mx.isSome=true→hi.isSome=true) :
    dR P t (.slice a len cap) (some (.int kd l)) hi mx q=q (.slice (if bd mx cap=l then a else a.map (·.add (l.toNat * n))) ((bd hi len).toNat - l.toNat) ((bd mx cap).toNat - l.toNat)) :=
 tq h rfl o2 o3 c1 c2 c3 c4 c5
def Ey (P:Program) (t:TypeId):Option (Nat × Nat) :=
 match P.underlying t with
 | some (.array len el)=>(wU P el).map fun n=>(len,n)
 | _=>none
theorem rX {t:TypeId} {a:Addr} {len n:Nat} {hi mx:Option Value} (h:Ey P t=some (len,n)) (o2:Cv hi=true) (o3:Cv mx=true)
    (c2:0≤bd hi len) (c3:bd hi len≤bd mx len) (c4:bd mx len≤len) (c5:mx.isSome=true→hi.isSome=true) :
    dR P t (.pointer (some a)) none hi mx q=q (.slice (some a) (bd hi len).toNat (bd mx len).toNat):=by
 unfold Ey at h
 split at h
 ·rename_i len' el hu
  obtain ⟨n',hn,h2⟩:=Option.map_eq_some_iff.1 h
  simp only [Prod.mk.injEq] at h2
  obtain ⟨rfl,rfl⟩:=h2
  simp only [dR,hu,hn,wu,jr o2,jr o3,cY]
  have e:(if bd mx ↑len'=0 then a else a.add ((0:Int).toNat * n'))=a:=by split <;> simp [Addr.add]
  rw [e]
  simp [c2,c3,c4]
  exact fun _=>c5
 ·simp at h
end vals
end Go.E
end
section
namespace Go.Proofs
open Go Go.E
theorem Tryz.ar125:Ey Tryz.prog 125=some (10,4):=by kernel_rfl
theorem Tryz.ar129:Ey Tryz.prog 129=some (10,2):=by kernel_rfl
theorem Tryz.es44:lI Tryz.prog 44=some 3:=by kernel_rfl
theorem Tryz.es66:lI Tryz.prog 66=some 1:=by kernel_rfl
theorem Tryz.es107:lI Tryz.prog 107=some 1:=by kernel_rfl
theorem Tryz.es110:lI Tryz.prog 110=some 3:=by kernel_rfl
theorem Tryz.es159:lI Tryz.prog 159=some 3:=by kernel_rfl
theorem Tryz.es161:lI Tryz.prog 161=some 2:=by kernel_rfl
theorem Tryz.es166:lI Tryz.prog 166=some 1:=by kernel_rfl
theorem Tryz.kd4:eJ Tryz.prog 4=2:=by kernel_rfl
theorem Tryz.kd9:eJ Tryz.prog 9=5:=by kernel_rfl
theorem Tryz.kd116:eJ Tryz.prog 116=1:=by kernel_rfl
theorem Tryz.kd118:eJ Tryz.prog 118=1:=by kernel_rfl
theorem Tryz.kd120:eJ Tryz.prog 120=3:=by kernel_rfl
theorem Tryz.kd137:eJ Tryz.prog 137=3:=by kernel_rfl
theorem Tryz.ex131:mC Tryz.prog 131=some Extern.BytealgCompare.compare:=by kernel_rfl
theorem Tryz.mi9 (x:Value) (q:Value→Prop):dE Tryz.prog 9 x q=q (.iface 9 x):=by kernel_rfl
theorem Tryz.mi221 (x:Value) (q:Value→Prop):dE Tryz.prog 221 x q=q (.iface 221 x):=by kernel_rfl
theorem Tryz.mi224 (x:Value) (q:Value→Prop):dE Tryz.prog 224 x q=q (.iface 224 x):=by kernel_rfl
theorem Tryz.mi226 (x:Value) (q:Value→Prop):dE Tryz.prog 226 x q=q (.iface 226 x):=by kernel_rfl
theorem Tryz.mi228 (x:Value) (q:Value→Prop):dE Tryz.prog 228 x q=q (.iface 228 x):=by kernel_rfl
theorem Tryz.mi229 (x:Value) (q:Value→Prop):dE Tryz.prog 229 x q=q (.iface 229 x):=by kernel_rfl
theorem Tryz.mi233 (x:Value) (q:Value→Prop):dE Tryz.prog 233 x q=q (.iface 233 x):=by kernel_rfl
theorem Tryz.mi249 (x:Value) (q:Value→Prop):dE Tryz.prog 249 x q=q (.iface 249 x):=by kernel_rfl
theorem Tryz.mi252 (x:Value) (q:Value→Prop):dE Tryz.prog 252 x q=q (.iface 252 x):=by kernel_rfl
theorem Tryz.mi262 (x:Value) (q:Value→Prop):dE Tryz.prog 262 x q=q (.iface 262 x):=by kernel_rfl
theorem Tryz.mi263 (x:Value) (q:Value→Prop):dE Tryz.prog 263 x q=q (.iface 263 x):=by kernel_rfl
theorem Tryz.mi274 (x:Value) (q:Value→Prop):dE Tryz.prog 274 x q=q (.iface 274 x):=by kernel_rfl
theorem Tryz.mi327 (x:Value) (q:Value→Prop):dE Tryz.prog 327 x q=q (.iface 327 x):=by kernel_rfl
@[go_sem] theorem Tryz.qa4 {xo yo:Operand} {x y:Bool} {q:Value→Prop}:cu Tryz.prog .eql 4 xo yo (.bool x) (.bool y) q=q (.bool (x == y)):=uy Tryz.kd4
@[go_sem] theorem Tryz.le9 {s:ByteArray} {q:Value→Prop}:ni Tryz.prog (some 9) (some (.string s)) q=q (.int .i64 s.size):=wy Tryz.kd9
@[go_sem] theorem Tryz.qa116 {xo:Operand} {c:Value} {q:Value→Prop}:cu Tryz.prog .eql 116 xo (.const c) .nilIface .nilIface q=q (.bool true):=qi Tryz.kd116
@[go_sem] theorem Tryz.qb116 {xo:Operand} {c:Value} {q:Value→Prop}:cu Tryz.prog .neq 116 xo (.const c) .nilIface .nilIface q=q (.bool false):=qj Tryz.kd116
@[go_sem] theorem Tryz.qc118 {xo yo:Operand} {u:TypeId} {v:Value} {q:Value→Prop}:cu Tryz.prog .eql 118 xo yo (.iface u v) .nilIface q=q (.bool false):=n9 Tryz.kd118
@[go_sem] theorem Tryz.qa120 {xo yo:Operand} {x:Option Addr} {q:Value→Prop}:cu Tryz.prog .eql 120 xo yo (.pointer x) (.pointer none) q=q (.bool x.isNone):=qm Tryz.kd120
@[go_sem] theorem Tryz.qb120 {xo yo:Operand} {x:Option Addr} {q:Value→Prop}:cu Tryz.prog .neq 120 xo yo (.pointer x) (.pointer none) q=q (.bool x.isSome):=lA Tryz.kd120
@[go_sem] theorem Tryz.qb137 {xo yo:Operand} {x:Option Addr} {q:Value→Prop}:cu Tryz.prog .neq 137 xo yo (.pointer x) (.pointer none) q=q (.bool x.isSome):=lA Tryz.kd137
@[go_sem] theorem Tryz.cl131 {args a b:Array Value} {k:ao} {w:World}:ku Tryz.prog (.func (.func 131) a b) args k w=eD Tryz.prog (Extern.BytealgCompare.compare (a++args++b)) k w:=BD Tryz.ex131
attribute [go_sem] Tryz.mi9 Tryz.mi221 Tryz.mi224 Tryz.mi226 Tryz.mi228 Tryz.mi229 Tryz.mi233 Tryz.mi249 Tryz.mi252 Tryz.mi262 Tryz.mi263 Tryz.mi274 Tryz.mi327
theorem Tryz.mix:Tryz.prog.follows .mixedOrders=true:=by kernel_rfl
abbrev CL (f:FuncId):Prop:=∀ {x a b:Array Value} {k:ao} {w:World},ku Tryz.prog (.func (.func f) a b) x k w=aY Tryz.prog f (a++x++b) k w
theorem Ky {f:FuncId} (h:iP Tryz.prog f=true:=by kernel_rfl):CL f:=C4 h
@[go_sem] theorem KI:CL 13∧CL 15∧CL 18∧CL 19∧CL 22∧CL 25∧CL 28∧CL 31∧CL 33∧CL 34∧CL 35∧CL 36∧CL 38∧CL 44∧CL 45∧CL 46∧CL 47∧CL 48∧CL 49∧CL 50∧CL 53∧CL 55∧CL 57∧CL 58∧CL 59∧CL 62∧CL 64∧CL 65∧CL 66∧CL 67∧CL 68∧CL 72∧CL 73∧CL 75∧CL 76∧CL 78∧CL 79∧CL 80∧CL 81∧CL 84∧CL 86∧CL 88∧CL 89∧CL 90∧CL 91∧CL 92∧CL 93∧CL 94∧CL 95∧CL 96∧CL 97∧CL 98∧CL 99∧CL 100∧CL 101∧CL 102∧CL 103∧CL 110∧CL 112∧CL 113∧CL 114∧CL 115∧CL 116∧CL 122∧CL 123∧CL 124∧CL 125∧CL 126∧CL 127∧CL 128∧CL 129∧CL 130∧CL 134∧CL 135∧CL 136∧CL 137∧CL 138∧CL 139∧CL 140∧CL 141∧CL 142∧CL 143∧CL 144∧CL 145∧CL 146∧CL 147∧CL 149∧CL 150∧CL 151∧CL 152∧CL 153∧CL 154∧CL 155∧CL 156∧CL 157∧CL 158∧CL 159∧CL 160∧CL 161∧CL 162∧CL 163∧CL 164∧CL 165∧CL 166∧CL 167∧CL 168∧CL 186∧CL 187∧CL 188∧CL 200∧CL 201∧CL 202∧CL 203∧CL 204∧CL 205∧CL 206∧CL 207∧CL 208∧CL 209∧CL 210∧CL 211∧CL 212∧CL 213∧CL 214∧CL 215∧CL 216∧CL 218∧CL 219∧CL 220∧CL 221∧CL 224∧CL 225∧CL 226∧CL 227∧CL 236∧CL 237∧CL 238∧CL 239∧CL 249∧CL 250∧CL 251∧CL 252∧CL 253∧CL 254∧CL 255∧CL 256:=by and_intros <;> exact Ky
abbrev LD (t:TypeId):Prop:=∀ {x:Value} {k:ao} {w:World},gE Tryz.prog t x k w=JN x k w
theorem Kz {t:TypeId} (h:il Tryz.prog t=true:=by kernel_rfl):LD t:=GP h
@[go_sem] theorem KJ:LD 3∧LD 4∧LD 5∧LD 9∧LD 23∧LD 28∧LD 44∧LD 54∧LD 66∧LD 74∧LD 91∧LD 105∧LD 106∧LD 107∧LD 109∧LD 110∧LD 111∧LD 112∧LD 116∧LD 118∧LD 119∧LD 120∧LD 126∧LD 134∧LD 136∧LD 137∧LD 139∧LD 142∧LD 143∧LD 144∧LD 145∧LD 147∧LD 149∧LD 152∧LD 159∧LD 160∧LD 161∧LD 166∧LD 195∧LD 292:=by and_intros <;> exact Kz
abbrev LM (t:TypeId) (n:Nat):Prop:=∀ {x:Value} {k:ao} {w:World},gE Tryz.prog t x k w=JO n x k w
theorem K6 {t:TypeId} {n:Nat} (h:wU Tryz.prog t=some n:=by kernel_rfl) (h2:yW Tryz.prog t=true:=by kernel_rfl):LM t n:=GQ h h2
@[go_sem] theorem KK:LM 37 2∧LM 46 3∧LM 53 2∧LM 56 3∧LM 58 5∧LM 62 3∧LM 88 3∧LM 114 4∧LM 122 3∧LM 128 2∧LM 256 3:=by and_intros <;> exact K6
abbrev SZ (t:TypeId) (n:Nat):Prop:=∀ {x v:Value} {k:ao} {w:World},jF Tryz.prog t x v k w=ux n x v k w
theorem K7 {t:TypeId} {n:Nat} (h:wU Tryz.prog t=some n:=by kernel_rfl):SZ t n:=GR h
@[go_sem] theorem KL:SZ 3 1∧SZ 4 1∧SZ 5 1∧SZ 9 1∧SZ 23 1∧SZ 44 1∧SZ 46 3∧SZ 53 2∧SZ 56 3∧SZ 58 5∧SZ 62 3∧SZ 66 1∧SZ 88 3∧SZ 105 1∧SZ 107 1∧SZ 110 1∧SZ 111 1∧SZ 112 1∧SZ 114 4∧SZ 116 1∧SZ 120 1∧SZ 122 3∧SZ 124 4∧SZ 128 2∧SZ 132 70∧SZ 134 1∧SZ 139 1∧SZ 141 9∧SZ 145 1∧SZ 151 12∧SZ 152 1∧SZ 159 1∧SZ 160 1∧SZ 161 1∧SZ 166 1∧SZ 170 2∧SZ 256 3∧SZ 261 3∧SZ 292 1:=by and_intros <;> exact K7
abbrev OF (t:TypeId) (i o:Nat):Prop:=Ao Tryz.prog t i=some o
theorem K8 {t:TypeId} {i o:Nat} (h:Ao Tryz.prog t i=some o:=by kernel_rfl):OF t i o:=h
@[go_sem] theorem KM:OF 37 0 0∧OF 37 1 1∧OF 46 0 0∧OF 46 1 1∧OF 46 2 2∧OF 53 0 0∧OF 53 1 1∧OF 56 0 0∧OF 56 1 1∧OF 56 2 2∧OF 58 1 1∧OF 58 2 2∧OF 62 0 0∧OF 62 1 1∧OF 62 2 2∧OF 88 0 0∧OF 88 1 1∧OF 88 2 2∧OF 114 0 0∧OF 114 1 1∧OF 114 2 2∧OF 114 3 3∧OF 122 0 0∧OF 122 1 1∧OF 122 2 2∧OF 124 0 0∧OF 124 1 1∧OF 128 0 0∧OF 128 1 1∧OF 130 0 0∧OF 130 1 40∧OF 132 0 0∧OF 132 1 1∧OF 132 2 2∧OF 132 3 3∧OF 132 4 4∧OF 132 5 8∧OF 132 6 9∧OF 132 7 10∧OF 141 0 0∧OF 141 1 1∧OF 141 2 2∧OF 141 4 4∧OF 141 5 5∧OF 141 6 6∧OF 141 8 8∧OF 151 0 0∧OF 151 1 1∧OF 151 2 2∧OF 151 3 3∧OF 151 4 4∧OF 151 5 5∧OF 151 6 6∧OF 151 7 10∧OF 151 8 11∧OF 154 0 0∧OF 154 1 1∧OF 154 2 2∧OF 154 3 72∧OF 154 4 81∧OF 154 5 93∧OF 154 6 94∧OF 163 0 0∧OF 163 1 1∧OF 163 2 2∧OF 165 0 0∧OF 165 1 1∧OF 165 2 2∧OF 165 3 5∧OF 168 0 0∧OF 168 1 1∧OF 168 2 2∧OF 170 0 0∧OF 170 1 1∧OF 172 0 0∧OF 172 1 6∧OF 172 2 9∧OF 208 0 0∧OF 208 1 1∧OF 208 5 5∧OF 256 0 0∧OF 256 1 1∧OF 256 2 2∧OF 261 0 0∧OF 261 1 1∧OF 261 2 2:=by and_intros <;> exact K8
abbrev QA (t:TypeId):Prop:=∀ {xo yo:Operand} {x:Option Addr} {l c l2 c2:Nat} {q:Value→Prop},cu Tryz.prog .eql t xo yo (.slice x l c) (.slice none l2 c2) q=q (.bool x.isNone)
theorem K9 {t:TypeId} (h:eJ Tryz.prog t=4:=by kernel_rfl):QA t:=oA h
@[go_sem] theorem KN:QA 107:=K9
abbrev QB (t:TypeId):Prop:=∀ {xo yo:Operand} {x:Option Addr} {l c l2 c2:Nat} {q:Value→Prop},cu Tryz.prog .neq t xo yo (.slice x l c) (.slice none l2 c2) q=q (.bool x.isSome)
theorem LA {t:TypeId} (h:eJ Tryz.prog t=4:=by kernel_rfl):QB t:=oC h
@[go_sem] theorem KO:QB 107:=LA
abbrev LN (t:TypeId):Prop:=∀ {a:Option Addr} {n c:Nat} {q:Value→Prop},ni Tryz.prog (some t) (some (.slice a n c)) q=q (.int .i64 n)
theorem LC {t:TypeId} (h:eJ Tryz.prog t=4:=by kernel_rfl):LN t:=yq h
@[go_sem] theorem KP:LN 22∧LN 28∧LN 33∧LN 35∧LN 38∧LN 44∧LN 54∧LN 66∧LN 74∧LN 91∧LN 107∧LN 110∧LN 159∧LN 160∧LN 161∧LN 166∧LN 173∧LN 195:=by and_intros <;> exact LC
abbrev CP (t:TypeId):Prop:=∀ {a:Option Addr} {n c:Nat} {q:Value→Prop},rJ Tryz.prog (some t) (some (.slice a n c)) q=q (.int .i64 c)
theorem LF {t:TypeId} (h:eJ Tryz.prog t=4:=by kernel_rfl):CP t:=yr h
@[go_sem] theorem KQ:CP 110∧CP 166:=by and_intros <;> exact LF
abbrev IX (t:TypeId) (n:Nat):Prop:=∀ {x i:Value} {q:Value→Prop},eW Tryz.prog t x i q=IL n x i q
theorem LG {t:TypeId} {n:Nat} (h:lI Tryz.prog t=some n:=by kernel_rfl):IX t n:=GX h
@[go_sem] theorem KT:IX 22 1∧IX 28 3∧IX 33 5∧IX 35 1∧IX 38 2∧IX 44 3∧IX 54 3∧IX 66 1∧IX 74 3∧IX 91 1∧IX 110 3∧IX 159 3∧IX 160 4∧IX 161 2∧IX 173 1∧IX 195 4:=by and_intros <;> exact LG
end Go.Proofs
end
