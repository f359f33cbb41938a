/- Parts of the proof: S, F. -/
import Derived.WalkKit
import Derived.Test.YtjcbeinpkafjiaaGreatChecked
import Derived.Test.YtjcbeinpkafjiaaGreatV01
set_option linter.all false
set_option maxRecDepth 10000
section
attribute [go_sem_proc ↓] reduceIte
attribute [go_sem_proc] Nat.reduceEqDiff Nat.reduceAdd
namespace Go.E
open Go
theorem bG {α:Sort _} {a b:α} (h:a=b):a=b:=h
inductive SI where
 | code (c:Code)
 | block (id:Nat)
 | inv (K:du→World→Prop)
def ld (N:Nat) (P:Program) (rs:List ResultVar) (k:au):List SI→Exit→du→World→Prop
 | []=>Gq P rs k
 | .code c :: st=>tG (fun e w=>WP N P c (ld N P rs k st) e w) (ld N P rs k st)
 | .block id :: st=>mw id (ld N P rs k st)
 | .inv K :: st=>tG K (ld N P rs k st)
structure Cfg where
 N:Nat
 ops:Array Oper
 st:List SI
 rs:List ResultVar
 k:au
def iH (N:Nat) (P:Program) (c:Code) (st:List SI) (rs:List ResultVar) (k:au) (e:du) (w:World):Prop:=WP N P c (ld N P rs k st) e w
def gw (N:Nat) (P:Program) (ex:Exit) (st:List SI) (rs:List ResultVar) (k:au) (e:du) (w:World):Prop:=ld N P rs k st ex e w
def El (P:Program) (C:Cfg) (l:List Oper) (e:du) (w:World):Prop:=ts P C.ops l e (fun e w=>ld C.N P C.rs C.k C.st .normal e w) w
def kw (P:Program) (d:Option Tmp) (C:Cfg) (l:List Oper) (e:du):au:=fun v w=>El P C l (put e d v) w
def xS (k:au) (w:World):Value→Prop:=fun v=>k v w
def qz (N:Nat) (P:Program) (x:Value) (a b:Code) (st:List SI) (rs:List ResultVar) (k:au) (e:du) (w:World):Prop:=zF x (iH N P a st rs k e w) (iH N P b st rs k e w)
def B8 (c:Bool) (P:Program) (o:Oper) (C:Cfg) (l:List Oper) (e:du) (w:World):Prop:=if c then iu P o e (kw P o.dst C l e) w else El P C l (put e o.dst undef) w
section code
variable {N:Nat} {P:Program} {st:List SI} {rs:List ResultVar} {k:au} {e:du} {w:World}
@[go_sem ↓] theorem GI:iH N P .skip st rs k e w=gw N P .normal st rs k e w:=bG rfl
@[go_sem ↓] theorem Em {id:Nat} {l:List Oper}:iH N P (.region id l.toArray false) st rs k e w=El P ⟨N,l.toArray,st,rs,k⟩ l e w:=bG rfl
@[go_sem ↓] theorem lg {a b:Code}:iH N P (.seq a b) st rs k e w=iH N P a (.code b :: st) rs k e w:=bG rfl
@[go_sem ↓] theorem GJ {c:Operand} {a b:Code}:iH N P (.cond c a b) st rs k e w=qz N P (ev e c) a b st rs k e w:=bG rfl
@[go_sem ↓] theorem iO {id:Nat} {a:Code}:iH N P (.block id a) st rs k e w=iH N P a (.block id :: st) rs k e w:=bG rfl
@[go_sem ↓] theorem GK {id:Nat}:iH N P (.exit id) st rs k e w=gw N P (.exit id) st rs k e w:=bG rfl
@[go_sem ↓] theorem Gu:iH N P .ret st rs k e w=sK P rs e k w:=by
 show ld N P rs k st .ret e w=_
 induction st with
 | nil=>rfl
 | cons x st ih=>cases x <;> exact ih
@[go_sem ↓] theorem GM:gw N P .normal [] rs k e w=sK P rs e k w:=bG rfl
@[go_sem ↓] theorem E8 {c:Code}:gw N P .normal (.code c :: st) rs k e w=iH N P c st rs k e w:=bG rfl
@[go_sem ↓] theorem En {id:Nat}:gw N P .normal (.block id :: st) rs k e w=gw N P .normal st rs k e w:=bG rfl
@[go_sem ↓] theorem GN {K:du→World→Prop}:gw N P .normal (.inv K :: st) rs k e w=K e w:=bG rfl
@[go_sem ↓] theorem Bb {c:Code} {i:Nat}:gw N P (.exit i) (.code c :: st) rs k e w=gw N P (.exit i) st rs k e w:=bG rfl
@[go_sem ↓] theorem B9 {K:du→World→Prop} {i:Nat}:gw N P (.exit i) (.inv K :: st) rs k e w=gw N P (.exit i) st rs k e w:=bG rfl
@[go_sem ↓] theorem Bc {i:Nat}:gw N P (.exit i) (.block i :: st) rs k e w=gw N P .normal st rs k e w:=by simp [gw,ld,mw]
@[go_sem ↓] theorem Be {i j:Nat} (h:i≠j):gw N P (.exit i) (.block j :: st) rs k e w=gw N P (.exit i) st rs k e w:=by simp [gw,ld,mw,h]
@[go_sem] theorem kX {a b:Code}:qz N P (.bool true) a b st rs k e w=iH N P a st rs k e w:=bG rfl
@[go_sem] theorem jZ {a b:Code}:qz N P (.bool false) a b st rs k e w=iH N P b st rs k e w:=bG rfl
@[go_sem ↓] theorem Gv:sK P [] e k w=k (.tuple #[]) w:=bG rfl
@[go_sem ↓] theorem Gw {t:Nat}:sK P [.tmp t] e k w=k (e t) w:=bG rfl
@[go_sem ↓] theorem GO {a:Nat} {t:TypeId}:sK P [.cell a t] e k w=gN P t (e a) k w:=bG rfl
@[go_sem ↓] theorem GP {t u:Nat}:sK P [.tmp t,.tmp u] e k w=k (.tuple #[e t,e u]) w:=bG rfl
theorem rA {f:FuncId} {fn:Func} {c:Code} {args:Array Value} (hf:P.funcs[f]? = some fn) (hb:fn.body=some c) (hN:fn.ntmps=N) (hrs:fn.results.toList=rs) (hok:dy N c=true) (hn:Nat.ble args.size N=true)
    (h:iH N P c [] rs k (AI args) w):aY P f args k w:=by
 subst hN
 subst hrs
 exact vR hf hb hok (by simpa using hn) h
theorem bR {c:Code} {β:Type} (sl:β→List (Nat × Value)) (I:β→World→Prop) (μ:β→World→Nat) (b₀:β) (hok:dy N c=true) (ha:iJ e (sl b₀)) (h₀:I b₀ w)
    (round:∀ (K:du→World→Prop) (e:du) b w,I b w→(∀ (e':du) w' b',iJ e' (sl b')→I b' w'→μ b' w' < μ b w→K e' w')→iH N P c (.inv K :: st) rs k (qQ e (sl b)) w):iH N P (.loop c) st rs k e w :=
 Gs sl I μ b₀ hok ha h₀ fun e b w hI=>round _ e b w hI fun _ _ b' h1 h2 h3=>⟨b',h1,h2,h3⟩
theorem sL {x y:Code} {β:Type} (sl:β→List (Nat × Value)) (J:β→World→Prop) (hok:dy N x=true)
    (hx:∀ K:du→World→Prop,(∀ (e:du) w b,iJ e (sl b)→J b w→K e w)→iH N P x (.inv K :: st) rs k e w)
    (hy:∀ (e:du) b w,J b w→iH N P y st rs k (qQ e (sl b)) w):iH N P (.seq x y) st rs k e w :=
 IQ sl J (hx _ fun _ _ b h1 h2=>⟨b,h1,h2⟩) hy hok
def sN (P:Program) (C:Cfg) (t:DT) (L:List (Nat × (World→Prop))) (e:du) (w:World):Prop:=vB P C.ops t L e (fun e w=>ld C.N P C.rs C.k C.st .normal e w) w
theorem Gx {id:Nat} {ops:Array Oper} (t:DT) (hm:P.follows .mixedOrders=true) (hops:ops.toList.all (jY N)=true)
    (hns:Region.noSelect ops=true) (hc:iw P ops true t ops.size (Array.replicate ops.size false) []=true)
    (h:sN P ⟨N,ops,st,rs,k⟩ t [] e w.drew):iH N P (.region id ops true) st rs k e w:=Gt t hm hops hns hc h
end code
section ops
variable {P:Program} {C:Cfg} {rest:List Oper} {e:du} {w:World} {d:Option Tmp} {ty:TypeId} {pos:String} {af:Array Edge}
@[go_sem ↓] theorem Hz {N:Nat} {ops:Array Oper} {st:List SI} {rs:List ResultVar} {k:au}:El P ⟨N,ops,st,rs,k⟩ [] e w=gw N P .normal st rs k e w:=bG rfl
@[go_sem ↓] theorem Gy {op:Op}:El P C ({ dst:=d,op,type:=ty,pos,after:=af,guard:=none } :: rest) e w =
    iu P { dst:=d,op,type:=ty,pos,after:=af,guard:=none } e (kw P d C rest e) w:=bG rfl
def lh (l:List Oper) (j:Nat):Option Nat:=(l[j]?).bind (·.dst)
@[go_sem] theorem Eo {o:Oper} {l:List Oper}:lh (o :: l) 0=o.dst:=bG rfl
@[go_sem] theorem Ep {o:Oper} {l:List Oper} {j:Nat}:lh (o :: l) (j+1)=lh l j:=bG rfl
def Gz (x:Value) (b:Bool):Bool:=match x with
 | .bool t=>t == b
 | _=>false
@[go_sem] theorem G0 (t b:Bool):Gz (.bool t) b=(t == b):=bG rfl
@[go_sem] theorem GQ (b:Bool):Gz undef b=false:=bG rfl
def tJ (o:Option Nat) (e:du) (b:Bool):Bool:=match o with
 | some d=>Gz (e d) b
 | none=>false
@[go_sem] theorem E9 (d:Nat) (e:du) (b:Bool):tJ (some d) e b=Gz (e d) b:=bG rfl
@[go_sem ↓] theorem tK {l:List Oper} {j:Nat} {b:Bool}:xZ l.toArray e (some (j,b))=tJ (lh l j) e b:=by
 cases h:(l[j]?).bind (·.dst) with
 | none=>simp [xZ,tJ,lh,h]
 | some d =>
  simp only [xZ,tJ,lh,Gz,List.getElem?_toArray,h]
  cases e d <;> rfl
@[go_sem ↓] theorem GR {op:Op} {j:Nat} {b:Bool} {N:Nat} {l:List Oper} {st:List SI} {rs:List ResultVar} {k:au} :
    El P ⟨N,l.toArray,st,rs,k⟩ ({ dst:=d,op,type:=ty,pos,after:=af,guard:=some (j,b) } :: rest) e w =
    B8 (tJ (lh l j) e b) P { dst:=d,op,type:=ty,pos,after:=af,guard:=some (j,b) } ⟨N,l.toArray,st,rs,k⟩ rest e w:=by
 rw [← tK]; exact bG rfl
@[go_sem] theorem FA {o:Oper} {l:List Oper}:B8 true P o C l e w=iu P o e (kw P o.dst C l e) w:=bG rfl
@[go_sem] theorem Er {o:Oper} {l:List Oper}:B8 false P o C l e w=El P C l (put e o.dst undef) w:=bG rfl
@[go_sem ↓] theorem Iw {l:List Oper} {v:Value}:kw P d C l e v w=El P C l (put e d v) w:=bG rfl
@[go_sem ↓] theorem IR {k:au} {v:Value}:xS k w v=k v w:=bG rfl
def IS (P:Program) (C:Cfg) (t:DT) (L:List (Nat × (World→Prop))) (d:Option Tmp) (e:du):au:=fun v w=>sN P C t L (put e d v) w
def IT (P:Program) (C:Cfg) (i:Nat) (o:Oper) (t:DT) (L:List (Nat × (World→Prop))) (e:du):au:=fun v w=>sN P C t ((i,fun w2=>jF P C.ops o e (fun v2 _=>v2=v) w2) :: L) (put e o.dst v) w
def IU (P:Program) (C:Cfg) (ks:List Nat) (t:DT) (L:List (Nat × (World→Prop))) (d:Option Tmp) (e:du):au:=fun v w=>ni ks L w∧sN P C t L (put e d v) w
def zG (o:Option Oper) (P:Program) (C:Cfg) (t:DT) (L:List (Nat × (World→Prop))) (e:du) (w:World):Prop:=match o with
 | some o=>jF P C.ops o e (IS P C t L o.dst e) w
 | none=>False
def CA (o:Option Oper) (P:Program) (C:Cfg) (i:Nat) (t:DT) (L:List (Nat × (World→Prop))) (e:du) (w:World):Prop:=match o with
 | some o=>jF P C.ops o e (IT P C i o t L e) w
 | none=>False
def FB (o:Option Oper) (P:Program) (C:Cfg) (ks:List Nat) (t:DT) (L:List (Nat × (World→Prop))) (e:du) (w:World):Prop:=match o with
 | some o=>jF P C.ops o e (IU P C ks t L o.dst e) w
 | none=>False
section trees
variable {L:List (Nat × (World→Prop))} {t:DT} {N:Nat} {l:List Oper} {st:List SI} {rs:List ResultVar} {k:au} {i:Nat} {is ks:List Nat} {v:Value} {op:Op} {o:Oper}
@[go_sem ↓] theorem G4:sN P ⟨N,l.toArray,st,rs,k⟩ .done L e w=gw N P .normal st rs k e w:=bG rfl
@[go_sem ↓] theorem CB:sN P ⟨N,l.toArray,st,rs,k⟩ (.free i t) L e w=zG l[i]? P ⟨N,l.toArray,st,rs,k⟩ t L e w:=by
 simp only [sN,vB,List.getElem?_toArray,zG]; cases l[i]? <;> rfl
@[go_sem ↓] theorem IW:sN P ⟨N,l.toArray,st,rs,k⟩ (sq (i :: is) t) L e w=zG l[i]? P ⟨N,l.toArray,st,rs,k⟩ (sq is t) L e w:=CB
@[go_sem ↓] theorem FC:sN P C (sq [] t) L e w=sN P C t L e w:=bG rfl
@[go_sem ↓] theorem G7:sN P ⟨N,l.toArray,st,rs,k⟩ (.read i t) L e w=CA l[i]? P ⟨N,l.toArray,st,rs,k⟩ i t L e w:=by
 simp only [sN,vB,List.getElem?_toArray,CA]; cases l[i]? <;> rfl
@[go_sem ↓] theorem H0:sN P ⟨N,l.toArray,st,rs,k⟩ (.eff i ks t) L e w=FB l[i]? P ⟨N,l.toArray,st,rs,k⟩ ks t L e w:=by
 simp only [sN,vB,List.getElem?_toArray,FB]; cases l[i]? <;> rfl
@[go_sem ↓] theorem H1 {t2:DT}:sN P C (.alt t t2) L e w=(sN P C t L e w∧sN P C t2 L e w):=bG rfl
@[go_sem] theorem FD:zG (some o) P C t L e w=jF P C.ops o e (IS P C t L o.dst e) w:=bG rfl
@[go_sem] theorem FE:CA (some o) P C i t L e w=jF P C.ops o e (IT P C i o t L e) w:=bG rfl
@[go_sem] theorem GS:FB (some o) P C ks t L e w=jF P C.ops o e (IU P C ks t L o.dst e) w:=bG rfl
@[go_sem ↓] theorem GT {ops:Array Oper}:jF P ops { dst:=d,op,type:=ty,pos,after:=af,guard:=none } e k w=iu P { dst:=d,op,type:=ty,pos,after:=af,guard:=none } e k w:=bG rfl
def FF (c:Bool) (P:Program) (o:Oper) (e:du) (k:au) (w:World):Prop:=if c then iu P o e k w else k undef w
@[go_sem] theorem GU:FF true P o e k w=iu P o e k w:=bG rfl
@[go_sem] theorem FG:FF false P o e k w=k undef w:=bG rfl
@[go_sem ↓] theorem GV {b:Bool} {j:Nat}:jF P l.toArray { dst:=d,op,type:=ty,pos,after:=af,guard:=some (j,b) } e k w=FF (tJ (lh l j) e b) P { dst:=d,op,type:=ty,pos,after:=af,guard:=some (j,b) } e k w:=by
 rw [← tK]; exact bG rfl
@[go_sem ↓] theorem IY:IS P C t L d e v w=sN P C t L (put e d v) w:=bG rfl
@[go_sem ↓] theorem IZ:IT P C i o t L e v w=sN P C t ((i,fun w2=>jF P C.ops o e (fun v2 _=>v2=v) w2) :: L) (put e o.dst v) w:=bG rfl
@[go_sem ↓] theorem Ia:IU P C ks t L d e v w=(ni ks L w∧sN P C t L (put e d v) w):=bG rfl
@[go_sem ↓] theorem FH {G:World→Prop}:ni ks ((i,G) :: L) w=((if i ∈ ks then G w else True)∧ni ks L w):=by simp [ni]
@[go_sem ↓] theorem GW:ni ks [] w=True:=bG rfl
end trees
attribute [go_sem] List.getElem?_cons_zero List.getElem?_cons_succ true_and and_true
end ops
@[go_sem] theorem Ib (e:du) (t:Nat):ev e (.tmp t)=e t:=bG rfl
@[go_sem] theorem G8 (e:du) (v:Value):ev e (.const v)=v:=bG rfl
@[go_sem] theorem H2 (e:du) (f:Nat):ev e (.func f) = .func (.func f) #[] #[]:=bG rfl
@[go_sem] theorem Ic (e:du) (d:Nat) (v:Value) (i:Nat):put e (some d) v i=if i=d then v else e i:=bG rfl
@[go_sem] theorem Ie (e:du) (v:Value) (i:Nat):put e none v i=e i:=bG rfl
@[go_sem] theorem H3 (l:List Value) (i:Nat):AI l.toArray i=l.getD i undef:=by simp [AI]
@[go_sem] theorem GX (e:du) (j:Nat) (v:Value) (l:List (Nat × Value)) (i:Nat):qQ e ((j,v) :: l) i=if i=j then v else qQ e l i:=bG rfl
@[go_sem] theorem GY (e:du):iJ e []=True:=bG rfl
@[go_sem] theorem FL (e:du) (i:Nat) (v:Value) (l:List (Nat × Value)):iJ e ((i,v) :: l)=(e i=v∧iJ e l):=bG rfl
attribute [go_sem] List.getD_cons_zero List.getD_cons_succ List.getD_nil
def CC (c a b:Value) (q:Value→Prop):Prop:=qm c fun t=>q (if t then a else b)
section op
variable {P:Program} {e:du} {k:au} {w:World} {d:Option Tmp} {ty:TypeId} {pos:String} {af:Array Edge} {g:Option (Nat × Bool)}
@[go_sem ↓] theorem G9 {x:Operand}:iu P { dst:=d,op := .move x,type:=ty,pos,after:=af,guard:=g } e k w=k (ev e x) w:=bG rfl
@[go_sem ↓] theorem FM {x:Operand}:iu P { dst:=d,op := .assign x,type:=ty,pos,after:=af,guard:=g } e k w=k (ev e x) w:=bG rfl
@[go_sem ↓] theorem HA {c a b:Operand}:iu P { dst:=d,op := .pick c a b,type:=ty,pos,after:=af,guard:=g } e k w=CC (ev e c) (ev e a) (ev e b) (xS k w):=bG rfl
@[go_sem ↓] theorem HB {t:TypeId} {a:Operand}:iu P { dst:=d,op := .load t a,type:=ty,pos,after:=af,guard:=g } e k w=gN P t (ev e a) k w:=bG rfl
@[go_sem ↓] theorem GZ {t:TypeId} {a x:Operand}:iu P { dst:=d,op := .store t a x,type:=ty,pos,after:=af,guard:=g } e k w=jM P t (ev e a) (ev e x) k w:=bG rfl
@[go_sem ↓] theorem D9 {x:Operand}:iu P { dst:=d,op := .nilCheck x,type:=ty,pos,after:=af,guard:=g } e k w=qN (ev e x) (xS k w):=bG rfl
@[go_sem ↓] theorem Dq {t:TypeId} {x:Operand} {f:Nat}:iu P { dst:=d,op := .fieldAddr t x f,type:=ty,pos,after:=af,guard:=g } e k w=fi (z9 P t f) (ev e x) (xS k w):=bG rfl
@[go_sem ↓] theorem Dr {t:TypeId} {x i:Operand}:iu P { dst:=d,op := .indexAddr t x i,type:=ty,pos,after:=af,guard:=g } e k w=eg P t (ev e x) (ev e i) (xS k w):=bG rfl
@[go_sem ↓] theorem Ga {t:TypeId} {x i:Operand}:iu P { dst:=d,op := .index t x i,type:=ty,pos,after:=af,guard:=g } e k w=kT P t (ev e x) (ev e i) (xS k w):=bG rfl
@[go_sem ↓] theorem Gb {t yt:TypeId} {op:BinOp} {x y:Operand}:iu P { dst:=d,op := .binOp op t x y yt,type:=ty,pos,after:=af,guard:=g } e k w=dA P op t x y (ev e x) (ev e y) (xS k w):=bG rfl
@[go_sem ↓] theorem HC {t:TypeId} {op:UnOp} {x:Operand}:iu P { dst:=d,op := .unOp op t x,type:=ty,pos,after:=af,guard:=g } e k w=Ek op (ev e x) (xS k w):=bG rfl
@[go_sem ↓] theorem Es {x:Operand} {i:Nat}:iu P { dst:=d,op := .extract x i,type:=ty,pos,after:=af,guard:=g } e k w=ie (ev e x) i (xS k w):=bG rfl
@[go_sem ↓] theorem zH {t:TypeId} {x:Operand}:iu P { dst:=d,op := .makeInterface t x,type:=ty,pos,after:=af,guard:=g } e k w=dK P t (ev e x) (xS k w):=bG rfl
@[go_sem ↓] theorem EA {fn:Fn} {a b:Array Operand}:iu P { dst:=d,op := .makeFunc fn a b,type:=ty,pos,after:=af,guard:=g } e k w=k (.func fn (a.map (ev e)) (b.map (ev e))) w:=bG rfl
@[go_sem ↓] theorem Gc {t:TypeId}:iu P { dst:=d,op := .alloc t,type:=ty,pos,after:=af,guard:=g } e k w=dq P (Instr.alloc t true (.tuple #[])) k w:=bG rfl
@[go_sem ↓] theorem H4 {t:TypeId} {x:Operand}:iu P { dst:=d,op := .box t x,type:=ty,pos,after:=af,guard:=g } e k w=dq P (Instr.box t (ev e x)) k w:=bG rfl
@[go_sem ↓] theorem Gd {t:TypeId} {ps:Array (Nat × Operand)}:iu P { dst:=d,op := .build t ps,type:=ty,pos,after:=af,guard:=g } e k w=cg P t (ps.map fun (i,x)=>(i,ev e x)) (xS k w):=bG rfl
@[go_sem ↓] theorem Et {s t:TypeId} {x:Operand}:iu P { dst:=d,op := .convert s t x,type:=ty,pos,after:=af,guard:=g } e k w=fG P s t (ev e x) k w:=bG rfl
@[go_sem ↓] theorem Ge {t:TypeId} {x:Operand} {lo hi mx:Option Operand}:iu P { dst:=d,op := .slice t x lo hi mx,type:=ty,pos,after:=af,guard:=g } e k w=db P t (ev e x) (lo.map (ev e)) (hi.map (ev e)) (mx.map (ev e)) (xS k w):=bG rfl
@[go_sem ↓] theorem HD {f:Operand} {args:Array Operand} {ats:Array TypeId}:iu P { dst:=d,op := .call { callee := .value f,args,argTypes:=ats },type:=ty,pos,after:=af,guard:=g } e k w=lD P (ev e f) (args.map (ev e)) k w:=bG rfl
@[go_sem ↓] theorem FN {r:Operand} {m:String} {args:Array Operand} {ats:Array TypeId}:iu P { dst:=d,op := .call { callee := .invoke r m,args,argTypes:=ats },type:=ty,pos,after:=af,guard:=g } e k w=cn P (ev e r) m (args.map (ev e)) k w:=bG rfl
@[go_sem ↓] theorem H5 {x:Operand} {t:TypeId}:iu P { dst:=d,op := .call { callee := .builtin .len,args := #[x],argTypes := #[t] },type:=ty,pos,after:=af,guard:=g } e k w=nW P (some t) (some (ev e x)) (xS k w):=by
 simp only [iu,gv,List.map_toArray,List.map_cons,List.map_nil,List.getElem?_toArray,List.getElem?_cons_zero]; rfl
@[go_sem ↓] theorem H6 {x:Operand} {t:TypeId}:iu P { dst:=d,op := .call { callee := .builtin .cap,args := #[x],argTypes := #[t] },type:=ty,pos,after:=af,guard:=g } e k w=qn P (some t) (some (ev e x)) (xS k w):=by
 simp only [iu,gv,List.map_toArray,List.map_cons,List.map_nil,List.getElem?_toArray,List.getElem?_cons_zero]; rfl
end op
section cells
variable {w:World} {b b' o o':Nat} {v:Value} {ob:Obj}
@[go_sem] theorem bu:(w.setCell ⟨b,o,none⟩ v).cell? ⟨b,o,none⟩=(w.cell? ⟨b,o,none⟩).map fun _=>v:=by
 cases h:w.cell? ⟨b,o,none⟩ with
 | some x=>rw [World.cell?_setCell_same w _ v h]; rfl
 | none =>
  simp only [World.cell?,World.setCell,Array.getElem?_modify,if_true] at h ⊢
  cases hb:w.heap[b]? with
  | none=>rfl
  | some x=>cases x <;> simp_all
@[go_sem] theorem fk (h:o≠o'):(w.setCell ⟨b,o,none⟩ v).cell? ⟨b',o',none⟩=w.cell? ⟨b',o',none⟩:=World.cell?_setCell_other w _ _ v (fun he=>h (by cases he; rfl))
@[go_sem] theorem vV (h:b≠b'):(w.setCell ⟨b,o,none⟩ v).cell? ⟨b',o',none⟩=w.cell? ⟨b',o',none⟩:=World.cell?_setCell_other w _ _ v (fun he=>h (by cases he; rfl))
attribute [go_sem] World.frozen?_setCell World.size_setCell World.size_alloc World.size_drew World.cell?_drew World.frozen?_drew Option.map_some List.map_toArray List.map_cons List.map_nil
end cells
@[go_sem] theorem CD (a:Array Value):a ++ #[]=a:=by simp
@[go_sem] theorem CE (a:Array Value) : #[]++a=a:=by simp
@[go_sem] theorem CF (x:Value) (l:List Value) : #[x]++l.toArray=(x :: l).toArray:=by simp
attribute [go_sem] List.size_toArray aX List.length_nil List.cons_append List.nil_append
def HE (o:Option Value) (q:Value→Prop):Prop:=nV o q
@[go_sem] theorem Gf (v:Value) (q:Value→Prop):HE (some v) q=q v:=bG rfl
def EB (o:Option Value) (k:au) (w:World):Prop:=nV o fun v=>k v w
@[go_sem] theorem Gg (v:Value) (k:au) (w:World):EB (some v) k w=k v w:=bG rfl
def nj (a:Addr) (i n:Nat) (acc:List Value) (k:au) (w:World):Prop:=jo w a i n fun vs=>k (.agg (acc++vs).toArray) w
def CG (o:Option Value) (a:Addr) (i n:Nat) (acc:List Value) (k:au) (w:World):Prop:=nV o fun v=>nj a (i+1) n (acc++[v]) k w
@[go_sem] theorem FO (v:Value) (a:Addr) (i n:Nat) (acc:List Value) (k:au) (w:World):CG (some v) a i n acc k w=nj a (i+1) n (acc++[v]) k w:=bG rfl
def sG (a:Addr) (i:Nat) (vs:List Value) (k:au) (w:World):Prop:=ou w a i vs fun w'=>k undef w'
def uB (o:Option Value) (fz:Bool) (v:Value) (a:Addr) (i:Nat) (vs:List Value) (k:au) (w:World):Prop:=Dp o fz v (sG a (i+1) vs k (w.setCell (a.add i) v))
def bd (o:Option Value) (d:Int):Int:=match o with
 | some (.int _ i)=>i
 | _=>d
def CH (o:Option Value):Bool:=match o with
 | none=>true
 | some (.int _ _)=>true
 | some _=>false
@[go_sem] theorem np (d:Int):bd none d=d:=bG rfl
theorem vW {d:Int} {q:Int→Prop}:gL none d q=q d:=rfl
theorem jr {o:Option Value} {d:Int} {q:Int→Prop} (h:CH o=true):gL o d q=q (bd o d):=by
 unfold CH at h
 split at h <;> first | rfl | simp at h
section vals
variable {P:Program} {k:au} {w:World} {q:Value→Prop}
def H7 (x:Value) (k:au) (w:World):Prop:=match x with
 | .pointer (some a)=>EB (w.cell? a) k w
 | _=>False
def H8 (n:Nat) (x:Value) (k:au) (w:World):Prop:=match x with
 | .pointer (some a)=>nj a 0 n [] k w
 | _=>False
theorem FP {t:TypeId} {x:Value} (h:jE P t=true):gN P t x k w=H7 x k w:=by
 unfold H7; split
 ·simp [gN,h,EB]
 ·unfold gN; split
  ·simp_all
  ·rfl
theorem FQ {t:TypeId} {x:Value} {n:Nat} (h:vE P t=some n) (ha:xY P t=true):gN P t x k w=H8 n x k w:=by
 have hs:jE P t=false:=by
  unfold xY at ha; unfold jE; split at ha <;> simp_all
 unfold H8; split
 ·simp [gN,hs,ha,h,nj]
 ·unfold gN; split
  ·simp_all
  ·rfl
@[go_sem] theorem If {a:Addr}:H7 (.pointer (some a)) k w=EB (w.cell? a) k w:=bG rfl
@[go_sem] theorem Ig {n:Nat} {a:Addr}:H8 n (.pointer (some a)) k w=nj a 0 n [] k w:=bG rfl
def uC (n:Nat) (x v:Value) (k:au) (w:World):Prop:=match x with
 | .pointer (some a)=>v.cells.size=n∧sG a 0 v.cells.toList k w
 | _=>False
theorem FR {t:TypeId} {x v:Value} {n:Nat} (h:vE P t=some n):jM P t x v k w=uC n x v k w:=by
 unfold uC; split
 ·simp only [jM,h,cZ,sG,aL,eq_comm]
 ·unfold jM; split
  ·simp_all
  ·rfl
@[go_sem] theorem H9 {a:Addr} {kd:IntKind} {n:Int}:uC 1 (.pointer (some a)) (.int kd n) k w=sG a 0 [.int kd n] k w:=by simp [uC,Value.cells]
@[go_sem] theorem HF {a:Addr} {b:Bool}:uC 1 (.pointer (some a)) (.bool b) k w=sG a 0 [.bool b] k w:=by simp [uC,Value.cells]
@[go_sem] theorem FS {a:Addr} {s:ByteArray}:uC 1 (.pointer (some a)) (.string s) k w=sG a 0 [.string s] k w:=by simp [uC,Value.cells]
@[go_sem] theorem Eu {a:Addr} {p:Option Addr}:uC 1 (.pointer (some a)) (.pointer p) k w=sG a 0 [.pointer p] k w:=by simp [uC,Value.cells]
@[go_sem] theorem Gh {a:Addr} {p:Option Addr} {l c:Nat}:uC 1 (.pointer (some a)) (.slice p l c) k w=sG a 0 [.slice p l c] k w:=by simp [uC,Value.cells]
@[go_sem] theorem HG {a:Addr} {f:Fn} {x y:Array Value}:uC 1 (.pointer (some a)) (.func f x y) k w=sG a 0 [.func f x y] k w:=by simp [uC,Value.cells]
@[go_sem] theorem EC {a:Addr}:uC 1 (.pointer (some a)) .nilIface k w=sG a 0 [.nilIface] k w:=by simp [uC,Value.cells]
@[go_sem] theorem IA {n:Nat} {a:Addr} {l:List Value} (h:l.length=n):uC n (.pointer (some a)) (.agg l.toArray) k w=sG a 0 l k w:=by simp [uC,Value.cells,h]
@[go_sem ↓] theorem FT {a:Addr} {i:Nat} {acc:List Value}:nj a i 0 acc k w=k (.agg acc.toArray) w:=by simp [nj,jo]
@[go_sem ↓] theorem FU {a:Addr} {i n:Nat} {acc:List Value}:nj a i (n+1) acc k w=CG (w.cell? (a.add i)) a i n acc k w:=by simp [nj,jo,CG]
@[go_sem ↓] theorem ED {a:Addr} {i:Nat}:sG a i [] k w=k undef w:=bG rfl
@[go_sem ↓] theorem vX {a:Addr} {i:Nat} {v:Value} {vs:List Value}:sG a i (v :: vs) k w=uB (w.cell? (a.add i)) (w.frozen? (a.add i)) v a i vs k w:=bG rfl
@[go_sem] theorem IB {a:Addr} {i:Nat} {x:Value} {kd:IntKind} {n:Int} {vs:List Value}:uB (some x) false (.int kd n) a i vs k w=sG a (i+1) vs k (w.setCell (a.add i) (.int kd n)):=by
 simp [uB,Dp,Value.oneCell']
@[go_sem] theorem HH {a:Addr} {i:Nat} {x:Value} {b:Bool} {vs:List Value}:uB (some x) false (.bool b) a i vs k w=sG a (i+1) vs k (w.setCell (a.add i) (.bool b)):=by
 simp [uB,Dp,Value.oneCell']
@[go_sem] theorem FV {a:Addr} {i:Nat} {x:Value} {s:ByteArray} {vs:List Value}:uB (some x) false (.string s) a i vs k w=sG a (i+1) vs k (w.setCell (a.add i) (.string s)):=by
 simp [uB,Dp,Value.oneCell']
@[go_sem] theorem Ev {a:Addr} {i:Nat} {x:Value} {p:Option Addr} {vs:List Value}:uB (some x) false (.pointer p) a i vs k w=sG a (i+1) vs k (w.setCell (a.add i) (.pointer p)):=by
 simp [uB,Dp,Value.oneCell']
@[go_sem] theorem Gi {a:Addr} {i:Nat} {x:Value} {p:Option Addr} {l c:Nat} {vs:List Value}:uB (some x) false (.slice p l c) a i vs k w=sG a (i+1) vs k (w.setCell (a.add i) (.slice p l c)):=by
 simp [uB,Dp,Value.oneCell']
@[go_sem] theorem HI {a:Addr} {i:Nat} {x:Value} {f:Fn} {y z:Array Value} {vs:List Value}:uB (some x) false (.func f y z) a i vs k w=sG a (i+1) vs k (w.setCell (a.add i) (.func f y z)):=by
 simp [uB,Dp,Value.oneCell']
@[go_sem] theorem Gj {a:Addr} {i:Nat} {x:Value} {t:TypeId} {v:Value} {vs:List Value}:uB (some x) false (.iface t v) a i vs k w=sG a (i+1) vs k (w.setCell (a.add i) (.iface t v)):=by
 simp [uB,Dp,Value.oneCell']
@[go_sem] theorem EE {a:Addr} {i:Nat} {x:Value}  {vs:List Value}:uB (some x) false .nilIface a i vs k w=sG a (i+1) vs k (w.setCell (a.add i) .nilIface):=by
 simp [uB,Dp,Value.oneCell']
@[go_sem] theorem HJ {a:Addr}:qN (.pointer (some a)) q=q (.pointer (some a)):=bG rfl
@[go_sem] theorem FW {t:TypeId} {v:Value}:qN (.iface t v) q=q (.iface t v):=bG rfl
@[go_sem] theorem Ds {o:Nat} {a:Addr}:fi (some o) (.pointer (some a)) q=q (.pointer (some (a.add o))):=bG rfl
def HK (n:Nat) (x i:Value) (q:Value→Prop):Prop:=match x,i with
 | .slice (some a) len _,.int _ i=>(0≤i∧i < len)∧q (.pointer (some (a.add (i.toNat * n))))
 | _,_=>False
theorem FX {t:TypeId} {x i:Value} {n:Nat} (h:lM P t=some n):eg P t x i q=HK n x i q:=by
 unfold HK eg
 rw [h]
 cases x <;> try rfl
 rename_i a l c
 cases a <;> try rfl
 cases i <;> rfl
@[go_sem] theorem Ih {n:Nat} {a:Addr} {len cap:Nat} {kd:IntKind} {i:Int} (h0:0≤i) (h1:i < len):HK n (.slice (some a) len cap) (.int kd i) q=q (.pointer (some (a.add (i.toNat * n)))):=by simp [HK,h0,h1]
@[go_sem] theorem FY {a b:Value}:CC (.bool true) a b q=q a:=bG rfl
@[go_sem] theorem Ew {a b:Value}:CC (.bool false) a b q=q b:=bG rfl
@[go_sem] theorem Ex {vs:Array Value} {i:Nat}:ie (.tuple vs) i q=HE vs[i]? q:=bG rfl
@[go_sem] theorem IC {b:Bool}:Ek .not (.bool b) q=q (.bool !b):=bG rfl
section bin
variable {t:TypeId} {xo yo:Operand} {kd:IntKind} {a b:Int}
@[go_sem] theorem HL:dA P .add t xo yo (.int kd a) (.int kd b) q=q (.int kd (kd.wrap (a+b))):=by simp [dA,fN,kU]
@[go_sem] theorem HM:dA P .sub t xo yo (.int kd a) (.int kd b) q=q (.int kd (kd.wrap (a - b))):=by simp [dA,fN,kU]
@[go_sem] theorem HN:dA P .mul t xo yo (.int kd a) (.int kd b) q=q (.int kd (kd.wrap (a * b))):=by simp [dA,fN,kU]
@[go_sem] theorem fm (h:b≠0):dA P .quo t xo yo (.int kd a) (.int kd b) q=q (.int kd (kd.wrap (a.tdiv b))):=by simp [dA,fN,kU,cZ,h]
@[go_sem] theorem CI:dA P .and t xo yo (.int kd a) (.int kd b) q=q (.int kd (kd.wrap (BitVec.ofInt kd.bits a &&& BitVec.ofInt kd.bits b).toNat)):=by simp only [dA,fN,kU,Bool.false_eq_true,if_false,if_true]
@[go_sem] theorem CJ:dA P .xor t xo yo (.int kd a) (.int kd b) q=q (.int kd (kd.wrap (BitVec.ofInt kd.bits a ^^^ BitVec.ofInt kd.bits b).toNat)):=by simp only [dA,fN,kU,Bool.false_eq_true,if_false,if_true]
@[go_sem] theorem HO:dA P .eql t xo yo (.int kd a) (.int kd b) q=q (.bool (a == b)):=by simp [dA,fN,kU]
@[go_sem] theorem HP:dA P .neq t xo yo (.int kd a) (.int kd b) q=q (.bool (a != b)):=by simp [dA,fN,kU]
@[go_sem] theorem HQ:dA P .lss t xo yo (.int kd a) (.int kd b) q=q (.bool (decide (a < b))):=by simp [dA,fN,kU]
@[go_sem] theorem HR:dA P .leq t xo yo (.int kd a) (.int kd b) q=q (.bool (decide (a≤b))):=by simp [dA,fN,kU]
@[go_sem] theorem HS:dA P .gtr t xo yo (.int kd a) (.int kd b) q=q (.bool (decide (b < a))):=by simp [dA,fN,kU]
@[go_sem] theorem HT:dA P .geq t xo yo (.int kd a) (.int kd b) q=q (.bool (decide (b≤a))):=by simp [dA,fN,kU]
@[go_sem] theorem rB {k2:IntKind} (h:0≤b):dA P .shl t xo yo (.int kd a) (.int k2 b) q=q (.int kd (kd.wrap (a * 2 ^ (min b.toNat kd.bits)))):=by simp [dA,fN,kV,cZ,h]
@[go_sem] theorem fT {k2:IntKind} (h:0≤b):dA P .shr t xo yo (.int kd a) (.int k2 b) q=q (.int kd (a.fdiv (2 ^ (min b.toNat kd.bits)))):=by simp [dA,fN,kV,cZ,h]
variable {s u:ByteArray}
@[go_sem] theorem HU {op:BinOp}:dA P op t xo yo (.string s) (.string u) q=jq op s u q:=bG rfl
@[go_sem] theorem CK:jq .eql s u q=q (.bool (s.toList == u.toList)):=bG rfl
@[go_sem] theorem CM:jq .neq s u q=q (.bool (!(s.toList == u.toList))):=bG rfl
@[go_sem] theorem CN:jq .lss s u q=q (.bool (Op.bytesLess s.toList u.toList)):=bG rfl
@[go_sem] theorem CO:jq .leq s u q=q (.bool (Op.bytesLess s.toList u.toList || s.toList == u.toList)):=bG rfl
@[go_sem] theorem CQ:jq .gtr s u q=q (.bool (!(Op.bytesLess s.toList u.toList || s.toList == u.toList))):=bG rfl
@[go_sem] theorem CR:jq .geq s u q=q (.bool (!(Op.bytesLess s.toList u.toList))):=bG rfl
def eu (P:Program) (t:TypeId):Nat :=
 match P.underlying t with
 | some (.interface _)=>1
 | some .bool=>2
 | some (.pointer _)=>3
 | some (.slice _)=>4
 | some .string=>5
 | _=>0
theorem rC (h:eu P t=1):lR P t=true:=by unfold eu at h; unfold lR; split at h <;> simp_all
theorem AS (h:eu P t=2):P.underlying t=some .bool:=by unfold eu at h; split at h <;> simp_all
theorem vY (h:eu P t=3):∃ el,P.underlying t=some (.pointer el):=by unfold eu at h; split at h <;> simp_all
theorem kY (h:eu P t=4):∃ el,P.underlying t=some (.slice el):=by unfold eu at h; split at h <;> simp_all
theorem qR {c:Value} (h:eu P t=1):dA P .eql t xo (.const c) .nilIface .nilIface q=q (.bool true):=by simp [dA,vF,cZ,rC h,lS]
theorem qS {c:Value} (h:eu P t=1):dA P .neq t xo (.const c) .nilIface .nilIface q=q (.bool false):=by simp [dA,vF,cZ,rC h,lS]
theorem uD {x y:Bool} (h:eu P t=2):dA P .eql t xo yo (.bool x) (.bool y) q=q (.bool (x == y)):=by simp [dA,vF,cZ,AS h]
theorem qT {x:Option Addr} (h:eu P t=3):dA P .eql t xo yo (.pointer x) (.pointer none) q=q (.bool x.isNone):=by
 obtain ⟨el,he⟩:=vY h
 cases x <;> simp [dA,vF,cZ,he]
theorem lG {x:Option Addr} (h:eu P t=3):dA P .neq t xo yo (.pointer x) (.pointer none) q=q (.bool x.isSome):=by
 obtain ⟨el,he⟩:=vY h
 cases x <;> simp [dA,vF,cZ,he]
theorem nq {x:Option Addr} {l c l' c':Nat} (h:eu P t=4):dA P .eql t xo yo (.slice x l c) (.slice none l' c') q=q (.bool x.isNone):=by
 obtain ⟨el,he⟩:=kY h
 cases x <;> simp [dA,vF,cZ,he]
theorem nt {x:Option Addr} {l c l' c':Nat} (h:eu P t=4):dA P .neq t xo yo (.slice x l c) (.slice none l' c') q=q (.bool x.isSome):=by
 obtain ⟨el,he⟩:=kY h
 cases x <;> simp [dA,vF,cZ,he]
end bin
theorem CS {f:FuncId} {args a b:Array Value} (h:iW P f=true):lD P (.func (.func f) a b) args k w=aY P f (a++args++b) k w:=by simp [lD,h]
theorem AT {f:FuncId} {args a b:Array Value} {s:Array Value→Sem Value} (h:mF P f=some s):lD P (.func (.func f) a b) args k w=dq P (s (a++args++b)) k w:=by
 have he:iW P f=false:=by
  unfold mF at h; unfold iW
  split at h
  ·split at h
   ·simp at h
   ·rename_i hc; simp_all
  ·simp at h
 simp [lD,he,h]
theorem yA {t:TypeId} {v:Value} {m:String} {args:Array Value} {f:FuncId} (h:vG P t m=some f) (he:iW P f=true):cn P (.iface t v) m args k w=aY P f (#[v]++args) k w:=by simp [cn,cZ,h,he]
theorem yB {t:TypeId} {a:Option Addr} {n c:Nat} (h:eu P t=4):nW P (some t) (some (.slice a n c)) q=q (.int .i64 n):=by
 obtain ⟨el,he⟩:=kY h
 simp [nW,he]
theorem vZ {t:TypeId} {s:ByteArray} (h:eu P t=5):nW P (some t) (some (.string s)) q=q (.int .i64 s.size):=by
 have he:P.underlying t=some .string:=by unfold eu at h; split at h <;> simp_all
 simp [nW,he]
theorem yC {t:TypeId} {a:Option Addr} {n c:Nat} (h:eu P t=4):qn P (some t) (some (.slice a n c)) q=q (.int .i64 c):=by
 obtain ⟨el,he⟩:=kY h
 simp [qn,he]
theorem tL {t:TypeId} {a:Option Addr} {len cap n:Nat} {lo hi mx:Option Value} (h:lM P t=some n) (o1:CH lo=true) (o2:CH hi=true) (o3:CH mx=true)
    (c1:0≤bd lo 0) (c2:bd lo 0≤bd hi len) (c3:bd hi len≤bd mx cap) (c4:bd mx cap≤cap) (c5:mx.isSome=true→hi.isSome=true) :
    db P t (.slice a len cap) lo hi mx q=q (.slice (if bd mx cap=bd lo 0 then a else a.map (·.add ((bd lo 0).toNat * n))) ((bd hi len).toNat - (bd lo 0).toNat) ((bd mx cap).toNat - (bd lo 0).toNat)):=by
 obtain ⟨el,he,hs⟩:=zD h
 simp only [db,he,hs,jr o1,jr o2,jr o3,cZ]
 simp [c1,c2,c3,c4]
 exact fun _=>c5
theorem pZ {t:TypeId} {a:Option Addr} {len cap n:Nat} {hi mx:Option Value} (h:lM P t=some n) (o2:CH hi=true) (o3:CH mx=true)
    (c2:0≤bd hi len) (c3:bd hi len≤bd mx cap) (c4:bd mx cap≤cap) (c5:mx.isSome=true→hi.isSome=true) :
    db P t (.slice a len cap) none hi mx q=q (.slice a (bd hi len).toNat (bd mx cap).toNat):=by
 rw [tL h rfl o2 o3 (by simp [bd]) (by simpa [bd] using c2) c3 c4 c5]
 simp only [np]
 cases a <;> simp [Addr.add]
theorem gj {t:TypeId} {a:Option Addr} {len cap n:Nat} {kd:IntKind} {l:Int} {hi mx:Option Value} (h:lM P t=some n) (o2:CH hi=true) (o3:CH mx=true)
    (c1:0≤l) (c2:l≤bd hi len) (c3:bd hi len≤bd mx cap) (c4:bd mx cap≤cap) (c5:mx.isSome=true→hi.isSome=true) :
    db P t (.slice a len cap) (some (.int kd l)) hi mx q=q (.slice (if bd mx cap=l then a else a.map (·.add (l.toNat * n))) ((bd hi len).toNat - l.toNat) ((bd mx cap).toNat - l.toNat)) :=
 tL h rfl o2 o3 c1 c2 c3 c4 c5
def EF (P:Program) (t:TypeId):Option (Nat × Nat) :=
 match P.underlying t with
 | some (.array len el)=>(vE P el).map fun n=>(len,n)
 | _=>none
theorem rD {t:TypeId} {a:Addr} {len n:Nat} {hi mx:Option Value} (h:EF P t=some (len,n)) (o2:CH hi=true) (o3:CH mx=true)
    (c2:0≤bd hi len) (c3:bd hi len≤bd mx len) (c4:bd mx len≤len) (c5:mx.isSome=true→hi.isSome=true) :
    db P t (.pointer (some a)) none hi mx q=q (.slice (some a) (bd hi len).toNat (bd mx len).toNat):=by
 unfold EF at h
 split at h
 ·rename_i len' el hu
  obtain ⟨n',hn,h2⟩:=Option.map_eq_some_iff.1 h
  simp only [Prod.mk.injEq] at h2
  obtain ⟨rfl,rfl⟩:=h2
  simp only [db,hu,hn,vW,jr o2,jr o3,cZ]
  have e:(if bd mx ↑len'=0 then a else a.add ((0:Int).toNat * n'))=a:=by split <;> simp [Addr.add]
  rw [e]
  simp [c2,c3,c4]
  exact fun _=>c5
 ·simp at h
end vals
end Go.E
end
section
namespace Go.Proofs
open Go Go.E
theorem Tryz.ar125:EF Tryz.prog 125=some (10,4):=by kernel_rfl
theorem Tryz.ar129:EF Tryz.prog 129=some (10,2):=by kernel_rfl
theorem Tryz.es44:lM Tryz.prog 44=some 3:=by kernel_rfl
theorem Tryz.es66:lM Tryz.prog 66=some 1:=by kernel_rfl
theorem Tryz.es107:lM Tryz.prog 107=some 1:=by kernel_rfl
theorem Tryz.es110:lM Tryz.prog 110=some 3:=by kernel_rfl
theorem Tryz.es159:lM Tryz.prog 159=some 3:=by kernel_rfl
theorem Tryz.es161:lM Tryz.prog 161=some 2:=by kernel_rfl
theorem Tryz.es166:lM Tryz.prog 166=some 1:=by kernel_rfl
theorem Tryz.es195:lM Tryz.prog 195=some 4:=by kernel_rfl
theorem Tryz.kd4:eu Tryz.prog 4=2:=by kernel_rfl
theorem Tryz.kd9:eu Tryz.prog 9=5:=by kernel_rfl
theorem Tryz.kd116:eu Tryz.prog 116=1:=by kernel_rfl
theorem Tryz.kd120:eu Tryz.prog 120=3:=by kernel_rfl
theorem Tryz.kd137:eu Tryz.prog 137=3:=by kernel_rfl
theorem Tryz.ex131:mF Tryz.prog 131=some Extern.BytealgCompare.compare:=by kernel_rfl
theorem Tryz.mi9 (x:Value) (q:Value→Prop):dK Tryz.prog 9 x q=q (.iface 9 x):=by kernel_rfl
theorem Tryz.mi221 (x:Value) (q:Value→Prop):dK Tryz.prog 221 x q=q (.iface 221 x):=by kernel_rfl
theorem Tryz.mi224 (x:Value) (q:Value→Prop):dK Tryz.prog 224 x q=q (.iface 224 x):=by kernel_rfl
theorem Tryz.mi226 (x:Value) (q:Value→Prop):dK Tryz.prog 226 x q=q (.iface 226 x):=by kernel_rfl
theorem Tryz.mi228 (x:Value) (q:Value→Prop):dK Tryz.prog 228 x q=q (.iface 228 x):=by kernel_rfl
theorem Tryz.mi229 (x:Value) (q:Value→Prop):dK Tryz.prog 229 x q=q (.iface 229 x):=by kernel_rfl
theorem Tryz.mi233 (x:Value) (q:Value→Prop):dK Tryz.prog 233 x q=q (.iface 233 x):=by kernel_rfl
theorem Tryz.mi249 (x:Value) (q:Value→Prop):dK Tryz.prog 249 x q=q (.iface 249 x):=by kernel_rfl
theorem Tryz.mi252 (x:Value) (q:Value→Prop):dK Tryz.prog 252 x q=q (.iface 252 x):=by kernel_rfl
theorem Tryz.mi262 (x:Value) (q:Value→Prop):dK Tryz.prog 262 x q=q (.iface 262 x):=by kernel_rfl
theorem Tryz.mi263 (x:Value) (q:Value→Prop):dK Tryz.prog 263 x q=q (.iface 263 x):=by kernel_rfl
theorem Tryz.mi274 (x:Value) (q:Value→Prop):dK Tryz.prog 274 x q=q (.iface 274 x):=by kernel_rfl
theorem Tryz.mi327 (x:Value) (q:Value→Prop):dK Tryz.prog 327 x q=q (.iface 327 x):=by kernel_rfl
@[go_sem] theorem Tryz.qa4 {xo yo:Operand} {x y:Bool} {q:Value→Prop}:dA Tryz.prog .eql 4 xo yo (.bool x) (.bool y) q=q (.bool (x == y)):=uD Tryz.kd4
@[go_sem] theorem Tryz.le9 {s:ByteArray} {q:Value→Prop}:nW Tryz.prog (some 9) (some (.string s)) q=q (.int .i64 s.size):=vZ Tryz.kd9
@[go_sem] theorem Tryz.qa116 {xo:Operand} {c:Value} {q:Value→Prop}:dA Tryz.prog .eql 116 xo (.const c) .nilIface .nilIface q=q (.bool true):=qR Tryz.kd116
@[go_sem] theorem Tryz.qb116 {xo:Operand} {c:Value} {q:Value→Prop}:dA Tryz.prog .neq 116 xo (.const c) .nilIface .nilIface q=q (.bool false):=qS Tryz.kd116
@[go_sem] theorem Tryz.qa120 {xo yo:Operand} {x:Option Addr} {q:Value→Prop}:dA Tryz.prog .eql 120 xo yo (.pointer x) (.pointer none) q=q (.bool x.isNone):=qT Tryz.kd120
@[go_sem] theorem Tryz.qb120 {xo yo:Operand} {x:Option Addr} {q:Value→Prop}:dA Tryz.prog .neq 120 xo yo (.pointer x) (.pointer none) q=q (.bool x.isSome):=lG Tryz.kd120
@[go_sem] theorem Tryz.qb137 {xo yo:Operand} {x:Option Addr} {q:Value→Prop}:dA Tryz.prog .neq 137 xo yo (.pointer x) (.pointer none) q=q (.bool x.isSome):=lG Tryz.kd137
@[go_sem] theorem Tryz.cl131 {args a b:Array Value} {k:au} {w:World}:lD Tryz.prog (.func (.func 131) a b) args k w=dq Tryz.prog (Extern.BytealgCompare.compare (a++args++b)) k w:=AT Tryz.ex131
attribute [go_sem] Tryz.mi9 Tryz.mi221 Tryz.mi224 Tryz.mi226 Tryz.mi228 Tryz.mi229 Tryz.mi233 Tryz.mi249 Tryz.mi252 Tryz.mi262 Tryz.mi263 Tryz.mi274 Tryz.mi327
theorem Tryz.mix:Tryz.prog.follows .mixedOrders=true:=by kernel_rfl
abbrev CL (f:FuncId):Prop:=∀ {x a b:Array Value} {k:au} {w:World},lD Tryz.prog (.func (.func f) a b) x k w=aY Tryz.prog f (a++x++b) k w
theorem JH {f:FuncId} (h:iW Tryz.prog f=true:=by kernel_rfl):CL f:=CS h
@[go_sem] theorem Ix:CL 13∧CL 15∧CL 18∧CL 19∧CL 22∧CL 25∧CL 28∧CL 31∧CL 33∧CL 34∧CL 35∧CL 36∧CL 38∧CL 44∧CL 48∧CL 50∧CL 51∧CL 52∧CL 53∧CL 55∧CL 57∧CL 58∧CL 59∧CL 64∧CL 65∧CL 66∧CL 67∧CL 68∧CL 72∧CL 73∧CL 75∧CL 76∧CL 79∧CL 82∧CL 83∧CL 84∧CL 85∧CL 86∧CL 87∧CL 88∧CL 89∧CL 91∧CL 92∧CL 93∧CL 94∧CL 95∧CL 96∧CL 97∧CL 98∧CL 99∧CL 101∧CL 102∧CL 103∧CL 110∧CL 112∧CL 113∧CL 117∧CL 120∧CL 121∧CL 122∧CL 123∧CL 124∧CL 126∧CL 127∧CL 128∧CL 129∧CL 130∧CL 134∧CL 137∧CL 138∧CL 139∧CL 140∧CL 141∧CL 142∧CL 143∧CL 147∧CL 149∧CL 150∧CL 151∧CL 152∧CL 153∧CL 154∧CL 155∧CL 156∧CL 157∧CL 158∧CL 159∧CL 160∧CL 161∧CL 162∧CL 163∧CL 164∧CL 165∧CL 166∧CL 167∧CL 168∧CL 186∧CL 187∧CL 188∧CL 200∧CL 201∧CL 202∧CL 203∧CL 204∧CL 205∧CL 206∧CL 207∧CL 208∧CL 209∧CL 210∧CL 211∧CL 212∧CL 213∧CL 214∧CL 215∧CL 216∧CL 218∧CL 219∧CL 220∧CL 221∧CL 224∧CL 225∧CL 226∧CL 227∧CL 236∧CL 237∧CL 238∧CL 239∧CL 249∧CL 250∧CL 251∧CL 252∧CL 253∧CL 254∧CL 255∧CL 256:=by and_intros <;> exact JH
abbrev LD (t:TypeId):Prop:=∀ {x:Value} {k:au} {w:World},gN Tryz.prog t x k w=H7 x k w
theorem JI {t:TypeId} (h:jE Tryz.prog t=true:=by kernel_rfl):LD t:=FP h
@[go_sem] theorem Iy:LD 3∧LD 4∧LD 5∧LD 9∧LD 23∧LD 28∧LD 44∧LD 54∧LD 66∧LD 74∧LD 105∧LD 106∧LD 107∧LD 109∧LD 110∧LD 111∧LD 112∧LD 116∧LD 118∧LD 119∧LD 120∧LD 126∧LD 134∧LD 136∧LD 137∧LD 139∧LD 142∧LD 144∧LD 145∧LD 147∧LD 149∧LD 152∧LD 159∧LD 160∧LD 161∧LD 166∧LD 190∧LD 192∧LD 193∧LD 195∧LD 292:=by and_intros <;> exact JI
abbrev LM (t:TypeId) (n:Nat):Prop:=∀ {x:Value} {k:au} {w:World},gN Tryz.prog t x k w=H8 n x k w
theorem JJ {t:TypeId} {n:Nat} (h:vE Tryz.prog t=some n:=by kernel_rfl) (h2:xY Tryz.prog t=true:=by kernel_rfl):LM t n:=FQ h h2
@[go_sem] theorem Iz:LM 37 2∧LM 46 3∧LM 53 2∧LM 56 3∧LM 58 5∧LM 62 3∧LM 88 3∧LM 114 4∧LM 122 3∧LM 128 2∧LM 256 3:=by and_intros <;> exact JJ
abbrev SZ (t:TypeId) (n:Nat):Prop:=∀ {x v:Value} {k:au} {w:World},jM Tryz.prog t x v k w=uC n x v k w
theorem JK {t:TypeId} {n:Nat} (h:vE Tryz.prog t=some n:=by kernel_rfl):SZ t n:=FR h
@[go_sem] theorem I0:SZ 3 1∧SZ 4 1∧SZ 5 1∧SZ 9 1∧SZ 23 1∧SZ 44 1∧SZ 46 3∧SZ 53 2∧SZ 56 3∧SZ 58 5∧SZ 62 3∧SZ 66 1∧SZ 74 1∧SZ 88 3∧SZ 105 1∧SZ 107 1∧SZ 110 1∧SZ 111 1∧SZ 112 1∧SZ 114 4∧SZ 116 1∧SZ 120 1∧SZ 122 3∧SZ 124 4∧SZ 128 2∧SZ 132 70∧SZ 134 1∧SZ 139 1∧SZ 141 9∧SZ 145 1∧SZ 151 12∧SZ 152 1∧SZ 159 1∧SZ 160 1∧SZ 161 1∧SZ 166 1∧SZ 170 2∧SZ 195 1∧SZ 247 2∧SZ 256 3∧SZ 261 3∧SZ 292 1:=by and_intros <;> exact JK
abbrev OF (t:TypeId) (i o:Nat):Prop:=z9 Tryz.prog t i=some o
theorem JL {t:TypeId} {i o:Nat} (h:z9 Tryz.prog t i=some o:=by kernel_rfl):OF t i o:=h
@[go_sem] theorem I1:OF 37 0 0∧OF 37 1 1∧OF 46 0 0∧OF 46 1 1∧OF 46 2 2∧OF 53 0 0∧OF 53 1 1∧OF 56 0 0∧OF 56 1 1∧OF 56 2 2∧OF 58 1 1∧OF 58 2 2∧OF 62 0 0∧OF 62 1 1∧OF 62 2 2∧OF 88 0 0∧OF 88 1 1∧OF 88 2 2∧OF 114 0 0∧OF 114 1 1∧OF 114 2 2∧OF 114 3 3∧OF 122 0 0∧OF 122 1 1∧OF 122 2 2∧OF 124 0 0∧OF 124 1 1∧OF 128 0 0∧OF 128 1 1∧OF 130 0 0∧OF 130 1 40∧OF 132 0 0∧OF 132 1 1∧OF 132 2 2∧OF 132 3 3∧OF 132 4 4∧OF 132 5 8∧OF 132 6 9∧OF 132 7 10∧OF 141 0 0∧OF 141 1 1∧OF 141 2 2∧OF 141 4 4∧OF 141 5 5∧OF 141 6 6∧OF 141 8 8∧OF 151 0 0∧OF 151 1 1∧OF 151 2 2∧OF 151 3 3∧OF 151 4 4∧OF 151 5 5∧OF 151 6 6∧OF 151 7 10∧OF 151 8 11∧OF 154 0 0∧OF 154 1 1∧OF 154 2 2∧OF 154 3 72∧OF 154 4 81∧OF 154 5 93∧OF 154 6 94∧OF 163 0 0∧OF 163 1 1∧OF 163 2 2∧OF 165 0 0∧OF 165 1 1∧OF 165 2 2∧OF 165 3 5∧OF 168 0 0∧OF 168 1 1∧OF 168 2 2∧OF 170 0 0∧OF 170 1 1∧OF 172 0 0∧OF 172 1 6∧OF 172 2 9∧OF 208 0 0∧OF 208 1 1∧OF 208 5 5∧OF 241 0 0∧OF 241 1 1∧OF 243 0 0∧OF 243 2 2∧OF 243 3 3∧OF 243 4 4∧OF 243 5 5∧OF 243 6 7∧OF 243 7 8∧OF 243 8 9∧OF 247 0 0∧OF 247 1 1∧OF 256 0 0∧OF 256 1 1∧OF 256 2 2∧OF 261 0 0∧OF 261 1 1∧OF 261 2 2:=by and_intros <;> exact JL
abbrev QA (t:TypeId):Prop:=∀ {xo yo:Operand} {x:Option Addr} {l c l2 c2:Nat} {q:Value→Prop},dA Tryz.prog .eql t xo yo (.slice x l c) (.slice none l2 c2) q=q (.bool x.isNone)
theorem JM {t:TypeId} (h:eu Tryz.prog t=4:=by kernel_rfl):QA t:=nq h
@[go_sem] theorem I2:QA 107:=JM
abbrev QB (t:TypeId):Prop:=∀ {xo yo:Operand} {x:Option Addr} {l c l2 c2:Nat} {q:Value→Prop},dA Tryz.prog .neq t xo yo (.slice x l c) (.slice none l2 c2) q=q (.bool x.isSome)
theorem JN {t:TypeId} (h:eu Tryz.prog t=4:=by kernel_rfl):QB t:=nt h
@[go_sem] theorem I3:QB 107:=JN
abbrev LN (t:TypeId):Prop:=∀ {a:Option Addr} {n c:Nat} {q:Value→Prop},nW Tryz.prog (some t) (some (.slice a n c)) q=q (.int .i64 n)
theorem JO {t:TypeId} (h:eu Tryz.prog t=4:=by kernel_rfl):LN t:=yB h
@[go_sem] theorem I4:LN 22∧LN 28∧LN 33∧LN 35∧LN 38∧LN 44∧LN 54∧LN 66∧LN 74∧LN 107∧LN 110∧LN 159∧LN 160∧LN 161∧LN 166∧LN 173∧LN 195:=by and_intros <;> exact JO
abbrev CP (t:TypeId):Prop:=∀ {a:Option Addr} {n c:Nat} {q:Value→Prop},qn Tryz.prog (some t) (some (.slice a n c)) q=q (.int .i64 c)
theorem JP {t:TypeId} (h:eu Tryz.prog t=4:=by kernel_rfl):CP t:=yC h
@[go_sem] theorem I5:CP 166:=JP
abbrev IX (t:TypeId) (n:Nat):Prop:=∀ {x i:Value} {q:Value→Prop},eg Tryz.prog t x i q=HK n x i q
theorem JQ {t:TypeId} {n:Nat} (h:lM Tryz.prog t=some n:=by kernel_rfl):IX t n:=FX h
@[go_sem] theorem I6:IX 22 1∧IX 28 3∧IX 33 5∧IX 35 1∧IX 38 2∧IX 44 3∧IX 54 3∧IX 66 1∧IX 74 3∧IX 110 3∧IX 159 3∧IX 160 4∧IX 161 2∧IX 173 1∧IX 195 4:=by and_intros <;> exact JQ
end Go.Proofs
end
