/- Parts of the proof: S, F. -/
import Derived.WalkKit
import Derived.Test.YtjcbeinpkafjiaaGreatChecked
import Derived.Test.YtjcbeinpkafjiaaGreatU01
set_option linter.all false
section
namespace Go.E
open Go
theorem byDef {α:Sort _} {a b:α} (h:a=b):a=b:=h
inductive SI where
 | code (c:Code)
 | block (id:Nat)
 | inv (K:Env→World→Prop)
def contE (N:Nat) (P:Program) (rs:List ResultVar) (k:Kont):List SI→Exit→Env→World→Prop
 | []=>retE P rs k
 | .code c :: st=>thenE (fun e w=>WP N P c (contE N P rs k st) e w) (contE N P rs k st)
 | .block id :: st=>blockE id (contE N P rs k st)
 | .inv K :: st=>thenE K (contE N P rs k st)
structure Cfg where
 N:Nat
 ops:Array Oper
 st:List SI
 rs:List ResultVar
 k:Kont
def runC (N:Nat) (P:Program) (c:Code) (st:List SI) (rs:List ResultVar) (k:Kont) (e:Env) (w:World):Prop:=WP N P c (contE N P rs k st) e w
def exitC (N:Nat) (P:Program) (ex:Exit) (st:List SI) (rs:List ResultVar) (k:Kont) (e:Env) (w:World):Prop:=contE N P rs k st ex e w
def goE (P:Program) (C:Cfg) (l:List Oper) (e:Env) (w:World):Prop:=regE P C.ops l e (fun e w=>contE C.N P C.rs C.k C.st .normal e w) w
def kw (P:Program) (d:Option Tmp) (C:Cfg) (l:List Oper) (e:Env):Kont:=fun v w=>goE P C l (put e d v) w
def atW (k:Kont) (w:World):Value→Prop:=fun v=>k v w
def condC (N:Nat) (P:Program) (x:Value) (a b:Code) (st:List SI) (rs:List ResultVar) (k:Kont) (e:Env) (w:World):Prop:=condE x (runC N P a st rs k e w) (runC N P b st rs k e w)
def wantX (c:Bool) (P:Program) (o:Oper) (C:Cfg) (l:List Oper) (e:Env) (w:World):Prop:=if c then opE P o e (kw P o.dst C l e) w else goE P C l (put e o.dst undef) w
section code
variable {N:Nat} {P:Program} {st:List SI} {rs:List ResultVar} {k:Kont} {e:Env} {w:World}
@[go_sem ↓] theorem runC_skip:runC N P .skip st rs k e w=exitC N P .normal st rs k e w:=byDef rfl
@[go_sem ↓] theorem runC_region {id:Nat} {l:List Oper}:runC N P (.region id l.toArray false) st rs k e w=goE P ⟨N,l.toArray,st,rs,k⟩ l e w:=byDef rfl
@[go_sem ↓] theorem runC_seq {a b:Code}:runC N P (.seq a b) st rs k e w=runC N P a (.code b :: st) rs k e w:=byDef rfl
@[go_sem ↓] theorem runC_cond {c:Operand} {a b:Code}:runC N P (.cond c a b) st rs k e w=condC N P (ev e c) a b st rs k e w:=byDef rfl
@[go_sem ↓] theorem runC_block {id:Nat} {a:Code}:runC N P (.block id a) st rs k e w=runC N P a (.block id :: st) rs k e w:=byDef rfl
@[go_sem ↓] theorem runC_exit {id:Nat}:runC N P (.exit id) st rs k e w=exitC N P (.exit id) st rs k e w:=byDef rfl
@[go_sem ↓] theorem runC_ret:runC N P .ret st rs k e w=resE P rs e k w:=by
 show contE N P rs k st .ret e w=_
 induction st with
 | nil=>rfl
 | cons x st ih=>cases x <;> exact ih
@[go_sem ↓] theorem exitC_nil:exitC N P .normal [] rs k e w=resE P rs e k w:=byDef rfl
@[go_sem ↓] theorem exitC_code {c:Code}:exitC N P .normal (.code c :: st) rs k e w=runC N P c st rs k e w:=byDef rfl
@[go_sem ↓] theorem exitC_block {id:Nat}:exitC N P .normal (.block id :: st) rs k e w=exitC N P .normal st rs k e w:=byDef rfl
@[go_sem ↓] theorem exitC_inv {K:Env→World→Prop}:exitC N P .normal (.inv K :: st) rs k e w=K e w:=byDef rfl
@[go_sem ↓] theorem exitC_exit_code {c:Code} {i:Nat}:exitC N P (.exit i) (.code c :: st) rs k e w=exitC N P (.exit i) st rs k e w:=byDef rfl
@[go_sem ↓] theorem exitC_exit_inv {K:Env→World→Prop} {i:Nat}:exitC N P (.exit i) (.inv K :: st) rs k e w=exitC N P (.exit i) st rs k e w:=byDef rfl
@[go_sem ↓] theorem exitC_exit_here {i:Nat}:exitC N P (.exit i) (.block i :: st) rs k e w=exitC N P .normal st rs k e w:=by simp [exitC,contE,blockE]
@[go_sem ↓] theorem exitC_exit_past {i j:Nat} (h:i≠j):exitC N P (.exit i) (.block j :: st) rs k e w=exitC N P (.exit i) st rs k e w:=by simp [exitC,contE,blockE,h]
@[go_sem] theorem condC_true {a b:Code}:condC N P (.bool true) a b st rs k e w=runC N P a st rs k e w:=byDef rfl
@[go_sem] theorem condC_false {a b:Code}:condC N P (.bool false) a b st rs k e w=runC N P b st rs k e w:=byDef rfl
@[go_sem ↓] theorem resE_nil:resE P [] e k w=k (.tuple #[]) w:=byDef rfl
@[go_sem ↓] theorem resE_tmp {t:Nat}:resE P [.tmp t] e k w=k (e t) w:=byDef rfl
@[go_sem ↓] theorem resE_cell {a:Nat} {t:TypeId}:resE P [.cell a t] e k w=loadE P t (e a) k w:=byDef rfl
@[go_sem ↓] theorem resE_tmp2 {t u:Nat}:resE P [.tmp t,.tmp u] e k w=k (.tuple #[e t,e u]) w:=byDef rfl
theorem callK_of {f:FuncId} {fn:Func} {c:Code} {args:Array Value} (hf:P.funcs[f]? = some fn) (hb:fn.body=some c) (hN:fn.ntmps=N) (hrs:fn.results.toList=rs) (hok:codeOk N c=true) (hn:Nat.ble args.size N=true)
    (h:runC N P c [] rs k (env0 args) w):callK P f args k w:=by
 subst hN
 subst hrs
 exact calls_of_WP hf hb hok (by simpa using hn) h
theorem loopC {c:Code} {β:Type} (sl:β→List (Nat × Value)) (I:β→World→Prop) (μ:β→World→Nat) (b₀:β) (hok:codeOk N c=true) (ha:agree e (sl b₀)) (h₀:I b₀ w)
    (round:∀ (K:Env→World→Prop) (e:Env) b w,I b w→(∀ (e':Env) w' b',agree e' (sl b')→I b' w'→μ b' w' < μ b w→K e' w')→runC N P c (.inv K :: st) rs k (puts e (sl b)) w):runC N P (.loop c) st rs k e w :=
 loopE sl I μ b₀ hok ha h₀ fun e b w hI=>round _ e b w hI fun _ _ b' h1 h2 h3=>⟨b',h1,h2,h3⟩
theorem cutC {x y:Code} {β:Type} (sl:β→List (Nat × Value)) (J:β→World→Prop) (hok:codeOk N x=true)
    (hx:∀ K:Env→World→Prop,(∀ (e:Env) w b,agree e (sl b)→J b w→K e w)→runC N P x (.inv K :: st) rs k e w)
    (hy:∀ (e:Env) b w,J b w→runC N P y st rs k (puts e (sl b)) w):runC N P (.seq x y) st rs k e w :=
 cutE sl J (hx _ fun _ _ b h1 h2=>⟨b,h1,h2⟩) hy hok
def drG (P:Program) (C:Cfg) (t:DT) (L:List (Nat × (World→Prop))) (e:Env) (w:World):Prop:=drE P C.ops t L e (fun e w=>contE C.N P C.rs C.k C.st .normal e w) w
theorem drawC {id:Nat} {ops:Array Oper} (t:DT) (hm:P.follows .mixedOrders=true) (hops:ops.toList.all (dstOk N)=true)
    (hns:Region.noSelect ops=true) (hc:chkD P ops true t ops.size (Array.replicate ops.size false) []=true)
    (h:drG P ⟨N,ops,st,rs,k⟩ t [] e w.drew):runC N P (.region id ops true) st rs k e w:=drawE t hm hops hns hc h
end code
section ops
variable {P:Program} {C:Cfg} {rest:List Oper} {e:Env} {w:World} {d:Option Tmp} {ty:TypeId} {pos:String} {af:Array Edge}
@[go_sem ↓] theorem goE_nil {N:Nat} {ops:Array Oper} {st:List SI} {rs:List ResultVar} {k:Kont}:goE P ⟨N,ops,st,rs,k⟩ [] e w=exitC N P .normal st rs k e w:=byDef rfl
@[go_sem ↓] theorem goE_cons {op:Op}:goE P C ({ dst:=d,op,type:=ty,pos,after:=af,guard:=none } :: rest) e w =
    opE P { dst:=d,op,type:=ty,pos,after:=af,guard:=none } e (kw P d C rest e) w:=byDef rfl
def slotOf (l:List Oper) (j:Nat):Option Nat:=(l[j]?).bind (·.dst)
@[go_sem] theorem slotOf_zero {o:Oper} {l:List Oper}:slotOf (o :: l) 0=o.dst:=byDef rfl
@[go_sem] theorem slotOf_succ {o:Oper} {l:List Oper} {j:Nat}:slotOf (o :: l) (j+1)=slotOf l j:=byDef rfl
def isB (x:Value) (b:Bool):Bool:=match x with
 | .bool t=>t == b
 | _=>false
@[go_sem] theorem isB_bool (t b:Bool):isB (.bool t) b=(t == b):=byDef rfl
@[go_sem] theorem isB_undef (b:Bool):isB undef b=false:=byDef rfl
def wantO (o:Option Nat) (e:Env) (b:Bool):Bool:=match o with
 | some d=>isB (e d) b
 | none=>false
@[go_sem] theorem wantO_some (d:Nat) (e:Env) (b:Bool):wantO (some d) e b=isB (e d) b:=byDef rfl
@[go_sem ↓] theorem want_some {l:List Oper} {j:Nat} {b:Bool}:want l.toArray e (some (j,b))=wantO (slotOf l j) e b:=by
 cases h:(l[j]?).bind (·.dst) with
 | none=>simp [want,wantO,slotOf,h]
 | some d =>
  simp only [want,wantO,slotOf,isB,List.getElem?_toArray,h]
  cases e d <;> rfl
@[go_sem ↓] theorem goE_guard {op:Op} {j:Nat} {b:Bool} {N:Nat} {l:List Oper} {st:List SI} {rs:List ResultVar} {k:Kont} :
    goE P ⟨N,l.toArray,st,rs,k⟩ ({ dst:=d,op,type:=ty,pos,after:=af,guard:=some (j,b) } :: rest) e w =
    wantX (wantO (slotOf l j) e b) P { dst:=d,op,type:=ty,pos,after:=af,guard:=some (j,b) } ⟨N,l.toArray,st,rs,k⟩ rest e w:=by
 rw [← want_some]; exact byDef rfl
@[go_sem] theorem wantX_true {o:Oper} {l:List Oper}:wantX true P o C l e w=opE P o e (kw P o.dst C l e) w:=byDef rfl
@[go_sem] theorem wantX_false {o:Oper} {l:List Oper}:wantX false P o C l e w=goE P C l (put e o.dst undef) w:=byDef rfl
@[go_sem ↓] theorem kw_at {l:List Oper} {v:Value}:kw P d C l e v w=goE P C l (put e d v) w:=byDef rfl
@[go_sem ↓] theorem atW_at {k:Kont} {v:Value}:atW k w v=k v w:=byDef rfl
def drF (P:Program) (C:Cfg) (t:DT) (L:List (Nat × (World→Prop))) (d:Option Tmp) (e:Env):Kont:=fun v w=>drG P C t L (put e d v) w
def drH (P:Program) (C:Cfg) (i:Nat) (o:Oper) (t:DT) (L:List (Nat × (World→Prop))) (e:Env):Kont:=fun v w=>drG P C t ((i,fun w2=>gopE P C.ops o e (fun v2 _=>v2=v) w2) :: L) (put e o.dst v) w
def drK (P:Program) (C:Cfg) (ks:List Nat) (t:DT) (L:List (Nat × (World→Prop))) (d:Option Tmp) (e:Env):Kont:=fun v w=>presE ks L w∧drG P C t L (put e d v) w
def freeX (o:Option Oper) (P:Program) (C:Cfg) (t:DT) (L:List (Nat × (World→Prop))) (e:Env) (w:World):Prop:=match o with
 | some o=>gopE P C.ops o e (drF P C t L o.dst e) w
 | none=>False
def readX (o:Option Oper) (P:Program) (C:Cfg) (i:Nat) (t:DT) (L:List (Nat × (World→Prop))) (e:Env) (w:World):Prop:=match o with
 | some o=>gopE P C.ops o e (drH P C i o t L e) w
 | none=>False
def effX (o:Option Oper) (P:Program) (C:Cfg) (ks:List Nat) (t:DT) (L:List (Nat × (World→Prop))) (e:Env) (w:World):Prop:=match o with
 | some o=>gopE P C.ops o e (drK P C ks t L o.dst e) w
 | none=>False
section trees
variable {L:List (Nat × (World→Prop))} {t:DT} {N:Nat} {l:List Oper} {st:List SI} {rs:List ResultVar} {k:Kont} {i:Nat} {is ks:List Nat} {v:Value} {op:Op} {o:Oper}
@[go_sem ↓] theorem drG_done:drG P ⟨N,l.toArray,st,rs,k⟩ .done L e w=exitC N P .normal st rs k e w:=byDef rfl
@[go_sem ↓] theorem drG_free:drG P ⟨N,l.toArray,st,rs,k⟩ (.free i t) L e w=freeX l[i]? P ⟨N,l.toArray,st,rs,k⟩ t L e w:=by
 simp only [drG,drE,List.getElem?_toArray,freeX]; cases l[i]? <;> rfl
@[go_sem ↓] theorem drG_sq:drG P ⟨N,l.toArray,st,rs,k⟩ (sq (i :: is) t) L e w=freeX l[i]? P ⟨N,l.toArray,st,rs,k⟩ (sq is t) L e w:=drG_free
@[go_sem ↓] theorem drG_sq_nil:drG P C (sq [] t) L e w=drG P C t L e w:=byDef rfl
@[go_sem ↓] theorem drG_read:drG P ⟨N,l.toArray,st,rs,k⟩ (.read i t) L e w=readX l[i]? P ⟨N,l.toArray,st,rs,k⟩ i t L e w:=by
 simp only [drG,drE,List.getElem?_toArray,readX]; cases l[i]? <;> rfl
@[go_sem ↓] theorem drG_eff:drG P ⟨N,l.toArray,st,rs,k⟩ (.eff i ks t) L e w=effX l[i]? P ⟨N,l.toArray,st,rs,k⟩ ks t L e w:=by
 simp only [drG,drE,List.getElem?_toArray,effX]; cases l[i]? <;> rfl
@[go_sem ↓] theorem drG_alt {t2:DT}:drG P C (.alt t t2) L e w=(drG P C t L e w∧drG P C t2 L e w):=byDef rfl
@[go_sem] theorem freeX_some:freeX (some o) P C t L e w=gopE P C.ops o e (drF P C t L o.dst e) w:=byDef rfl
@[go_sem] theorem readX_some:readX (some o) P C i t L e w=gopE P C.ops o e (drH P C i o t L e) w:=byDef rfl
@[go_sem] theorem effX_some:effX (some o) P C ks t L e w=gopE P C.ops o e (drK P C ks t L o.dst e) w:=byDef rfl
@[go_sem ↓] theorem gopE_none {ops:Array Oper}:gopE P ops { dst:=d,op,type:=ty,pos,after:=af,guard:=none } e k w=opE P { dst:=d,op,type:=ty,pos,after:=af,guard:=none } e k w:=byDef rfl
def gopX (c:Bool) (P:Program) (o:Oper) (e:Env) (k:Kont) (w:World):Prop:=if c then opE P o e k w else k undef w
@[go_sem] theorem gopX_true:gopX true P o e k w=opE P o e k w:=byDef rfl
@[go_sem] theorem gopX_false:gopX false P o e k w=k undef w:=byDef rfl
@[go_sem ↓] theorem gopE_some {b:Bool} {j:Nat}:gopE P l.toArray { dst:=d,op,type:=ty,pos,after:=af,guard:=some (j,b) } e k w=gopX (wantO (slotOf l j) e b) P { dst:=d,op,type:=ty,pos,after:=af,guard:=some (j,b) } e k w:=by
 rw [← want_some]; exact byDef rfl
@[go_sem ↓] theorem drF_at:drF P C t L d e v w=drG P C t L (put e d v) w:=byDef rfl
@[go_sem ↓] theorem drH_at:drH P C i o t L e v w=drG P C t ((i,fun w2=>gopE P C.ops o e (fun v2 _=>v2=v) w2) :: L) (put e o.dst v) w:=byDef rfl
@[go_sem ↓] theorem drK_at:drK P C ks t L d e v w=(presE ks L w∧drG P C t L (put e d v) w):=byDef rfl
@[go_sem ↓] theorem presE_cons {G:World→Prop}:presE ks ((i,G) :: L) w=((if i ∈ ks then G w else True)∧presE ks L w):=by simp [presE]
@[go_sem ↓] theorem presE_nil:presE ks [] w=True:=byDef rfl
end trees
attribute [go_sem] List.getElem?_cons_zero List.getElem?_cons_succ true_and and_true
end ops
@[go_sem] theorem ev_tmp (e:Env) (t:Nat):ev e (.tmp t)=e t:=byDef rfl
@[go_sem] theorem ev_const (e:Env) (v:Value):ev e (.const v)=v:=byDef rfl
@[go_sem] theorem ev_func (e:Env) (f:Nat):ev e (.func f) = .func (.func f) #[] #[]:=byDef rfl
@[go_sem] theorem put_at (e:Env) (d:Nat) (v:Value) (i:Nat):put e (some d) v i=if i=d then v else e i:=byDef rfl
@[go_sem] theorem put_no (e:Env) (v:Value) (i:Nat):put e none v i=e i:=byDef rfl
@[go_sem] theorem env0_at (l:List Value) (i:Nat):env0 l.toArray i=l.getD i undef:=by simp [env0]
@[go_sem] theorem puts_cons (e:Env) (j:Nat) (v:Value) (l:List (Nat × Value)) (i:Nat):puts e ((j,v) :: l) i=if i=j then v else puts e l i:=byDef rfl
@[go_sem] theorem agree_nil (e:Env):agree e []=True:=byDef rfl
@[go_sem] theorem agree_cons (e:Env) (i:Nat) (v:Value) (l:List (Nat × Value)):agree e ((i,v) :: l)=(e i=v∧agree e l):=byDef rfl
attribute [go_sem] List.getD_cons_zero List.getD_cons_succ List.getD_nil
def pickE (c a b:Value) (q:Value→Prop):Prop:=boolE c fun t=>q (if t then a else b)
section op
variable {P:Program} {e:Env} {k:Kont} {w:World} {d:Option Tmp} {ty:TypeId} {pos:String} {af:Array Edge} {g:Option (Nat × Bool)}
@[go_sem ↓] theorem opE_move {x:Operand}:opE P { dst:=d,op := .move x,type:=ty,pos,after:=af,guard:=g } e k w=k (ev e x) w:=byDef rfl
@[go_sem ↓] theorem opE_assign {x:Operand}:opE P { dst:=d,op := .assign x,type:=ty,pos,after:=af,guard:=g } e k w=k (ev e x) w:=byDef rfl
@[go_sem ↓] theorem opE_pick {c a b:Operand}:opE P { dst:=d,op := .pick c a b,type:=ty,pos,after:=af,guard:=g } e k w=pickE (ev e c) (ev e a) (ev e b) (atW k w):=byDef rfl
@[go_sem ↓] theorem opE_load {t:TypeId} {a:Operand}:opE P { dst:=d,op := .load t a,type:=ty,pos,after:=af,guard:=g } e k w=loadE P t (ev e a) k w:=byDef rfl
@[go_sem ↓] theorem opE_store {t:TypeId} {a x:Operand}:opE P { dst:=d,op := .store t a x,type:=ty,pos,after:=af,guard:=g } e k w=storeE P t (ev e a) (ev e x) k w:=byDef rfl
@[go_sem ↓] theorem opE_nilCheck {x:Operand}:opE P { dst:=d,op := .nilCheck x,type:=ty,pos,after:=af,guard:=g } e k w=nilE (ev e x) (atW k w):=byDef rfl
@[go_sem ↓] theorem opE_fieldAddr {t:TypeId} {x:Operand} {f:Nat}:opE P { dst:=d,op := .fieldAddr t x f,type:=ty,pos,after:=af,guard:=g } e k w=fieldAddrE (offP P t f) (ev e x) (atW k w):=byDef rfl
@[go_sem ↓] theorem opE_field {t:TypeId} {x:Operand} {f:Nat}:opE P { dst:=d,op := .field t x f,type:=ty,pos,after:=af,guard:=g } e k w=fieldE P t f (ev e x) (atW k w):=byDef rfl
@[go_sem ↓] theorem opE_indexAddr {t:TypeId} {x i:Operand}:opE P { dst:=d,op := .indexAddr t x i,type:=ty,pos,after:=af,guard:=g } e k w=indexAddrE P t (ev e x) (ev e i) (atW k w):=byDef rfl
@[go_sem ↓] theorem opE_index {t:TypeId} {x i:Operand}:opE P { dst:=d,op := .index t x i,type:=ty,pos,after:=af,guard:=g } e k w=indexE P t (ev e x) (ev e i) (atW k w):=byDef rfl
@[go_sem ↓] theorem opE_binOp {t yt:TypeId} {op:BinOp} {x y:Operand}:opE P { dst:=d,op := .binOp op t x y yt,type:=ty,pos,after:=af,guard:=g } e k w=binE P op t x y (ev e x) (ev e y) (atW k w):=byDef rfl
@[go_sem ↓] theorem opE_unOp {t:TypeId} {op:UnOp} {x:Operand}:opE P { dst:=d,op := .unOp op t x,type:=ty,pos,after:=af,guard:=g } e k w=unE op (ev e x) (atW k w):=byDef rfl
@[go_sem ↓] theorem opE_extract {x:Operand} {i:Nat}:opE P { dst:=d,op := .extract x i,type:=ty,pos,after:=af,guard:=g } e k w=extractE (ev e x) i (atW k w):=byDef rfl
@[go_sem ↓] theorem opE_makeInterface {t:TypeId} {x:Operand}:opE P { dst:=d,op := .makeInterface t x,type:=ty,pos,after:=af,guard:=g } e k w=mkIfaceE P t (ev e x) (atW k w):=byDef rfl
@[go_sem ↓] theorem opE_makeFunc {fn:Fn} {a b:Array Operand}:opE P { dst:=d,op := .makeFunc fn a b,type:=ty,pos,after:=af,guard:=g } e k w=k (.func fn (a.map (ev e)) (b.map (ev e))) w:=byDef rfl
@[go_sem ↓] theorem opE_alloc {t:TypeId}:opE P { dst:=d,op := .alloc t,type:=ty,pos,after:=af,guard:=g } e k w=semE P (Instr.alloc t true (.tuple #[])) k w:=byDef rfl
@[go_sem ↓] theorem opE_box {t:TypeId} {x:Operand}:opE P { dst:=d,op := .box t x,type:=ty,pos,after:=af,guard:=g } e k w=semE P (Instr.box t (ev e x)) k w:=byDef rfl
@[go_sem ↓] theorem opE_build {t:TypeId} {ps:Array (Nat × Operand)}:opE P { dst:=d,op := .build t ps,type:=ty,pos,after:=af,guard:=g } e k w=buildE P t (ps.map fun (i,x)=>(i,ev e x)) (atW k w):=byDef rfl
@[go_sem ↓] theorem opE_convert {s t:TypeId} {x:Operand}:opE P { dst:=d,op := .convert s t x,type:=ty,pos,after:=af,guard:=g } e k w=convE P s t (ev e x) k w:=byDef rfl
@[go_sem ↓] theorem opE_slice {t:TypeId} {x:Operand} {lo hi mx:Option Operand}:opE P { dst:=d,op := .slice t x lo hi mx,type:=ty,pos,after:=af,guard:=g } e k w=sliceE P t (ev e x) (lo.map (ev e)) (hi.map (ev e)) (mx.map (ev e)) (atW k w):=byDef rfl
@[go_sem ↓] theorem opE_call {f:Operand} {args:Array Operand} {ats:Array TypeId}:opE P { dst:=d,op := .call { callee := .value f,args,argTypes:=ats },type:=ty,pos,after:=af,guard:=g } e k w=callE P (ev e f) (args.map (ev e)) k w:=byDef rfl
@[go_sem ↓] theorem opE_invoke {r:Operand} {m:String} {args:Array Operand} {ats:Array TypeId}:opE P { dst:=d,op := .call { callee := .invoke r m,args,argTypes:=ats },type:=ty,pos,after:=af,guard:=g } e k w=invokeE P (ev e r) m (args.map (ev e)) k w:=byDef rfl
@[go_sem ↓] theorem opE_len {x:Operand} {t:TypeId}:opE P { dst:=d,op := .call { callee := .builtin .len,args := #[x],argTypes := #[t] },type:=ty,pos,after:=af,guard:=g } e k w=lenE P (some t) (some (ev e x)) (atW k w):=by
 simp only [opE,builtinE,List.map_toArray,List.map_cons,List.map_nil,List.getElem?_toArray,List.getElem?_cons_zero]; rfl
@[go_sem ↓] theorem opE_cap {x:Operand} {t:TypeId}:opE P { dst:=d,op := .call { callee := .builtin .cap,args := #[x],argTypes := #[t] },type:=ty,pos,after:=af,guard:=g } e k w=capE P (some t) (some (ev e x)) (atW k w):=by
 simp only [opE,builtinE,List.map_toArray,List.map_cons,List.map_nil,List.getElem?_toArray,List.getElem?_cons_zero]; rfl
end op
section cells
variable {w:World} {b b' o o':Nat} {v:Value} {ob:Obj}
@[go_sem] theorem cell_self:(w.setCell ⟨b,o,none⟩ v).cell? ⟨b,o,none⟩=(w.cell? ⟨b,o,none⟩).map fun _=>v:=by
 cases h:w.cell? ⟨b,o,none⟩ with
 | some x=>rw [World.cell?_setCell_same w _ v h]; rfl
 | none =>
  simp only [World.cell?,World.setCell,Array.getElem?_modify,if_true] at h ⊢
  cases hb:w.heap[b]? with
  | none=>rfl
  | some x=>cases x <;> simp_all
@[go_sem] theorem cell_off (h:o≠o'):(w.setCell ⟨b,o,none⟩ v).cell? ⟨b',o',none⟩=w.cell? ⟨b',o',none⟩:=World.cell?_setCell_other w _ _ v (fun he=>h (by cases he; rfl))
@[go_sem] theorem cell_blk (h:b≠b'):(w.setCell ⟨b,o,none⟩ v).cell? ⟨b',o',none⟩=w.cell? ⟨b',o',none⟩:=World.cell?_setCell_other w _ _ v (fun he=>h (by cases he; rfl))
attribute [go_sem] World.frozen?_setCell World.size_setCell World.size_alloc World.size_drew World.cell?_drew World.frozen?_drew Option.map_some List.map_toArray List.map_cons List.map_nil
end cells
@[go_sem] theorem arr_append_nil (a:Array Value):a ++ #[]=a:=by simp
@[go_sem] theorem arr_nil_append (a:Array Value) : #[]++a=a:=by simp
@[go_sem] theorem arr_one_append (x:Value) (l:List Value) : #[x]++l.toArray=(x :: l).toArray:=by simp
attribute [go_sem] List.size_toArray List.length_cons List.length_nil List.cons_append List.nil_append
def optV (o:Option Value) (q:Value→Prop):Prop:=optE o q
@[go_sem] theorem optV_some (v:Value) (q:Value→Prop):optV (some v) q=q v:=byDef rfl
def optW (o:Option Value) (k:Kont) (w:World):Prop:=optE o fun v=>k v w
@[go_sem] theorem optW_some (v:Value) (k:Kont) (w:World):optW (some v) k w=k v w:=byDef rfl
def loadA (a:Addr) (i n:Nat) (acc:List Value) (k:Kont) (w:World):Prop:=loadL w a i n fun vs=>k (.agg (acc++vs).toArray) w
def loadN (o:Option Value) (a:Addr) (i n:Nat) (acc:List Value) (k:Kont) (w:World):Prop:=optE o fun v=>loadA a (i+1) n (acc++[v]) k w
@[go_sem] theorem loadN_some (v:Value) (a:Addr) (i n:Nat) (acc:List Value) (k:Kont) (w:World):loadN (some v) a i n acc k w=loadA a (i+1) n (acc++[v]) k w:=byDef rfl
def stA (a:Addr) (i:Nat) (vs:List Value) (k:Kont) (w:World):Prop:=storeL w a i vs fun w'=>k undef w'
def stN (o:Option Value) (fz:Bool) (v:Value) (a:Addr) (i:Nat) (vs:List Value) (k:Kont) (w:World):Prop:=st1 o fz v (stA a (i+1) vs k (w.setCell (a.add i) v))
def bd (o:Option Value) (d:Int):Int:=match o with
 | some (.int _ i)=>i
 | _=>d
def okB (o:Option Value):Bool:=match o with
 | none=>true
 | some (.int _ _)=>true
 | some _=>false
@[go_sem] theorem bd_none (d:Int):bd none d=d:=byDef rfl
theorem boundE_none {d:Int} {q:Int→Prop}:boundE none d q=q d:=rfl
theorem boundE_bd {o:Option Value} {d:Int} {q:Int→Prop} (h:okB o=true):boundE o d q=q (bd o d):=by
 unfold okB at h
 split at h <;> first | rfl | simp at h
section vals
variable {P:Program} {k:Kont} {w:World} {q:Value→Prop}
def ldS (x:Value) (k:Kont) (w:World):Prop:=match x with
 | .pointer (some a)=>optW (w.cell? a) k w
 | _=>False
def ldM (n:Nat) (x:Value) (k:Kont) (w:World):Prop:=match x with
 | .pointer (some a)=>loadA a 0 n [] k w
 | _=>False
theorem ldS_of {t:TypeId} {x:Value} (h:scalarP P t=true):loadE P t x k w=ldS x k w:=by
 unfold ldS; split
 ·simp [loadE,h,optW]
 ·unfold loadE; split
  ·simp_all
  ·rfl
theorem ldM_of {t:TypeId} {x:Value} {n:Nat} (h:szP P t=some n) (ha:aggP P t=true):loadE P t x k w=ldM n x k w:=by
 have hs:scalarP P t=false:=by
  unfold aggP at ha; unfold scalarP; split at ha <;> simp_all
 unfold ldM; split
 ·simp [loadE,hs,ha,h,loadA]
 ·unfold loadE; split
  ·simp_all
  ·rfl
@[go_sem] theorem ldS_at {a:Addr}:ldS (.pointer (some a)) k w=optW (w.cell? a) k w:=byDef rfl
@[go_sem] theorem ldM_at {n:Nat} {a:Addr}:ldM n (.pointer (some a)) k w=loadA a 0 n [] k w:=byDef rfl
def stS (n:Nat) (x v:Value) (k:Kont) (w:World):Prop:=match x with
 | .pointer (some a)=>v.cells.size=n∧stA a 0 v.cells.toList k w
 | _=>False
theorem stS_of {t:TypeId} {x v:Value} {n:Nat} (h:szP P t=some n):storeE P t x v k w=stS n x v k w:=by
 unfold stS; split
 ·simp only [storeE,h,guardE,stA,Option.some.injEq,eq_comm]
 ·unfold storeE; split
  ·simp_all
  ·rfl
@[go_sem] theorem stS_int {a:Addr} {kd:IntKind} {n:Int}:stS 1 (.pointer (some a)) (.int kd n) k w=stA a 0 [.int kd n] k w:=by simp [stS,Value.cells]
@[go_sem] theorem stS_bool {a:Addr} {b:Bool}:stS 1 (.pointer (some a)) (.bool b) k w=stA a 0 [.bool b] k w:=by simp [stS,Value.cells]
@[go_sem] theorem stS_string {a:Addr} {s:ByteArray}:stS 1 (.pointer (some a)) (.string s) k w=stA a 0 [.string s] k w:=by simp [stS,Value.cells]
@[go_sem] theorem stS_pointer {a:Addr} {p:Option Addr}:stS 1 (.pointer (some a)) (.pointer p) k w=stA a 0 [.pointer p] k w:=by simp [stS,Value.cells]
@[go_sem] theorem stS_slice {a:Addr} {p:Option Addr} {l c:Nat}:stS 1 (.pointer (some a)) (.slice p l c) k w=stA a 0 [.slice p l c] k w:=by simp [stS,Value.cells]
@[go_sem] theorem stS_func {a:Addr} {f:Fn} {x y:Array Value}:stS 1 (.pointer (some a)) (.func f x y) k w=stA a 0 [.func f x y] k w:=by simp [stS,Value.cells]
@[go_sem] theorem stS_nilIface {a:Addr}:stS 1 (.pointer (some a)) .nilIface k w=stA a 0 [.nilIface] k w:=by simp [stS,Value.cells]
@[go_sem] theorem stS_agg {n:Nat} {a:Addr} {l:List Value} (h:l.length=n):stS n (.pointer (some a)) (.agg l.toArray) k w=stA a 0 l k w:=by simp [stS,Value.cells,h]
@[go_sem ↓] theorem loadA_zero {a:Addr} {i:Nat} {acc:List Value}:loadA a i 0 acc k w=k (.agg acc.toArray) w:=by simp [loadA,loadL]
@[go_sem ↓] theorem loadA_succ {a:Addr} {i n:Nat} {acc:List Value}:loadA a i (n+1) acc k w=loadN (w.cell? (a.add i)) a i n acc k w:=by simp [loadA,loadL,loadN]
@[go_sem ↓] theorem stA_nil {a:Addr} {i:Nat}:stA a i [] k w=k undef w:=byDef rfl
@[go_sem ↓] theorem stA_cons {a:Addr} {i:Nat} {v:Value} {vs:List Value}:stA a i (v :: vs) k w=stN (w.cell? (a.add i)) (w.frozen? (a.add i)) v a i vs k w:=byDef rfl
@[go_sem] theorem stN_int {a:Addr} {i:Nat} {x:Value} {kd:IntKind} {n:Int} {vs:List Value}:stN (some x) false (.int kd n) a i vs k w=stA a (i+1) vs k (w.setCell (a.add i) (.int kd n)):=by
 simp [stN,st1,Value.oneCell']
@[go_sem] theorem stN_bool {a:Addr} {i:Nat} {x:Value} {b:Bool} {vs:List Value}:stN (some x) false (.bool b) a i vs k w=stA a (i+1) vs k (w.setCell (a.add i) (.bool b)):=by
 simp [stN,st1,Value.oneCell']
@[go_sem] theorem stN_string {a:Addr} {i:Nat} {x:Value} {s:ByteArray} {vs:List Value}:stN (some x) false (.string s) a i vs k w=stA a (i+1) vs k (w.setCell (a.add i) (.string s)):=by
 simp [stN,st1,Value.oneCell']
@[go_sem] theorem stN_pointer {a:Addr} {i:Nat} {x:Value} {p:Option Addr} {vs:List Value}:stN (some x) false (.pointer p) a i vs k w=stA a (i+1) vs k (w.setCell (a.add i) (.pointer p)):=by
 simp [stN,st1,Value.oneCell']
@[go_sem] theorem stN_slice {a:Addr} {i:Nat} {x:Value} {p:Option Addr} {l c:Nat} {vs:List Value}:stN (some x) false (.slice p l c) a i vs k w=stA a (i+1) vs k (w.setCell (a.add i) (.slice p l c)):=by
 simp [stN,st1,Value.oneCell']
@[go_sem] theorem stN_func {a:Addr} {i:Nat} {x:Value} {f:Fn} {y z:Array Value} {vs:List Value}:stN (some x) false (.func f y z) a i vs k w=stA a (i+1) vs k (w.setCell (a.add i) (.func f y z)):=by
 simp [stN,st1,Value.oneCell']
@[go_sem] theorem stN_iface {a:Addr} {i:Nat} {x:Value} {t:TypeId} {v:Value} {vs:List Value}:stN (some x) false (.iface t v) a i vs k w=stA a (i+1) vs k (w.setCell (a.add i) (.iface t v)):=by
 simp [stN,st1,Value.oneCell']
@[go_sem] theorem stN_nilIface {a:Addr} {i:Nat} {x:Value}  {vs:List Value}:stN (some x) false .nilIface a i vs k w=stA a (i+1) vs k (w.setCell (a.add i) .nilIface):=by
 simp [stN,st1,Value.oneCell']
@[go_sem] theorem nilE_ptr {a:Addr}:nilE (.pointer (some a)) q=q (.pointer (some a)):=byDef rfl
@[go_sem] theorem nilE_iface {t:TypeId} {v:Value}:nilE (.iface t v) q=q (.iface t v):=byDef rfl
@[go_sem] theorem fieldAddrE_at {o:Nat} {a:Addr}:fieldAddrE (some o) (.pointer (some a)) q=q (.pointer (some (a.add o))):=byDef rfl
def ixS (n:Nat) (x i:Value) (q:Value→Prop):Prop:=match x,i with
 | .slice (some a) len _,.int _ i=>(0≤i∧i < len)∧q (.pointer (some (a.add (i.toNat * n))))
 | _,_=>False
theorem ixS_of {t:TypeId} {x i:Value} {n:Nat} (h:eszP P t=some n):indexAddrE P t x i q=ixS n x i q:=by
 unfold ixS indexAddrE
 rw [h]
 cases x <;> try rfl
 rename_i a l c
 cases a <;> try rfl
 cases i <;> rfl
@[go_sem] theorem ixS_at {n:Nat} {a:Addr} {len cap:Nat} {kd:IntKind} {i:Int} (h0:0≤i) (h1:i < len):ixS n (.slice (some a) len cap) (.int kd i) q=q (.pointer (some (a.add (i.toNat * n)))):=by simp [ixS,h0,h1]
@[go_sem] theorem pickE_true {a b:Value}:pickE (.bool true) a b q=q a:=byDef rfl
@[go_sem] theorem pickE_false {a b:Value}:pickE (.bool false) a b q=q b:=byDef rfl
@[go_sem] theorem extractE_at {vs:Array Value} {i:Nat}:extractE (.tuple vs) i q=optV vs[i]? q:=byDef rfl
@[go_sem] theorem unE_not {b:Bool}:unE .not (.bool b) q=q (.bool !b):=byDef rfl
section bin
variable {t:TypeId} {xo yo:Operand} {kd:IntKind} {a b:Int}
@[go_sem] theorem binE_add:binE P .add t xo yo (.int kd a) (.int kd b) q=q (.int kd (kd.wrap (a+b))):=by simp [binE,isShift,intE]
@[go_sem] theorem binE_sub:binE P .sub t xo yo (.int kd a) (.int kd b) q=q (.int kd (kd.wrap (a - b))):=by simp [binE,isShift,intE]
@[go_sem] theorem binE_mul:binE P .mul t xo yo (.int kd a) (.int kd b) q=q (.int kd (kd.wrap (a * b))):=by simp [binE,isShift,intE]
@[go_sem] theorem binE_quo (h:b≠0):binE P .quo t xo yo (.int kd a) (.int kd b) q=q (.int kd (kd.wrap (a.tdiv b))):=by simp [binE,isShift,intE,guardE,h]
@[go_sem] theorem binE_and:binE P .and t xo yo (.int kd a) (.int kd b) q=q (.int kd (kd.wrap (BitVec.ofInt kd.bits a &&& BitVec.ofInt kd.bits b).toNat)):=by simp only [binE,isShift,intE,Bool.false_eq_true,if_false,if_true]
@[go_sem] theorem binE_xor:binE P .xor t xo yo (.int kd a) (.int kd b) q=q (.int kd (kd.wrap (BitVec.ofInt kd.bits a ^^^ BitVec.ofInt kd.bits b).toNat)):=by simp only [binE,isShift,intE,Bool.false_eq_true,if_false,if_true]
@[go_sem] theorem binE_eql:binE P .eql t xo yo (.int kd a) (.int kd b) q=q (.bool (a == b)):=by simp [binE,isShift,intE]
@[go_sem] theorem binE_neq:binE P .neq t xo yo (.int kd a) (.int kd b) q=q (.bool (a != b)):=by simp [binE,isShift,intE]
@[go_sem] theorem binE_lss:binE P .lss t xo yo (.int kd a) (.int kd b) q=q (.bool (decide (a < b))):=by simp [binE,isShift,intE]
@[go_sem] theorem binE_leq:binE P .leq t xo yo (.int kd a) (.int kd b) q=q (.bool (decide (a≤b))):=by simp [binE,isShift,intE]
@[go_sem] theorem binE_gtr:binE P .gtr t xo yo (.int kd a) (.int kd b) q=q (.bool (decide (b < a))):=by simp [binE,isShift,intE]
@[go_sem] theorem binE_geq:binE P .geq t xo yo (.int kd a) (.int kd b) q=q (.bool (decide (b≤a))):=by simp [binE,isShift,intE]
@[go_sem] theorem binE_shl {k2:IntKind} (h:0≤b):binE P .shl t xo yo (.int kd a) (.int k2 b) q=q (.int kd (kd.wrap (a * 2 ^ (min b.toNat kd.bits)))):=by simp [binE,isShift,shiftE,guardE,h]
@[go_sem] theorem binE_shr {k2:IntKind} (h:0≤b):binE P .shr t xo yo (.int kd a) (.int k2 b) q=q (.int kd (a.fdiv (2 ^ (min b.toNat kd.bits)))):=by simp [binE,isShift,shiftE,guardE,h]
variable {s u:ByteArray}
@[go_sem] theorem binE_str {op:BinOp}:binE P op t xo yo (.string s) (.string u) q=strE op s u q:=byDef rfl
@[go_sem] theorem strE_eql:strE .eql s u q=q (.bool (s.toList == u.toList)):=byDef rfl
@[go_sem] theorem strE_neq:strE .neq s u q=q (.bool (!(s.toList == u.toList))):=byDef rfl
@[go_sem] theorem strE_lss:strE .lss s u q=q (.bool (Op.bytesLess s.toList u.toList)):=byDef rfl
@[go_sem] theorem strE_leq:strE .leq s u q=q (.bool (Op.bytesLess s.toList u.toList || s.toList == u.toList)):=byDef rfl
@[go_sem] theorem strE_gtr:strE .gtr s u q=q (.bool (!(Op.bytesLess s.toList u.toList || s.toList == u.toList))):=byDef rfl
@[go_sem] theorem strE_geq:strE .geq s u q=q (.bool (!(Op.bytesLess s.toList u.toList))):=byDef rfl
def kindP (P:Program) (t:TypeId):Nat :=
 match P.underlying t with
 | some (.interface _)=>1
 | some .bool=>2
 | some (.pointer _)=>3
 | some (.slice _)=>4
 | some .string=>5
 | _=>0
theorem kind_iface (h:kindP P t=1):ifaceP P t=true:=by unfold kindP at h; unfold ifaceP; split at h <;> simp_all
theorem kind_bool (h:kindP P t=2):P.underlying t=some .bool:=by unfold kindP at h; split at h <;> simp_all
theorem kind_ptr (h:kindP P t=3):∃ el,P.underlying t=some (.pointer el):=by unfold kindP at h; split at h <;> simp_all
theorem kind_slice (h:kindP P t=4):∃ el,P.underlying t=some (.slice el):=by unfold kindP at h; split at h <;> simp_all
theorem binE_eq_nil_nil {c:Value} (h:kindP P t=1):binE P .eql t xo (.const c) .nilIface .nilIface q=q (.bool true):=by simp [binE,eqE,guardE,kind_iface h,isConstO]
theorem binE_ne_nil_nil {c:Value} (h:kindP P t=1):binE P .neq t xo (.const c) .nilIface .nilIface q=q (.bool false):=by simp [binE,eqE,guardE,kind_iface h,isConstO]
theorem binE_eq_bool {x y:Bool} (h:kindP P t=2):binE P .eql t xo yo (.bool x) (.bool y) q=q (.bool (x == y)):=by simp [binE,eqE,guardE,kind_bool h]
theorem binE_ne_bool {x y:Bool} (h:kindP P t=2):binE P .neq t xo yo (.bool x) (.bool y) q=q (.bool (!(x == y))):=by simp [binE,eqE,guardE,kind_bool h]
theorem binE_eq_ptr_nil {x:Option Addr} (h:kindP P t=3):binE P .eql t xo yo (.pointer x) (.pointer none) q=q (.bool x.isNone):=by
 obtain ⟨el,he⟩:=kind_ptr h
 cases x <;> simp [binE,eqE,guardE,he]
theorem binE_ne_ptr_nil {x:Option Addr} (h:kindP P t=3):binE P .neq t xo yo (.pointer x) (.pointer none) q=q (.bool x.isSome):=by
 obtain ⟨el,he⟩:=kind_ptr h
 cases x <;> simp [binE,eqE,guardE,he]
theorem binE_eq_slice_nil {x:Option Addr} {l c l' c':Nat} (h:kindP P t=4):binE P .eql t xo yo (.slice x l c) (.slice none l' c') q=q (.bool x.isNone):=by
 obtain ⟨el,he⟩:=kind_slice h
 cases x <;> simp [binE,eqE,guardE,he]
theorem binE_ne_slice_nil {x:Option Addr} {l c l' c':Nat} (h:kindP P t=4):binE P .neq t xo yo (.slice x l c) (.slice none l' c') q=q (.bool x.isSome):=by
 obtain ⟨el,he⟩:=kind_slice h
 cases x <;> simp [binE,eqE,guardE,he]
end bin
theorem callE_at {f:FuncId} {args a b:Array Value} (h:entersP P f=true):callE P (.func (.func f) a b) args k w=callK P f (a++args++b) k w:=by simp [callE,h]
theorem callE_ext {f:FuncId} {args a b:Array Value} {s:Array Value→Sem Value} (h:externP P f=some s):callE P (.func (.func f) a b) args k w=semE P (s (a++args++b)) k w:=by
 have he:entersP P f=false:=by
  unfold externP at h; unfold entersP
  split at h
  ·split at h
   ·simp at h
   ·rename_i hc; simp_all
  ·simp at h
 simp [callE,he,h]
theorem invokeE_at {t:TypeId} {v:Value} {m:String} {args:Array Value} {f:FuncId} (h:methP P t m=some f) (he:entersP P f=true):invokeE P (.iface t v) m args k w=callK P f (#[v]++args) k w:=by simp [invokeE,guardE,h,he]
theorem lenE_slice {t:TypeId} {a:Option Addr} {n c:Nat} (h:kindP P t=4):lenE P (some t) (some (.slice a n c)) q=q (.int .i64 n):=by
 obtain ⟨el,he⟩:=kind_slice h
 simp [lenE,he]
theorem lenE_string {t:TypeId} {s:ByteArray} (h:kindP P t=5):lenE P (some t) (some (.string s)) q=q (.int .i64 s.size):=by
 have he:P.underlying t=some .string:=by unfold kindP at h; split at h <;> simp_all
 simp [lenE,he]
theorem capE_slice {t:TypeId} {a:Option Addr} {n c:Nat} (h:kindP P t=4):capE P (some t) (some (.slice a n c)) q=q (.int .i64 c):=by
 obtain ⟨el,he⟩:=kind_slice h
 simp [capE,he]
theorem sliceE_bd {t:TypeId} {a:Option Addr} {len cap n:Nat} {lo hi mx:Option Value} (h:eszP P t=some n) (o1:okB lo=true) (o2:okB hi=true) (o3:okB mx=true)
    (c1:0≤bd lo 0) (c2:bd lo 0≤bd hi len) (c3:bd hi len≤bd mx cap) (c4:bd mx cap≤cap) (c5:mx.isSome=true→hi.isSome=true) :
    sliceE P t (.slice a len cap) lo hi mx q=q (.slice (if bd mx cap=bd lo 0 then a else a.map (·.add ((bd lo 0).toNat * n))) ((bd hi len).toNat - (bd lo 0).toNat) ((bd mx cap).toNat - (bd lo 0).toNat)):=by
 obtain ⟨el,he,hs⟩:=eszP_eq h
 simp only [sliceE,he,hs,boundE_bd o1,boundE_bd o2,boundE_bd o3,guardE]
 simp [c1,c2,c3,c4]
 exact fun _=>c5
theorem sliceE_head {t:TypeId} {a:Option Addr} {len cap n:Nat} {hi mx:Option Value} (h:eszP P t=some n) (o2:okB hi=true) (o3:okB mx=true)
    (c2:0≤bd hi len) (c3:bd hi len≤bd mx cap) (c4:bd mx cap≤cap) (c5:mx.isSome=true→hi.isSome=true) :
    sliceE P t (.slice a len cap) none hi mx q=q (.slice a (bd hi len).toNat (bd mx cap).toNat):=by
 rw [sliceE_bd h rfl o2 o3 (by simp [bd]) (by simpa [bd] using c2) c3 c4 c5]
 simp only [bd_none]
 cases a <;> simp [Addr.add]
theorem sliceE_from {t:TypeId} {a:Option Addr} {len cap n:Nat} {kd:IntKind} {l:Int} {hi mx:Option Value} (h:eszP P t=some n) (o2:okB hi=true) (o3:okB mx=true)
    (c1:0≤l) (c2:l≤bd hi len) (c3:bd hi len≤bd mx cap) (c4:bd mx cap≤cap) (c5:mx.isSome=true→hi.isSome=true) :
    sliceE P t (.slice a len cap) (some (.int kd l)) hi mx q=q (.slice (if bd mx cap=l then a else a.map (·.add (l.toNat * n))) ((bd hi len).toNat - l.toNat) ((bd mx cap).toNat - l.toNat)) :=
 sliceE_bd h rfl o2 o3 c1 c2 c3 c4 c5
def arrP (P:Program) (t:TypeId):Option (Nat × Nat) :=
 match P.underlying t with
 | some (.array len el)=>(szP P el).map fun n=>(len,n)
 | _=>none
theorem sliceE_arr {t:TypeId} {a:Addr} {len n:Nat} {hi mx:Option Value} (h:arrP P t=some (len,n)) (o2:okB hi=true) (o3:okB mx=true)
    (c2:0≤bd hi len) (c3:bd hi len≤bd mx len) (c4:bd mx len≤len) (c5:mx.isSome=true→hi.isSome=true) :
    sliceE P t (.pointer (some a)) none hi mx q=q (.slice (some a) (bd hi len).toNat (bd mx len).toNat):=by
 unfold arrP at h
 split at h
 ·rename_i len' el hu
  obtain ⟨n',hn,h2⟩:=Option.map_eq_some_iff.1 h
  simp only [Prod.mk.injEq] at h2
  obtain ⟨rfl,rfl⟩:=h2
  simp only [sliceE,hu,hn,boundE_none,boundE_bd o2,boundE_bd o3,guardE]
  have e:(if bd mx ↑len'=0 then a else a.add ((0:Int).toNat * n'))=a:=by split <;> simp [Addr.add]
  rw [e]
  simp [c2,c3,c4]
  exact fun _=>c5
 ·simp at h
end vals
end Go.E
end
section
namespace Go.Proofs
open Go Go.E
theorem Tryz.ar125:arrP Tryz.prog 125=some (10,4):=by kernel_rfl
theorem Tryz.ar129:arrP Tryz.prog 129=some (10,2):=by kernel_rfl
theorem Tryz.es44:eszP Tryz.prog 44=some 3:=by kernel_rfl
theorem Tryz.es66:eszP Tryz.prog 66=some 1:=by kernel_rfl
theorem Tryz.es107:eszP Tryz.prog 107=some 1:=by kernel_rfl
theorem Tryz.es110:eszP Tryz.prog 110=some 3:=by kernel_rfl
theorem Tryz.es159:eszP Tryz.prog 159=some 3:=by kernel_rfl
theorem Tryz.es161:eszP Tryz.prog 161=some 2:=by kernel_rfl
theorem Tryz.es166:eszP Tryz.prog 166=some 1:=by kernel_rfl
theorem Tryz.kd4:kindP Tryz.prog 4=2:=by kernel_rfl
theorem Tryz.kd9:kindP Tryz.prog 9=5:=by kernel_rfl
theorem Tryz.kd116:kindP Tryz.prog 116=1:=by kernel_rfl
theorem Tryz.kd120:kindP Tryz.prog 120=3:=by kernel_rfl
theorem Tryz.kd137:kindP Tryz.prog 137=3:=by kernel_rfl
theorem Tryz.ex131:externP Tryz.prog 131=some Extern.BytealgCompare.compare:=by kernel_rfl
theorem Tryz.mi9 (x:Value) (q:Value→Prop):mkIfaceE Tryz.prog 9 x q=q (.iface 9 x):=by kernel_rfl
theorem Tryz.mi221 (x:Value) (q:Value→Prop):mkIfaceE Tryz.prog 221 x q=q (.iface 221 x):=by kernel_rfl
theorem Tryz.mi224 (x:Value) (q:Value→Prop):mkIfaceE Tryz.prog 224 x q=q (.iface 224 x):=by kernel_rfl
theorem Tryz.mi226 (x:Value) (q:Value→Prop):mkIfaceE Tryz.prog 226 x q=q (.iface 226 x):=by kernel_rfl
theorem Tryz.mi228 (x:Value) (q:Value→Prop):mkIfaceE Tryz.prog 228 x q=q (.iface 228 x):=by kernel_rfl
theorem Tryz.mi229 (x:Value) (q:Value→Prop):mkIfaceE Tryz.prog 229 x q=q (.iface 229 x):=by kernel_rfl
theorem Tryz.mi233 (x:Value) (q:Value→Prop):mkIfaceE Tryz.prog 233 x q=q (.iface 233 x):=by kernel_rfl
theorem Tryz.mi249 (x:Value) (q:Value→Prop):mkIfaceE Tryz.prog 249 x q=q (.iface 249 x):=by kernel_rfl
theorem Tryz.mi252 (x:Value) (q:Value→Prop):mkIfaceE Tryz.prog 252 x q=q (.iface 252 x):=by kernel_rfl
theorem Tryz.mi262 (x:Value) (q:Value→Prop):mkIfaceE Tryz.prog 262 x q=q (.iface 262 x):=by kernel_rfl
theorem Tryz.mi263 (x:Value) (q:Value→Prop):mkIfaceE Tryz.prog 263 x q=q (.iface 263 x):=by kernel_rfl
theorem Tryz.mi274 (x:Value) (q:Value→Prop):mkIfaceE Tryz.prog 274 x q=q (.iface 274 x):=by kernel_rfl
theorem Tryz.mi327 (x:Value) (q:Value→Prop):mkIfaceE Tryz.prog 327 x q=q (.iface 327 x):=by kernel_rfl
@[go_sem] theorem Tryz.qa4 {xo yo:Operand} {x y:Bool} {q:Value→Prop}:binE Tryz.prog .eql 4 xo yo (.bool x) (.bool y) q=q (.bool (x == y)):=binE_eq_bool Tryz.kd4
@[go_sem] theorem Tryz.qb4 {xo yo:Operand} {x y:Bool} {q:Value→Prop}:binE Tryz.prog .neq 4 xo yo (.bool x) (.bool y) q=q (.bool (!(x == y))):=binE_ne_bool Tryz.kd4
@[go_sem] theorem Tryz.le9 {s:ByteArray} {q:Value→Prop}:lenE Tryz.prog (some 9) (some (.string s)) q=q (.int .i64 s.size):=lenE_string Tryz.kd9
@[go_sem] theorem Tryz.qa116 {xo:Operand} {c:Value} {q:Value→Prop}:binE Tryz.prog .eql 116 xo (.const c) .nilIface .nilIface q=q (.bool true):=binE_eq_nil_nil Tryz.kd116
@[go_sem] theorem Tryz.qb116 {xo:Operand} {c:Value} {q:Value→Prop}:binE Tryz.prog .neq 116 xo (.const c) .nilIface .nilIface q=q (.bool false):=binE_ne_nil_nil Tryz.kd116
@[go_sem] theorem Tryz.qa120 {xo yo:Operand} {x:Option Addr} {q:Value→Prop}:binE Tryz.prog .eql 120 xo yo (.pointer x) (.pointer none) q=q (.bool x.isNone):=binE_eq_ptr_nil Tryz.kd120
@[go_sem] theorem Tryz.qb120 {xo yo:Operand} {x:Option Addr} {q:Value→Prop}:binE Tryz.prog .neq 120 xo yo (.pointer x) (.pointer none) q=q (.bool x.isSome):=binE_ne_ptr_nil Tryz.kd120
@[go_sem] theorem Tryz.qb137 {xo yo:Operand} {x:Option Addr} {q:Value→Prop}:binE Tryz.prog .neq 137 xo yo (.pointer x) (.pointer none) q=q (.bool x.isSome):=binE_ne_ptr_nil Tryz.kd137
@[go_sem] theorem Tryz.cl131 {args a b:Array Value} {k:Kont} {w:World}:callE Tryz.prog (.func (.func 131) a b) args k w=semE Tryz.prog (Extern.BytealgCompare.compare (a++args++b)) k w:=callE_ext Tryz.ex131
attribute [go_sem] Tryz.mi9 Tryz.mi221 Tryz.mi224 Tryz.mi226 Tryz.mi228 Tryz.mi229 Tryz.mi233 Tryz.mi249 Tryz.mi252 Tryz.mi262 Tryz.mi263 Tryz.mi274 Tryz.mi327
theorem Tryz.mix:Tryz.prog.follows .mixedOrders=true:=by kernel_rfl
abbrev CL (f:FuncId):Prop:=∀ {x a b:Array Value} {k:Kont} {w:World},callE Tryz.prog (.func (.func f) a b) x k w=callK Tryz.prog f (a++x++b) k w
theorem clK {f:FuncId} (h:entersP Tryz.prog f=true:=by kernel_rfl):CL f:=callE_at h
@[go_sem] theorem clAll:CL 13∧CL 14∧CL 15∧CL 16∧CL 17∧CL 18∧CL 19∧CL 20∧CL 21∧CL 22∧CL 23∧CL 24∧CL 25∧CL 26∧CL 27∧CL 28∧CL 29∧CL 30∧CL 31∧CL 32∧CL 33∧CL 34∧CL 35∧CL 36∧CL 37∧CL 38∧CL 39∧CL 40∧CL 41∧CL 44∧CL 48∧CL 53∧CL 55∧CL 56∧CL 57∧CL 58∧CL 59∧CL 60∧CL 61∧CL 62∧CL 63∧CL 64∧CL 65∧CL 66∧CL 67∧CL 68∧CL 69∧CL 70∧CL 71∧CL 72∧CL 73∧CL 74∧CL 75∧CL 76∧CL 79∧CL 84∧CL 86∧CL 88∧CL 89∧CL 91∧CL 92∧CL 93∧CL 94∧CL 95∧CL 96∧CL 97∧CL 98∧CL 99∧CL 101∧CL 102∧CL 103∧CL 110∧CL 111∧CL 112∧CL 113∧CL 122∧CL 123∧CL 124∧CL 126∧CL 127∧CL 128∧CL 129∧CL 130∧CL 134∧CL 137∧CL 138∧CL 139∧CL 140∧CL 141∧CL 142∧CL 143∧CL 147∧CL 149∧CL 150∧CL 151∧CL 152∧CL 153∧CL 154∧CL 155∧CL 156∧CL 157∧CL 158∧CL 159∧CL 160∧CL 161∧CL 162∧CL 163∧CL 164∧CL 165∧CL 166∧CL 167∧CL 168∧CL 186∧CL 187∧CL 188∧CL 200∧CL 201∧CL 202∧CL 203∧CL 204∧CL 205∧CL 206∧CL 207∧CL 208∧CL 209∧CL 210∧CL 211∧CL 212∧CL 213∧CL 214∧CL 215∧CL 216∧CL 218∧CL 219∧CL 220∧CL 221∧CL 224∧CL 225∧CL 226∧CL 227∧CL 236∧CL 237∧CL 238∧CL 239∧CL 249∧CL 250∧CL 251∧CL 252∧CL 253∧CL 254∧CL 255∧CL 256:=by and_intros <;> exact clK
abbrev LD (t:TypeId):Prop:=∀ {x:Value} {k:Kont} {w:World},loadE Tryz.prog t x k w=ldS x k w
theorem ldK {t:TypeId} (h:scalarP Tryz.prog t=true:=by kernel_rfl):LD t:=ldS_of h
@[go_sem] theorem ldAll:LD 3∧LD 4∧LD 5∧LD 9∧LD 23∧LD 28∧LD 44∧LD 54∧LD 66∧LD 74∧LD 105∧LD 106∧LD 107∧LD 109∧LD 110∧LD 111∧LD 112∧LD 116∧LD 118∧LD 119∧LD 120∧LD 126∧LD 134∧LD 136∧LD 137∧LD 139∧LD 142∧LD 144∧LD 145∧LD 147∧LD 149∧LD 152∧LD 159∧LD 160∧LD 161∧LD 166∧LD 195∧LD 292:=by and_intros <;> exact ldK
abbrev LM (t:TypeId) (n:Nat):Prop:=∀ {x:Value} {k:Kont} {w:World},loadE Tryz.prog t x k w=ldM n x k w
theorem lmK {t:TypeId} {n:Nat} (h:szP Tryz.prog t=some n:=by kernel_rfl) (h2:aggP Tryz.prog t=true:=by kernel_rfl):LM t n:=ldM_of h h2
@[go_sem] theorem lmAll:LM 31 2∧LM 37 2∧LM 46 3∧LM 53 2∧LM 56 3∧LM 58 5∧LM 62 3∧LM 64 2∧LM 88 3∧LM 97 2∧LM 103 5∧LM 114 4∧LM 122 3∧LM 128 2∧LM 256 3:=by and_intros <;> exact lmK
abbrev SZ (t:TypeId) (n:Nat):Prop:=∀ {x v:Value} {k:Kont} {w:World},storeE Tryz.prog t x v k w=stS n x v k w
theorem szK {t:TypeId} {n:Nat} (h:szP Tryz.prog t=some n:=by kernel_rfl):SZ t n:=stS_of h
@[go_sem] theorem stAll:SZ 3 1∧SZ 4 1∧SZ 5 1∧SZ 9 1∧SZ 23 1∧SZ 37 2∧SZ 44 1∧SZ 46 3∧SZ 53 2∧SZ 56 3∧SZ 58 5∧SZ 62 3∧SZ 64 2∧SZ 66 1∧SZ 88 3∧SZ 97 2∧SZ 103 5∧SZ 105 1∧SZ 107 1∧SZ 110 1∧SZ 111 1∧SZ 112 1∧SZ 114 4∧SZ 116 1∧SZ 120 1∧SZ 122 3∧SZ 124 4∧SZ 128 2∧SZ 132 70∧SZ 134 1∧SZ 139 1∧SZ 141 9∧SZ 145 1∧SZ 151 12∧SZ 152 1∧SZ 159 1∧SZ 160 1∧SZ 161 1∧SZ 166 1∧SZ 170 2∧SZ 256 3∧SZ 261 3∧SZ 292 1:=by and_intros <;> exact szK
abbrev OF (t:TypeId) (i o:Nat):Prop:=offP Tryz.prog t i=some o
theorem ofK {t:TypeId} {i o:Nat} (h:offP Tryz.prog t i=some o:=by kernel_rfl):OF t i o:=h
@[go_sem] theorem ofAll:OF 31 0 0∧OF 31 1 1∧OF 37 0 0∧OF 37 1 1∧OF 46 0 0∧OF 46 1 1∧OF 46 2 2∧OF 53 0 0∧OF 53 1 1∧OF 56 0 0∧OF 56 1 1∧OF 56 2 2∧OF 58 0 0∧OF 58 1 1∧OF 58 2 2∧OF 62 0 0∧OF 62 1 1∧OF 62 2 2∧OF 64 0 0∧OF 64 1 1∧OF 88 0 0∧OF 88 1 1∧OF 88 2 2∧OF 97 0 0∧OF 97 1 1∧OF 103 0 0∧OF 103 1 1∧OF 103 2 2∧OF 114 0 0∧OF 114 1 1∧OF 114 2 2∧OF 114 3 3∧OF 122 0 0∧OF 122 1 1∧OF 122 2 2∧OF 124 0 0∧OF 124 1 1∧OF 128 0 0∧OF 128 1 1∧OF 130 0 0∧OF 130 1 40∧OF 132 0 0∧OF 132 1 1∧OF 132 2 2∧OF 132 3 3∧OF 132 4 4∧OF 132 5 8∧OF 132 6 9∧OF 132 7 10∧OF 141 0 0∧OF 141 1 1∧OF 141 2 2∧OF 141 4 4∧OF 141 5 5∧OF 141 6 6∧OF 141 8 8∧OF 151 0 0∧OF 151 1 1∧OF 151 2 2∧OF 151 3 3∧OF 151 4 4∧OF 151 5 5∧OF 151 6 6∧OF 151 7 10∧OF 151 8 11∧OF 154 0 0∧OF 154 1 1∧OF 154 2 2∧OF 154 3 72∧OF 154 4 81∧OF 154 5 93∧OF 154 6 94∧OF 163 0 0∧OF 163 1 1∧OF 163 2 2∧OF 165 0 0∧OF 165 1 1∧OF 165 2 2∧OF 165 3 5∧OF 168 0 0∧OF 168 1 1∧OF 168 2 2∧OF 170 0 0∧OF 170 1 1∧OF 172 0 0∧OF 172 1 6∧OF 172 2 9∧OF 177 0 0∧OF 177 1 1∧OF 177 2 2∧OF 177 3 3∧OF 177 4 4∧OF 177 5 5∧OF 208 0 0∧OF 208 1 1∧OF 208 5 5∧OF 256 0 0∧OF 256 1 1∧OF 256 2 2∧OF 261 0 0∧OF 261 1 1∧OF 261 2 2:=by and_intros <;> exact ofK
abbrev QA (t:TypeId):Prop:=∀ {xo yo:Operand} {x:Option Addr} {l c l2 c2:Nat} {q:Value→Prop},binE Tryz.prog .eql t xo yo (.slice x l c) (.slice none l2 c2) q=q (.bool x.isNone)
theorem qaK {t:TypeId} (h:kindP Tryz.prog t=4:=by kernel_rfl):QA t:=binE_eq_slice_nil h
@[go_sem] theorem qaAll:QA 107:=qaK
abbrev QB (t:TypeId):Prop:=∀ {xo yo:Operand} {x:Option Addr} {l c l2 c2:Nat} {q:Value→Prop},binE Tryz.prog .neq t xo yo (.slice x l c) (.slice none l2 c2) q=q (.bool x.isSome)
theorem qbK {t:TypeId} (h:kindP Tryz.prog t=4:=by kernel_rfl):QB t:=binE_ne_slice_nil h
@[go_sem] theorem qbAll:QB 107:=qbK
abbrev LN (t:TypeId):Prop:=∀ {a:Option Addr} {n c:Nat} {q:Value→Prop},lenE Tryz.prog (some t) (some (.slice a n c)) q=q (.int .i64 n)
theorem lnK {t:TypeId} (h:kindP Tryz.prog t=4:=by kernel_rfl):LN t:=lenE_slice h
@[go_sem] theorem leAll:LN 22∧LN 24∧LN 28∧LN 33∧LN 35∧LN 38∧LN 40∧LN 44∧LN 50∧LN 54∧LN 66∧LN 74∧LN 107∧LN 110∧LN 159∧LN 160∧LN 161∧LN 166∧LN 173∧LN 195:=by and_intros <;> exact lnK
abbrev CP (t:TypeId):Prop:=∀ {a:Option Addr} {n c:Nat} {q:Value→Prop},capE Tryz.prog (some t) (some (.slice a n c)) q=q (.int .i64 c)
theorem cpK {t:TypeId} (h:kindP Tryz.prog t=4:=by kernel_rfl):CP t:=capE_slice h
@[go_sem] theorem caAll:CP 166:=cpK
abbrev IX (t:TypeId) (n:Nat):Prop:=∀ {x i:Value} {q:Value→Prop},indexAddrE Tryz.prog t x i q=ixS n x i q
theorem ixK {t:TypeId} {n:Nat} (h:eszP Tryz.prog t=some n:=by kernel_rfl):IX t n:=ixS_of h
@[go_sem] theorem ixAll:IX 22 1∧IX 24 2∧IX 28 3∧IX 33 5∧IX 35 1∧IX 38 2∧IX 40 5∧IX 44 3∧IX 50 2∧IX 54 3∧IX 66 1∧IX 74 3∧IX 110 3∧IX 159 3∧IX 160 4∧IX 161 2∧IX 173 1∧IX 195 4:=by and_intros <;> exact ixK
end Go.Proofs
end
