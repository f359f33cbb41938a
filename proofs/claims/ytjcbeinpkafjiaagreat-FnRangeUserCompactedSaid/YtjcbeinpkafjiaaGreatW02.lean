/- Parts of the proof: S, F. -/
import Derived.WalkKit
import Derived.Test.YtjcbeinpkafjiaaGreatChecked
import Derived.Test.YtjcbeinpkafjiaaGreatW01
set_option linter.all false
set_option maxRecDepth 10000
section
attribute [go_sem_proc ↓] reduceIte
attribute [go_sem_proc] Nat.reduceEqDiff Nat.reduceAdd
namespace Go.E
open Go
theorem bG {α:Sort _} {a b:α} (h:a=b):a=b:=h
inductive SI where
 | code (c:Code)
 | block (id:Nat)
 | inv (K:dy→World→Prop)
def lx (N:Nat) (P:Program) (rs:List ResultVar) (k:au):List SI→Exit→dy→World→Prop
 | []=>HE P rs k
 | .code c :: st=>tS (fun e w=>WP N P c (lx N P rs k st) e w) (lx N P rs k st)
 | .block id :: st=>nP id (lx N P rs k st)
 | .inv K :: st=>tS K (lx N P rs k st)
structure Cfg where
 N:Nat
 ops:Array Oper
 st:List SI
 rs:List ResultVar
 k:au
def iN (N:Nat) (P:Program) (c:Code) (st:List SI) (rs:List ResultVar) (k:au) (e:dy) (w:World):Prop:=WP N P c (lx N P rs k st) e w
def hZ (N:Nat) (P:Program) (ex:Exit) (st:List SI) (rs:List ResultVar) (k:au) (e:dy) (w:World):Prop:=lx N P rs k st ex e w
def Ey (P:Program) (C:Cfg) (l:List Oper) (e:dy) (w:World):Prop:=uH P C.ops l e (fun e w=>lx C.N P C.rs C.k C.st .normal e w) w
def kw (P:Program) (d:Option Tmp) (C:Cfg) (l:List Oper) (e:dy):au:=fun v w=>Ey P C l (put e d v) w
def xp (k:au) (w:World):Value→Prop:=fun v=>k v w
def rN (N:Nat) (P:Program) (x:Value) (a b:Code) (st:List SI) (rs:List ResultVar) (k:au) (e:dy) (w:World):Prop:=zS x (iN N P a st rs k e w) (iN N P b st rs k e w)
def CN (c:Bool) (P:Program) (o:Oper) (C:Cfg) (l:List Oper) (e:dy) (w:World):Prop:=if c then jA P o e (kw P o.dst C l e) w else Ey P C l (put e o.dst undef) w
section code
variable {N:Nat} {P:Program} {st:List SI} {rs:List ResultVar} {k:au} {e:dy} {w:World}
@[go_sem ↓] theorem Gb:iN N P .skip st rs k e w=hZ N P .normal st rs k e w:=bG rfl
@[go_sem ↓] theorem Ez {id:Nat} {l:List Oper}:iN N P (.region id l.toArray false) st rs k e w=Ey P ⟨N,l.toArray,st,rs,k⟩ l e w:=bG rfl
@[go_sem ↓] theorem ly {a b:Code}:iN N P (.seq a b) st rs k e w=iN N P a (.code b :: st) rs k e w:=bG rfl
@[go_sem ↓] theorem Gc {c:Operand} {a b:Code}:iN N P (.cond c a b) st rs k e w=rN N P (ev e c) a b st rs k e w:=bG rfl
@[go_sem ↓] theorem iS {id:Nat} {a:Code}:iN N P (.block id a) st rs k e w=iN N P a (.block id :: st) rs k e w:=bG rfl
@[go_sem ↓] theorem Gd {id:Nat}:iN N P (.exit id) st rs k e w=hZ N P (.exit id) st rs k e w:=bG rfl
@[go_sem ↓] theorem HH:iN N P .ret st rs k e w=si P rs e k w:=by
 show lx N P rs k st .ret e w=_
 induction st with
 | nil=>rfl
 | cons x st ih=>cases x <;> exact ih
@[go_sem ↓] theorem Ge:hZ N P .normal [] rs k e w=si P rs e k w:=bG rfl
@[go_sem ↓] theorem FQ {c:Code}:hZ N P .normal (.code c :: st) rs k e w=iN N P c st rs k e w:=bG rfl
@[go_sem ↓] theorem E0 {id:Nat}:hZ N P .normal (.block id :: st) rs k e w=hZ N P .normal st rs k e w:=bG rfl
@[go_sem ↓] theorem Gf {K:dy→World→Prop}:hZ N P .normal (.inv K :: st) rs k e w=K e w:=bG rfl
@[go_sem ↓] theorem Bu {c:Code} {i:Nat}:hZ N P (.exit i) (.code c :: st) rs k e w=hZ N P (.exit i) st rs k e w:=bG rfl
@[go_sem ↓] theorem CO {K:dy→World→Prop} {i:Nat}:hZ N P (.exit i) (.inv K :: st) rs k e w=hZ N P (.exit i) st rs k e w:=bG rfl
@[go_sem ↓] theorem Bv {i:Nat}:hZ N P (.exit i) (.block i :: st) rs k e w=hZ N P .normal st rs k e w:=by simp [hZ,lx,nP]
@[go_sem ↓] theorem Bw {i j:Nat} (h:i≠j):hZ N P (.exit i) (.block j :: st) rs k e w=hZ N P (.exit i) st rs k e w:=by simp [hZ,lx,nP,h]
@[go_sem] theorem kp {a b:Code}:rN N P (.bool true) a b st rs k e w=iN N P a st rs k e w:=bG rfl
@[go_sem] theorem jg {a b:Code}:rN N P (.bool false) a b st rs k e w=iN N P b st rs k e w:=bG rfl
@[go_sem ↓] theorem HI:si P [] e k w=k (.tuple #[]) w:=bG rfl
@[go_sem ↓] theorem HJ {t:Nat}:si P [.tmp t] e k w=k (e t) w:=bG rfl
@[go_sem ↓] theorem Gg {a:Nat} {t:TypeId}:si P [.cell a t] e k w=gQ P t (e a) k w:=bG rfl
@[go_sem ↓] theorem Gh {t u:Nat}:si P [.tmp t,.tmp u] e k w=k (.tuple #[e t,e u]) w:=bG rfl
theorem rO {f:FuncId} {fn:Func} {c:Code} {args:Array Value} (hf:P.funcs[f]? = some fn) (hb:fn.body=some c) (hN:fn.ntmps=N) (hrs:fn.results.toList=rs) (hok:eC N c=true) (hn:Nat.ble args.size N=true)
    (h:iN N P c [] rs k (AX args) w):aX P f args k w:=by
 subst hN
 subst hrs
 exact vj hf hb hok (by simpa using hn) h
theorem bR {c:Code} {β:Type} (sl:β→List (Nat × Value)) (I:β→World→Prop) (μ:β→World→Nat) (b₀:β) (hok:eC N c=true) (ha:iO e (sl b₀)) (h₀:I b₀ w)
    (round:∀ (K:dy→World→Prop) (e:dy) b w,I b w→(∀ (e':dy) w' b',iO e' (sl b')→I b' w'→μ b' w' < μ b w→K e' w')→iN N P c (.inv K :: st) rs k (qi e (sl b)) w):iN N P (.loop c) st rs k e w :=
 HF sl I μ b₀ hok ha h₀ fun e b w hI=>round _ e b w hI fun _ _ b' h1 h2 h3=>⟨b',h1,h2,h3⟩
theorem sj {x y:Code} {β:Type} (sl:β→List (Nat × Value)) (J:β→World→Prop) (hok:eC N x=true)
    (hx:∀ K:dy→World→Prop,(∀ (e:dy) w b,iO e (sl b)→J b w→K e w)→iN N P x (.inv K :: st) rs k e w)
    (hy:∀ (e:dy) b w,J b w→iN N P y st rs k (qi e (sl b)) w):iN N P (.seq x y) st rs k e w :=
 Il sl J (hx _ fun _ _ b h1 h2=>⟨b,h1,h2⟩) hy hok
def sm (P:Program) (C:Cfg) (t:DT) (L:List (Nat × (World→Prop))) (e:dy) (w:World):Prop:=vN P C.ops t L e (fun e w=>lx C.N P C.rs C.k C.st .normal e w) w
theorem HK {id:Nat} {ops:Array Oper} (t:DT) (hm:P.follows .mixedOrders=true) (hops:ops.toList.all (jf N)=true)
    (hns:Region.noSelect ops=true) (hc:jC P ops true t ops.size (Array.replicate ops.size false) []=true)
    (h:sm P ⟨N,ops,st,rs,k⟩ t [] e w.drew):iN N P (.region id ops true) st rs k e w:=HG t hm hops hns hc h
end code
section ops
variable {P:Program} {C:Cfg} {rest:List Oper} {e:dy} {w:World} {d:Option Tmp} {ty:TypeId} {pos:String} {af:Array Edge}
@[go_sem ↓] theorem IH {N:Nat} {ops:Array Oper} {st:List SI} {rs:List ResultVar} {k:au}:Ey P ⟨N,ops,st,rs,k⟩ [] e w=hZ N P .normal st rs k e w:=bG rfl
@[go_sem ↓] theorem HL {op:Op}:Ey P C ({ dst:=d,op,type:=ty,pos,after:=af,guard:=none } :: rest) e w =
    jA P { dst:=d,op,type:=ty,pos,after:=af,guard:=none } e (kw P d C rest e) w:=bG rfl
def lz (l:List Oper) (j:Nat):Option Nat:=(l[j]?).bind (·.dst)
@[go_sem] theorem E1 {o:Oper} {l:List Oper}:lz (o :: l) 0=o.dst:=bG rfl
@[go_sem] theorem E2 {o:Oper} {l:List Oper} {j:Nat}:lz (o :: l) (j+1)=lz l j:=bG rfl
def HM (x:Value) (b:Bool):Bool:=match x with
 | .bool t=>t == b
 | _=>false
@[go_sem] theorem HN (t b:Bool):HM (.bool t) b=(t == b):=bG rfl
@[go_sem] theorem Gi (b:Bool):HM undef b=false:=bG rfl
def tV (o:Option Nat) (e:dy) (b:Bool):Bool:=match o with
 | some d=>HM (e d) b
 | none=>false
@[go_sem] theorem FR (d:Nat) (e:dy) (b:Bool):tV (some d) e b=HM (e d) b:=bG rfl
@[go_sem ↓] theorem tW {l:List Oper} {j:Nat} {b:Bool}:xz l.toArray e (some (j,b))=tV (lz l j) e b:=by
 cases h:(l[j]?).bind (·.dst) with
 | none=>simp [xz,tV,lz,h]
 | some d =>
  simp only [xz,tV,lz,HM,List.getElem?_toArray,h]
  cases e d <;> rfl
@[go_sem ↓] theorem Gj {op:Op} {j:Nat} {b:Bool} {N:Nat} {l:List Oper} {st:List SI} {rs:List ResultVar} {k:au} :
    Ey P ⟨N,l.toArray,st,rs,k⟩ ({ dst:=d,op,type:=ty,pos,after:=af,guard:=some (j,b) } :: rest) e w =
    CN (tV (lz l j) e b) P { dst:=d,op,type:=ty,pos,after:=af,guard:=some (j,b) } ⟨N,l.toArray,st,rs,k⟩ rest e w:=by
 rw [← tW]; exact bG rfl
@[go_sem] theorem FS {o:Oper} {l:List Oper}:CN true P o C l e w=jA P o e (kw P o.dst C l e) w:=bG rfl
@[go_sem] theorem E3 {o:Oper} {l:List Oper}:CN false P o C l e w=Ey P C l (put e o.dst undef) w:=bG rfl
@[go_sem ↓] theorem JE {l:List Oper} {v:Value}:kw P d C l e v w=Ey P C l (put e d v) w:=bG rfl
@[go_sem ↓] theorem Im {k:au} {v:Value}:xp k w v=k v w:=bG rfl
def Io (P:Program) (C:Cfg) (t:DT) (L:List (Nat × (World→Prop))) (d:Option Tmp) (e:dy):au:=fun v w=>sm P C t L (put e d v) w
def Ip (P:Program) (C:Cfg) (i:Nat) (o:Oper) (t:DT) (L:List (Nat × (World→Prop))) (e:dy):au:=fun v w=>sm P C t ((i,fun w2=>jL P C.ops o e (fun v2 _=>v2=v) w2) :: L) (put e o.dst v) w
def Iq (P:Program) (C:Cfg) (ks:List Nat) (t:DT) (L:List (Nat × (World→Prop))) (d:Option Tmp) (e:dy):au:=fun v w=>oA ks L w∧sm P C t L (put e d v) w
def zT (o:Option Oper) (P:Program) (C:Cfg) (t:DT) (L:List (Nat × (World→Prop))) (e:dy) (w:World):Prop:=match o with
 | some o=>jL P C.ops o e (Io P C t L o.dst e) w
 | none=>False
def CQ (o:Option Oper) (P:Program) (C:Cfg) (i:Nat) (t:DT) (L:List (Nat × (World→Prop))) (e:dy) (w:World):Prop:=match o with
 | some o=>jL P C.ops o e (Ip P C i o t L e) w
 | none=>False
def FT (o:Option Oper) (P:Program) (C:Cfg) (ks:List Nat) (t:DT) (L:List (Nat × (World→Prop))) (e:dy) (w:World):Prop:=match o with
 | some o=>jL P C.ops o e (Iq P C ks t L o.dst e) w
 | none=>False
section trees
variable {L:List (Nat × (World→Prop))} {t:DT} {N:Nat} {l:List Oper} {st:List SI} {rs:List ResultVar} {k:au} {i:Nat} {is ks:List Nat} {v:Value} {op:Op} {o:Oper}
@[go_sem ↓] theorem HO:sm P ⟨N,l.toArray,st,rs,k⟩ .done L e w=hZ N P .normal st rs k e w:=bG rfl
@[go_sem ↓] theorem CR:sm P ⟨N,l.toArray,st,rs,k⟩ (.free i t) L e w=zT l[i]? P ⟨N,l.toArray,st,rs,k⟩ t L e w:=by
 simp only [sm,vN,List.getElem?_toArray,zT]; cases l[i]? <;> rfl
@[go_sem ↓] theorem Ir:sm P ⟨N,l.toArray,st,rs,k⟩ (sq (i :: is) t) L e w=zT l[i]? P ⟨N,l.toArray,st,rs,k⟩ (sq is t) L e w:=CR
@[go_sem ↓] theorem FU:sm P C (sq [] t) L e w=sm P C t L e w:=bG rfl
@[go_sem ↓] theorem HP:sm P ⟨N,l.toArray,st,rs,k⟩ (.read i t) L e w=CQ l[i]? P ⟨N,l.toArray,st,rs,k⟩ i t L e w:=by
 simp only [sm,vN,List.getElem?_toArray,CQ]; cases l[i]? <;> rfl
@[go_sem ↓] theorem II:sm P ⟨N,l.toArray,st,rs,k⟩ (.eff i ks t) L e w=FT l[i]? P ⟨N,l.toArray,st,rs,k⟩ ks t L e w:=by
 simp only [sm,vN,List.getElem?_toArray,FT]; cases l[i]? <;> rfl
@[go_sem ↓] theorem IJ {t2:DT}:sm P C (.alt t t2) L e w=(sm P C t L e w∧sm P C t2 L e w):=bG rfl
@[go_sem] theorem FV:zT (some o) P C t L e w=jL P C.ops o e (Io P C t L o.dst e) w:=bG rfl
@[go_sem] theorem FW:CQ (some o) P C i t L e w=jL P C.ops o e (Ip P C i o t L e) w:=bG rfl
@[go_sem] theorem Gl:FT (some o) P C ks t L e w=jL P C.ops o e (Iq P C ks t L o.dst e) w:=bG rfl
@[go_sem ↓] theorem Gm {ops:Array Oper}:jL P ops { dst:=d,op,type:=ty,pos,after:=af,guard:=none } e k w=jA P { dst:=d,op,type:=ty,pos,after:=af,guard:=none } e k w:=bG rfl
def FX (c:Bool) (P:Program) (o:Oper) (e:dy) (k:au) (w:World):Prop:=if c then jA P o e k w else k undef w
@[go_sem] theorem Gn:FX true P o e k w=jA P o e k w:=bG rfl
@[go_sem] theorem FY:FX false P o e k w=k undef w:=bG rfl
@[go_sem ↓] theorem Gp {b:Bool} {j:Nat}:jL P l.toArray { dst:=d,op,type:=ty,pos,after:=af,guard:=some (j,b) } e k w=FX (tV (lz l j) e b) P { dst:=d,op,type:=ty,pos,after:=af,guard:=some (j,b) } e k w:=by
 rw [← tW]; exact bG rfl
@[go_sem ↓] theorem Is:Io P C t L d e v w=sm P C t L (put e d v) w:=bG rfl
@[go_sem ↓] theorem It:Ip P C i o t L e v w=sm P C t ((i,fun w2=>jL P C.ops o e (fun v2 _=>v2=v) w2) :: L) (put e o.dst v) w:=bG rfl
@[go_sem ↓] theorem Iu:Iq P C ks t L d e v w=(oA ks L w∧sm P C t L (put e d v) w):=bG rfl
@[go_sem ↓] theorem FZ {G:World→Prop}:oA ks ((i,G) :: L) w=((if i ∈ ks then G w else True)∧oA ks L w):=by simp [oA]
@[go_sem ↓] theorem Gq:oA ks [] w=True:=bG rfl
end trees
attribute [go_sem] List.getElem?_cons_zero List.getElem?_cons_succ true_and and_true
end ops
@[go_sem] theorem Iv (e:dy) (t:Nat):ev e (.tmp t)=e t:=bG rfl
@[go_sem] theorem HQ (e:dy) (v:Value):ev e (.const v)=v:=bG rfl
@[go_sem] theorem IK (e:dy) (f:Nat):ev e (.func f) = .func (.func f) #[] #[]:=bG rfl
@[go_sem] theorem Iw (e:dy) (d:Nat) (v:Value) (i:Nat):put e (some d) v i=if i=d then v else e i:=bG rfl
@[go_sem] theorem Ix (e:dy) (v:Value) (i:Nat):put e none v i=e i:=bG rfl
@[go_sem] theorem IL (l:List Value) (i:Nat):AX l.toArray i=l.getD i undef:=by simp [AX]
@[go_sem] theorem Gs (e:dy) (j:Nat) (v:Value) (l:List (Nat × Value)) (i:Nat):qi e ((j,v) :: l) i=if i=j then v else qi e l i:=bG rfl
@[go_sem] theorem Gt (e:dy):iO e []=True:=bG rfl
@[go_sem] theorem Fi (e:dy) (i:Nat) (v:Value) (l:List (Nat × Value)):iO e ((i,v) :: l)=(e i=v∧iO e l):=bG rfl
attribute [go_sem] List.getD_cons_zero List.getD_cons_succ List.getD_nil
def CS (c a b:Value) (q:Value→Prop):Prop:=rD c fun t=>q (if t then a else b)
section op
variable {P:Program} {e:dy} {k:au} {w:World} {d:Option Tmp} {ty:TypeId} {pos:String} {af:Array Edge} {g:Option (Nat × Bool)}
@[go_sem ↓] theorem HR {x:Operand}:jA P { dst:=d,op := .move x,type:=ty,pos,after:=af,guard:=g } e k w=k (ev e x) w:=bG rfl
@[go_sem ↓] theorem Fj {x:Operand}:jA P { dst:=d,op := .assign x,type:=ty,pos,after:=af,guard:=g } e k w=k (ev e x) w:=bG rfl
@[go_sem ↓] theorem HS {c a b:Operand}:jA P { dst:=d,op := .pick c a b,type:=ty,pos,after:=af,guard:=g } e k w=CS (ev e c) (ev e a) (ev e b) (xp k w):=bG rfl
@[go_sem ↓] theorem HT {t:TypeId} {a:Operand}:jA P { dst:=d,op := .load t a,type:=ty,pos,after:=af,guard:=g } e k w=gQ P t (ev e a) k w:=bG rfl
@[go_sem ↓] theorem Gu {t:TypeId} {a x:Operand}:jA P { dst:=d,op := .store t a x,type:=ty,pos,after:=af,guard:=g } e k w=jS P t (ev e a) (ev e x) k w:=bG rfl
@[go_sem ↓] theorem EK {x:Operand}:jA P { dst:=d,op := .nilCheck x,type:=ty,pos,after:=af,guard:=g } e k w=qZ (ev e x) (xp k w):=bG rfl
@[go_sem ↓] theorem D8 {t:TypeId} {x:Operand} {f:Nat}:jA P { dst:=d,op := .fieldAddr t x f,type:=ty,pos,after:=af,guard:=g } e k w=fm (AO P t f) (ev e x) (xp k w):=bG rfl
@[go_sem ↓] theorem D9 {t:TypeId} {x i:Operand}:jA P { dst:=d,op := .indexAddr t x i,type:=ty,pos,after:=af,guard:=g } e k w=eg P t (ev e x) (ev e i) (xp k w):=bG rfl
@[go_sem ↓] theorem Gv {t:TypeId} {x i:Operand}:jA P { dst:=d,op := .index t x i,type:=ty,pos,after:=af,guard:=g } e k w=kZ P t (ev e x) (ev e i) (xp k w):=bG rfl
@[go_sem ↓] theorem Gw {t yt:TypeId} {op:BinOp} {x y:Operand}:jA P { dst:=d,op := .binOp op t x y yt,type:=ty,pos,after:=af,guard:=g } e k w=dC P op t x y (ev e x) (ev e y) (xp k w):=bG rfl
@[go_sem ↓] theorem HU {t:TypeId} {op:UnOp} {x:Operand}:jA P { dst:=d,op := .unOp op t x,type:=ty,pos,after:=af,guard:=g } e k w=Ex op (ev e x) (xp k w):=bG rfl
@[go_sem ↓] theorem E4 {x:Operand} {i:Nat}:jA P { dst:=d,op := .extract x i,type:=ty,pos,after:=af,guard:=g } e k w=il (ev e x) i (xp k w):=bG rfl
@[go_sem ↓] theorem zU {t:TypeId} {x:Operand}:jA P { dst:=d,op := .makeInterface t x,type:=ty,pos,after:=af,guard:=g } e k w=dL P t (ev e x) (xp k w):=bG rfl
@[go_sem ↓] theorem EL {fn:Fn} {a b:Array Operand}:jA P { dst:=d,op := .makeFunc fn a b,type:=ty,pos,after:=af,guard:=g } e k w=k (.func fn (a.map (ev e)) (b.map (ev e))) w:=bG rfl
@[go_sem ↓] theorem Gx {t:TypeId}:jA P { dst:=d,op := .alloc t,type:=ty,pos,after:=af,guard:=g } e k w=du P (Instr.alloc t true (.tuple #[])) k w:=bG rfl
@[go_sem ↓] theorem IM {t:TypeId} {x:Operand}:jA P { dst:=d,op := .box t x,type:=ty,pos,after:=af,guard:=g } e k w=du P (Instr.box t (ev e x)) k w:=bG rfl
@[go_sem ↓] theorem Gy {t:TypeId} {ps:Array (Nat × Operand)}:jA P { dst:=d,op := .build t ps,type:=ty,pos,after:=af,guard:=g } e k w=cg P t (ps.map fun (i,x)=>(i,ev e x)) (xp k w):=bG rfl
@[go_sem ↓] theorem E5 {s t:TypeId} {x:Operand}:jA P { dst:=d,op := .convert s t x,type:=ty,pos,after:=af,guard:=g } e k w=fJ P s t (ev e x) k w:=bG rfl
@[go_sem ↓] theorem Gz {t:TypeId} {x:Operand} {lo hi mx:Option Operand}:jA P { dst:=d,op := .slice t x lo hi mx,type:=ty,pos,after:=af,guard:=g } e k w=de P t (ev e x) (lo.map (ev e)) (hi.map (ev e)) (mx.map (ev e)) (xp k w):=bG rfl
@[go_sem ↓] theorem HV {f:Operand} {args:Array Operand} {ats:Array TypeId}:jA P { dst:=d,op := .call { callee := .value f,args,argTypes:=ats },type:=ty,pos,after:=af,guard:=g } e k w=lL P (ev e f) (args.map (ev e)) k w:=bG rfl
@[go_sem ↓] theorem Fo {r:Operand} {m:String} {args:Array Operand} {ats:Array TypeId}:jA P { dst:=d,op := .call { callee := .invoke r m,args,argTypes:=ats },type:=ty,pos,after:=af,guard:=g } e k w=cn P (ev e r) m (args.map (ev e)) k w:=bG rfl
@[go_sem ↓] theorem IN {x:Operand} {t:TypeId}:jA P { dst:=d,op := .call { callee := .builtin .len,args := #[x],argTypes := #[t] },type:=ty,pos,after:=af,guard:=g } e k w=nq P (some t) (some (ev e x)) (xp k w):=by
 simp only [jA,hJ,List.map_toArray,List.map_cons,List.map_nil,List.getElem?_toArray,List.getElem?_cons_zero]; rfl
@[go_sem ↓] theorem IP {x:Operand} {t:TypeId}:jA P { dst:=d,op := .call { callee := .builtin .cap,args := #[x],argTypes := #[t] },type:=ty,pos,after:=af,guard:=g } e k w=rE P (some t) (some (ev e x)) (xp k w):=by
 simp only [jA,hJ,List.map_toArray,List.map_cons,List.map_nil,List.getElem?_toArray,List.getElem?_cons_zero]; rfl
end op
section cells
variable {w:World} {b b' o o':Nat} {v:Value} {ob:Obj}
@[go_sem] theorem bu:(w.setCell ⟨b,o,none⟩ v).cell? ⟨b,o,none⟩=(w.cell? ⟨b,o,none⟩).map fun _=>v:=by
 cases h:w.cell? ⟨b,o,none⟩ with
 | some x=>rw [World.cell?_setCell_same w _ v h]; rfl
 | none =>
  simp only [World.cell?,World.setCell,Array.getElem?_modify,if_true] at h ⊢
  cases hb:w.heap[b]? with
  | none=>rfl
  | some x=>cases x <;> simp_all
@[go_sem] theorem fu (h:o≠o'):(w.setCell ⟨b,o,none⟩ v).cell? ⟨b',o',none⟩=w.cell? ⟨b',o',none⟩:=World.cell?_setCell_other w _ _ v (fun he=>h (by cases he; rfl))
@[go_sem] theorem vr (h:b≠b'):(w.setCell ⟨b,o,none⟩ v).cell? ⟨b',o',none⟩=w.cell? ⟨b',o',none⟩:=World.cell?_setCell_other w _ _ v (fun he=>h (by cases he; rfl))
attribute [go_sem] World.frozen?_setCell World.size_setCell World.size_alloc World.size_drew World.cell?_drew World.frozen?_drew Option.map_some List.map_toArray List.map_cons List.map_nil
end cells
@[go_sem] theorem CT (a:Array Value):a ++ #[]=a:=by simp
@[go_sem] theorem CU (a:Array Value) : #[]++a=a:=by simp
@[go_sem] theorem CV (x:Value) (l:List Value) : #[x]++l.toArray=(x :: l).toArray:=by simp
attribute [go_sem] List.size_toArray aY List.length_nil List.cons_append List.nil_append
def HX (o:Option Value) (q:Value→Prop):Prop:=np o q
@[go_sem] theorem G0 (v:Value) (q:Value→Prop):HX (some v) q=q v:=bG rfl
def EM (o:Option Value) (k:au) (w:World):Prop:=np o fun v=>k v w
@[go_sem] theorem G4 (v:Value) (k:au) (w:World):EM (some v) k w=k v w:=bG rfl
def oC (a:Addr) (i n:Nat) (acc:List Value) (k:au) (w:World):Prop:=jx w a i n fun vs=>k (.agg (acc++vs).toArray) w
def CW (o:Option Value) (a:Addr) (i n:Nat) (acc:List Value) (k:au) (w:World):Prop:=np o fun v=>oC a (i+1) n (acc++[v]) k w
@[go_sem] theorem Fq (v:Value) (a:Addr) (i n:Nat) (acc:List Value) (k:au) (w:World):CW (some v) a i n acc k w=oC a (i+1) n (acc++[v]) k w:=bG rfl
def sZ (a:Addr) (i:Nat) (vs:List Value) (k:au) (w:World):Prop:=pJ w a i vs fun w'=>k undef w'
def uP (o:Option Value) (fz:Bool) (v:Value) (a:Addr) (i:Nat) (vs:List Value) (k:au) (w:World):Prop:=D1 o fz v (sZ a (i+1) vs k (w.setCell (a.add i) v))
def bd (o:Option Value) (d:Int):Int:=match o with
 | some (.int _ i)=>i
 | _=>d
def CX (o:Option Value):Bool:=match o with
 | none=>true
 | some (.int _ _)=>true
 | some _=>false
@[go_sem] theorem oE (d:Int):bd none d=d:=bG rfl
theorem vt {d:Int} {q:Int→Prop}:gO none d q=q d:=rfl
theorem jz {o:Option Value} {d:Int} {q:Int→Prop} (h:CX o=true):gO o d q=q (bd o d):=by
 unfold CX at h
 split at h <;> first | rfl | simp at h
section vals
variable {P:Program} {k:au} {w:World} {q:Value→Prop}
def IQ (x:Value) (k:au) (w:World):Prop:=match x with
 | .pointer (some a)=>EM (w.cell? a) k w
 | _=>False
def IR (n:Nat) (x:Value) (k:au) (w:World):Prop:=match x with
 | .pointer (some a)=>oC a 0 n [] k w
 | _=>False
theorem Fs {t:TypeId} {x:Value} (h:jK P t=true):gQ P t x k w=IQ x k w:=by
 unfold IQ; split
 ·simp [gQ,h,EM]
 ·unfold gQ; split
  ·simp_all
  ·rfl
theorem Ft {t:TypeId} {x:Value} {n:Nat} (h:vQ P t=some n) (ha:xy P t=true):gQ P t x k w=IR n x k w:=by
 have hs:jK P t=false:=by
  unfold xy at ha; unfold jK; split at ha <;> simp_all
 unfold IR; split
 ·simp [gQ,hs,ha,h,oC]
 ·unfold gQ; split
  ·simp_all
  ·rfl
@[go_sem] theorem Iy {a:Addr}:IQ (.pointer (some a)) k w=EM (w.cell? a) k w:=bG rfl
@[go_sem] theorem Iz {n:Nat} {a:Addr}:IR n (.pointer (some a)) k w=oC a 0 n [] k w:=bG rfl
def uQ (n:Nat) (x v:Value) (k:au) (w:World):Prop:=match x with
 | .pointer (some a)=>v.cells.size=n∧sZ a 0 v.cells.toList k w
 | _=>False
theorem Fu {t:TypeId} {x v:Value} {n:Nat} (h:vQ P t=some n):jS P t x v k w=uQ n x v k w:=by
 unfold uQ; split
 ·simp only [jS,h,cZ,sZ,aL,eq_comm]
 ·unfold jS; split
  ·simp_all
  ·rfl
@[go_sem] theorem IS {a:Addr} {kd:IntKind} {n:Int}:uQ 1 (.pointer (some a)) (.int kd n) k w=sZ a 0 [.int kd n] k w:=by simp [uQ,Value.cells]
@[go_sem] theorem HY {a:Addr} {b:Bool}:uQ 1 (.pointer (some a)) (.bool b) k w=sZ a 0 [.bool b] k w:=by simp [uQ,Value.cells]
@[go_sem] theorem Fv {a:Addr} {s:ByteArray}:uQ 1 (.pointer (some a)) (.string s) k w=sZ a 0 [.string s] k w:=by simp [uQ,Value.cells]
@[go_sem] theorem E6 {a:Addr} {p:Option Addr}:uQ 1 (.pointer (some a)) (.pointer p) k w=sZ a 0 [.pointer p] k w:=by simp [uQ,Value.cells]
@[go_sem] theorem G7 {a:Addr} {p:Option Addr} {l c:Nat}:uQ 1 (.pointer (some a)) (.slice p l c) k w=sZ a 0 [.slice p l c] k w:=by simp [uQ,Value.cells]
@[go_sem] theorem HZ {a:Addr} {f:Fn} {x y:Array Value}:uQ 1 (.pointer (some a)) (.func f x y) k w=sZ a 0 [.func f x y] k w:=by simp [uQ,Value.cells]
@[go_sem] theorem EN {a:Addr}:uQ 1 (.pointer (some a)) .nilIface k w=sZ a 0 [.nilIface] k w:=by simp [uQ,Value.cells]
@[go_sem] theorem IT {n:Nat} {a:Addr} {l:List Value} (h:l.length=n):uQ n (.pointer (some a)) (.agg l.toArray) k w=sZ a 0 l k w:=by simp [uQ,Value.cells,h]
@[go_sem ↓] theorem Fw {a:Addr} {i:Nat} {acc:List Value}:oC a i 0 acc k w=k (.agg acc.toArray) w:=by simp [oC,jx]
@[go_sem ↓] theorem Fx {a:Addr} {i n:Nat} {acc:List Value}:oC a i (n+1) acc k w=CW (w.cell? (a.add i)) a i n acc k w:=by simp [oC,jx,CW]
@[go_sem ↓] theorem EO {a:Addr} {i:Nat}:sZ a i [] k w=k undef w:=bG rfl
@[go_sem ↓] theorem vu {a:Addr} {i:Nat} {v:Value} {vs:List Value}:sZ a i (v :: vs) k w=uP (w.cell? (a.add i)) (w.frozen? (a.add i)) v a i vs k w:=bG rfl
@[go_sem] theorem IU {a:Addr} {i:Nat} {x:Value} {kd:IntKind} {n:Int} {vs:List Value}:uP (some x) false (.int kd n) a i vs k w=sZ a (i+1) vs k (w.setCell (a.add i) (.int kd n)):=by
 simp [uP,D1,Value.oneCell']
@[go_sem] theorem Ha {a:Addr} {i:Nat} {x:Value} {b:Bool} {vs:List Value}:uP (some x) false (.bool b) a i vs k w=sZ a (i+1) vs k (w.setCell (a.add i) (.bool b)):=by
 simp [uP,D1,Value.oneCell']
@[go_sem] theorem Fy {a:Addr} {i:Nat} {x:Value} {s:ByteArray} {vs:List Value}:uP (some x) false (.string s) a i vs k w=sZ a (i+1) vs k (w.setCell (a.add i) (.string s)):=by
 simp [uP,D1,Value.oneCell']
@[go_sem] theorem E7 {a:Addr} {i:Nat} {x:Value} {p:Option Addr} {vs:List Value}:uP (some x) false (.pointer p) a i vs k w=sZ a (i+1) vs k (w.setCell (a.add i) (.pointer p)):=by
 simp [uP,D1,Value.oneCell']
@[go_sem] theorem G8 {a:Addr} {i:Nat} {x:Value} {p:Option Addr} {l c:Nat} {vs:List Value}:uP (some x) false (.slice p l c) a i vs k w=sZ a (i+1) vs k (w.setCell (a.add i) (.slice p l c)):=by
 simp [uP,D1,Value.oneCell']
@[go_sem] theorem Hc {a:Addr} {i:Nat} {x:Value} {f:Fn} {y z:Array Value} {vs:List Value}:uP (some x) false (.func f y z) a i vs k w=sZ a (i+1) vs k (w.setCell (a.add i) (.func f y z)):=by
 simp [uP,D1,Value.oneCell']
@[go_sem] theorem G9 {a:Addr} {i:Nat} {x:Value} {t:TypeId} {v:Value} {vs:List Value}:uP (some x) false (.iface t v) a i vs k w=sZ a (i+1) vs k (w.setCell (a.add i) (.iface t v)):=by
 simp [uP,D1,Value.oneCell']
@[go_sem] theorem EP {a:Addr} {i:Nat} {x:Value}  {vs:List Value}:uP (some x) false .nilIface a i vs k w=sZ a (i+1) vs k (w.setCell (a.add i) .nilIface):=by
 simp [uP,D1,Value.oneCell']
@[go_sem] theorem Hd {a:Addr}:qZ (.pointer (some a)) q=q (.pointer (some a)):=bG rfl
@[go_sem] theorem Fz {t:TypeId} {v:Value}:qZ (.iface t v) q=q (.iface t v):=bG rfl
@[go_sem] theorem EA {o:Nat} {a:Addr}:fm (some o) (.pointer (some a)) q=q (.pointer (some (a.add o))):=bG rfl
def He (n:Nat) (x i:Value) (q:Value→Prop):Prop:=match x,i with
 | .slice (some a) len _,.int _ i=>(0≤i∧i < len)∧q (.pointer (some (a.add (i.toNat * n))))
 | _,_=>False
theorem F0 {t:TypeId} {x i:Value} {n:Nat} (h:lV P t=some n):eg P t x i q=He n x i q:=by
 unfold He eg
 rw [h]
 cases x <;> try rfl
 rename_i a l c
 cases a <;> try rfl
 cases i <;> rfl
@[go_sem] theorem I0 {n:Nat} {a:Addr} {len cap:Nat} {kd:IntKind} {i:Int} (h0:0≤i) (h1:i < len):He n (.slice (some a) len cap) (.int kd i) q=q (.pointer (some (a.add (i.toNat * n)))):=by simp [He,h0,h1]
@[go_sem] theorem F1 {a b:Value}:CS (.bool true) a b q=q a:=bG rfl
@[go_sem] theorem E8 {a b:Value}:CS (.bool false) a b q=q b:=bG rfl
@[go_sem] theorem E9 {vs:Array Value} {i:Nat}:il (.tuple vs) i q=HX vs[i]? q:=bG rfl
@[go_sem] theorem IW {b:Bool}:Ex .not (.bool b) q=q (.bool !b):=bG rfl
section bin
variable {t:TypeId} {xo yo:Operand} {kd:IntKind} {a b:Int}
@[go_sem] theorem Hf:dC P .add t xo yo (.int kd a) (.int kd b) q=q (.int kd (kd.wrap (a+b))):=by simp [dC,fQ,kg]
@[go_sem] theorem Hg:dC P .sub t xo yo (.int kd a) (.int kd b) q=q (.int kd (kd.wrap (a - b))):=by simp [dC,fQ,kg]
@[go_sem] theorem Hh:dC P .mul t xo yo (.int kd a) (.int kd b) q=q (.int kd (kd.wrap (a * b))):=by simp [dC,fQ,kg]
@[go_sem] theorem fw (h:b≠0):dC P .quo t xo yo (.int kd a) (.int kd b) q=q (.int kd (kd.wrap (a.tdiv b))):=by simp [dC,fQ,kg,cZ,h]
@[go_sem] theorem CY:dC P .and t xo yo (.int kd a) (.int kd b) q=q (.int kd (kd.wrap (BitVec.ofInt kd.bits a &&& BitVec.ofInt kd.bits b).toNat)):=by simp only [dC,fQ,kg,Bool.false_eq_true,if_false,if_true]
@[go_sem] theorem CZ:dC P .xor t xo yo (.int kd a) (.int kd b) q=q (.int kd (kd.wrap (BitVec.ofInt kd.bits a ^^^ BitVec.ofInt kd.bits b).toNat)):=by simp only [dC,fQ,kg,Bool.false_eq_true,if_false,if_true]
@[go_sem] theorem Hi:dC P .eql t xo yo (.int kd a) (.int kd b) q=q (.bool (a == b)):=by simp [dC,fQ,kg]
@[go_sem] theorem Hj:dC P .neq t xo yo (.int kd a) (.int kd b) q=q (.bool (a != b)):=by simp [dC,fQ,kg]
@[go_sem] theorem Hk:dC P .lss t xo yo (.int kd a) (.int kd b) q=q (.bool (decide (a < b))):=by simp [dC,fQ,kg]
@[go_sem] theorem Hl:dC P .leq t xo yo (.int kd a) (.int kd b) q=q (.bool (decide (a≤b))):=by simp [dC,fQ,kg]
@[go_sem] theorem Hm:dC P .gtr t xo yo (.int kd a) (.int kd b) q=q (.bool (decide (b < a))):=by simp [dC,fQ,kg]
@[go_sem] theorem Hn:dC P .geq t xo yo (.int kd a) (.int kd b) q=q (.bool (decide (b≤a))):=by simp [dC,fQ,kg]
@[go_sem] theorem rP {k2:IntKind} (h:0≤b):dC P .shl t xo yo (.int kd a) (.int k2 b) q=q (.int kd (kd.wrap (a * 2 ^ (min b.toNat kd.bits)))):=by simp [dC,fQ,ki,cZ,h]
@[go_sem] theorem fW {k2:IntKind} (h:0≤b):dC P .shr t xo yo (.int kd a) (.int k2 b) q=q (.int kd (a.fdiv (2 ^ (min b.toNat kd.bits)))):=by simp [dC,fQ,ki,cZ,h]
variable {s u:ByteArray}
@[go_sem] theorem Ho {op:BinOp}:dC P op t xo yo (.string s) (.string u) q=jy op s u q:=bG rfl
@[go_sem] theorem Ca:jy .eql s u q=q (.bool (s.toList == u.toList)):=bG rfl
@[go_sem] theorem Cb:jy .neq s u q=q (.bool (!(s.toList == u.toList))):=bG rfl
@[go_sem] theorem Cc:jy .lss s u q=q (.bool (Op.bytesLess s.toList u.toList)):=bG rfl
@[go_sem] theorem Ce:jy .leq s u q=q (.bool (Op.bytesLess s.toList u.toList || s.toList == u.toList)):=bG rfl
@[go_sem] theorem Cf:jy .gtr s u q=q (.bool (!(Op.bytesLess s.toList u.toList || s.toList == u.toList))):=bG rfl
@[go_sem] theorem Cg:jy .geq s u q=q (.bool (!(Op.bytesLess s.toList u.toList))):=bG rfl
def eu (P:Program) (t:TypeId):Nat :=
 match P.underlying t with
 | some (.interface _)=>1
 | some .bool=>2
 | some (.pointer _)=>3
 | some (.slice _)=>4
 | some .string=>5
 | _=>0
theorem rQ (h:eu P t=1):lZ P t=true:=by unfold eu at h; unfold lZ; split at h <;> simp_all
theorem Ag (h:eu P t=2):P.underlying t=some .bool:=by unfold eu at h; split at h <;> simp_all
theorem vx (h:eu P t=3):∃ el,P.underlying t=some (.pointer el):=by unfold eu at h; split at h <;> simp_all
theorem kq (h:eu P t=4):∃ el,P.underlying t=some (.slice el):=by unfold eu at h; split at h <;> simp_all
theorem qj {c:Value} (h:eu P t=1):dC P .eql t xo (.const c) .nilIface .nilIface q=q (.bool true):=by simp [dC,vR,cZ,rQ h,ld]
theorem qm {c:Value} (h:eu P t=1):dC P .neq t xo (.const c) .nilIface .nilIface q=q (.bool false):=by simp [dC,vR,cZ,rQ h,ld]
theorem uS {x y:Bool} (h:eu P t=2):dC P .eql t xo yo (.bool x) (.bool y) q=q (.bool (x == y)):=by simp [dC,vR,cZ,Ag h]
theorem qn {x:Option Addr} (h:eu P t=3):dC P .eql t xo yo (.pointer x) (.pointer none) q=q (.bool x.isNone):=by
 obtain ⟨el,he⟩:=vx h
 cases x <;> simp [dC,vR,cZ,he]
theorem lN {x:Option Addr} (h:eu P t=3):dC P .neq t xo yo (.pointer x) (.pointer none) q=q (.bool x.isSome):=by
 obtain ⟨el,he⟩:=vx h
 cases x <;> simp [dC,vR,cZ,he]
theorem oG {x:Option Addr} {l c l' c':Nat} (h:eu P t=4):dC P .eql t xo yo (.slice x l c) (.slice none l' c') q=q (.bool x.isNone):=by
 obtain ⟨el,he⟩:=kq h
 cases x <;> simp [dC,vR,cZ,he]
theorem oJ {x:Option Addr} {l c l' c':Nat} (h:eu P t=4):dC P .neq t xo yo (.slice x l c) (.slice none l' c') q=q (.bool x.isSome):=by
 obtain ⟨el,he⟩:=kq h
 cases x <;> simp [dC,vR,cZ,he]
end bin
theorem Ci {f:FuncId} {args a b:Array Value} (h:ia P f=true):lL P (.func (.func f) a b) args k w=aX P f (a++args++b) k w:=by simp [lL,h]
theorem Ah {f:FuncId} {args a b:Array Value} {s:Array Value→Sem Value} (h:mL P f=some s):lL P (.func (.func f) a b) args k w=du P (s (a++args++b)) k w:=by
 have he:ia P f=false:=by
  unfold mL at h; unfold ia
  split at h
  ·split at h
   ·simp at h
   ·rename_i hc; simp_all
  ·simp at h
 simp [lL,he,h]
theorem yN {t:TypeId} {v:Value} {m:String} {args:Array Value} {f:FuncId} (h:vS P t m=some f) (he:ia P f=true):cn P (.iface t v) m args k w=aX P f (#[v]++args) k w:=by simp [cn,cZ,h,he]
theorem yO {t:TypeId} {a:Option Addr} {n c:Nat} (h:eu P t=4):nq P (some t) (some (.slice a n c)) q=q (.int .i64 n):=by
 obtain ⟨el,he⟩:=kq h
 simp [nq,he]
theorem vy {t:TypeId} {s:ByteArray} (h:eu P t=5):nq P (some t) (some (.string s)) q=q (.int .i64 s.size):=by
 have he:P.underlying t=some .string:=by unfold eu at h; split at h <;> simp_all
 simp [nq,he]
theorem yP {t:TypeId} {a:Option Addr} {n c:Nat} (h:eu P t=4):rE P (some t) (some (.slice a n c)) q=q (.int .i64 c):=by
 obtain ⟨el,he⟩:=kq h
 simp [rE,he]
theorem tX {t:TypeId} {a:Option Addr} {len cap n:Nat} {lo hi mx:Option Value} (h:lV P t=some n) (o1:CX lo=true) (o2:CX hi=true) (o3:CX mx=true)
    (c1:0≤bd lo 0) (c2:bd lo 0≤bd hi len) (c3:bd hi len≤bd mx cap) (c4:bd mx cap≤cap) (c5:mx.isSome=true→hi.isSome=true) :
    de P t (.slice a len cap) lo hi mx q=q (.slice (if bd mx cap=bd lo 0 then a else a.map (·.add ((bd lo 0).toNat * n))) ((bd hi len).toNat - (bd lo 0).toNat) ((bd mx cap).toNat - (bd lo 0).toNat)):=by
 obtain ⟨el,he,hs⟩:=zQ h
 simp only [de,he,hs,jz o1,jz o2,jz o3,cZ]
 simp [c1,c2,c3,c4]
 exact fun _=>c5
theorem qF {t:TypeId} {a:Option Addr} {len cap n:Nat} {hi mx:Option Value} (h:lV P t=some n) (o2:CX hi=true) (o3:CX mx=true)
    (c2:0≤bd hi len) (c3:bd hi len≤bd mx cap) (c4:bd mx cap≤cap) (c5:mx.isSome=true→hi.isSome=true) :
    de P t (.slice a len cap) none hi mx q=q (.slice a (bd hi len).toNat (bd mx cap).toNat):=by
 rw [tX h rfl o2 o3 (by simp [bd]) (by simpa [bd] using c2) c3 c4 c5]
 simp only [oE]
 cases a <;> simp [Addr.add]
theorem gp {t:TypeId} {a:Option Addr} {len cap n:Nat} {kd:IntKind} {l:Int} {hi mx:Option Value} (h:lV P t=some n) (o2:CX hi=true) (o3:CX mx=true)
    (c1:0≤l) (c2:l≤bd hi len) (c3:bd hi len≤bd mx cap) (c4:bd mx cap≤cap) (c5:mx.isSome=true→hi.isSome=true) :
    de P t (.slice a len cap) (some (.int kd l)) hi mx q=q (.slice (if bd mx cap=l then a else a.map (·.add (l.toNat * n))) ((bd hi len).toNat - l.toNat) ((bd mx cap).toNat - l.toNat)) :=
 tX h rfl o2 o3 c1 c2 c3 c4 c5
def ER (P:Program) (t:TypeId):Option (Nat × Nat) :=
 match P.underlying t with
 | some (.array len el)=>(vQ P el).map fun n=>(len,n)
 | _=>none
theorem rR {t:TypeId} {a:Addr} {len n:Nat} {hi mx:Option Value} (h:ER P t=some (len,n)) (o2:CX hi=true) (o3:CX mx=true)
    (c2:0≤bd hi len) (c3:bd hi len≤bd mx len) (c4:bd mx len≤len) (c5:mx.isSome=true→hi.isSome=true) :
    de P t (.pointer (some a)) none hi mx q=q (.slice (some a) (bd hi len).toNat (bd mx len).toNat):=by
 unfold ER at h
 split at h
 ·rename_i len' el hu
  obtain ⟨n',hn,h2⟩:=Option.map_eq_some_iff.1 h
  simp only [Prod.mk.injEq] at h2
  obtain ⟨rfl,rfl⟩:=h2
  simp only [de,hu,hn,vt,jz o2,jz o3,cZ]
  have e:(if bd mx ↑len'=0 then a else a.add ((0:Int).toNat * n'))=a:=by split <;> simp [Addr.add]
  rw [e]
  simp [c2,c3,c4]
  exact fun _=>c5
 ·simp at h
end vals
end Go.E
end
section
namespace Go.Proofs
open Go Go.E
theorem Tryz.ar125:ER Tryz.prog 125=some (10,4):=by kernel_rfl
theorem Tryz.ar129:ER Tryz.prog 129=some (10,2):=by kernel_rfl
theorem Tryz.es44:lV Tryz.prog 44=some 3:=by kernel_rfl
theorem Tryz.es66:lV Tryz.prog 66=some 1:=by kernel_rfl
theorem Tryz.es107:lV Tryz.prog 107=some 1:=by kernel_rfl
theorem Tryz.es110:lV Tryz.prog 110=some 3:=by kernel_rfl
theorem Tryz.es159:lV Tryz.prog 159=some 3:=by kernel_rfl
theorem Tryz.es161:lV Tryz.prog 161=some 2:=by kernel_rfl
theorem Tryz.es166:lV Tryz.prog 166=some 1:=by kernel_rfl
theorem Tryz.es195:lV Tryz.prog 195=some 4:=by kernel_rfl
theorem Tryz.kd4:eu Tryz.prog 4=2:=by kernel_rfl
theorem Tryz.kd9:eu Tryz.prog 9=5:=by kernel_rfl
theorem Tryz.kd116:eu Tryz.prog 116=1:=by kernel_rfl
theorem Tryz.kd120:eu Tryz.prog 120=3:=by kernel_rfl
theorem Tryz.kd137:eu Tryz.prog 137=3:=by kernel_rfl
theorem Tryz.ex131:mL Tryz.prog 131=some Extern.BytealgCompare.compare:=by kernel_rfl
theorem Tryz.mi9 (x:Value) (q:Value→Prop):dL Tryz.prog 9 x q=q (.iface 9 x):=by kernel_rfl
theorem Tryz.mi221 (x:Value) (q:Value→Prop):dL Tryz.prog 221 x q=q (.iface 221 x):=by kernel_rfl
theorem Tryz.mi224 (x:Value) (q:Value→Prop):dL Tryz.prog 224 x q=q (.iface 224 x):=by kernel_rfl
theorem Tryz.mi226 (x:Value) (q:Value→Prop):dL Tryz.prog 226 x q=q (.iface 226 x):=by kernel_rfl
theorem Tryz.mi228 (x:Value) (q:Value→Prop):dL Tryz.prog 228 x q=q (.iface 228 x):=by kernel_rfl
theorem Tryz.mi229 (x:Value) (q:Value→Prop):dL Tryz.prog 229 x q=q (.iface 229 x):=by kernel_rfl
theorem Tryz.mi233 (x:Value) (q:Value→Prop):dL Tryz.prog 233 x q=q (.iface 233 x):=by kernel_rfl
theorem Tryz.mi249 (x:Value) (q:Value→Prop):dL Tryz.prog 249 x q=q (.iface 249 x):=by kernel_rfl
theorem Tryz.mi252 (x:Value) (q:Value→Prop):dL Tryz.prog 252 x q=q (.iface 252 x):=by kernel_rfl
theorem Tryz.mi262 (x:Value) (q:Value→Prop):dL Tryz.prog 262 x q=q (.iface 262 x):=by kernel_rfl
theorem Tryz.mi263 (x:Value) (q:Value→Prop):dL Tryz.prog 263 x q=q (.iface 263 x):=by kernel_rfl
theorem Tryz.mi274 (x:Value) (q:Value→Prop):dL Tryz.prog 274 x q=q (.iface 274 x):=by kernel_rfl
theorem Tryz.mi327 (x:Value) (q:Value→Prop):dL Tryz.prog 327 x q=q (.iface 327 x):=by kernel_rfl
@[go_sem] theorem Tryz.qa4 {xo yo:Operand} {x y:Bool} {q:Value→Prop}:dC Tryz.prog .eql 4 xo yo (.bool x) (.bool y) q=q (.bool (x == y)):=uS Tryz.kd4
@[go_sem] theorem Tryz.le9 {s:ByteArray} {q:Value→Prop}:nq Tryz.prog (some 9) (some (.string s)) q=q (.int .i64 s.size):=vy Tryz.kd9
@[go_sem] theorem Tryz.qa116 {xo:Operand} {c:Value} {q:Value→Prop}:dC Tryz.prog .eql 116 xo (.const c) .nilIface .nilIface q=q (.bool true):=qj Tryz.kd116
@[go_sem] theorem Tryz.qb116 {xo:Operand} {c:Value} {q:Value→Prop}:dC Tryz.prog .neq 116 xo (.const c) .nilIface .nilIface q=q (.bool false):=qm Tryz.kd116
@[go_sem] theorem Tryz.qa120 {xo yo:Operand} {x:Option Addr} {q:Value→Prop}:dC Tryz.prog .eql 120 xo yo (.pointer x) (.pointer none) q=q (.bool x.isNone):=qn Tryz.kd120
@[go_sem] theorem Tryz.qb120 {xo yo:Operand} {x:Option Addr} {q:Value→Prop}:dC Tryz.prog .neq 120 xo yo (.pointer x) (.pointer none) q=q (.bool x.isSome):=lN Tryz.kd120
@[go_sem] theorem Tryz.qb137 {xo yo:Operand} {x:Option Addr} {q:Value→Prop}:dC Tryz.prog .neq 137 xo yo (.pointer x) (.pointer none) q=q (.bool x.isSome):=lN Tryz.kd137
@[go_sem] theorem Tryz.cl131 {args a b:Array Value} {k:au} {w:World}:lL Tryz.prog (.func (.func 131) a b) args k w=du Tryz.prog (Extern.BytealgCompare.compare (a++args++b)) k w:=Ah Tryz.ex131
attribute [go_sem] Tryz.mi9 Tryz.mi221 Tryz.mi224 Tryz.mi226 Tryz.mi228 Tryz.mi229 Tryz.mi233 Tryz.mi249 Tryz.mi252 Tryz.mi262 Tryz.mi263 Tryz.mi274 Tryz.mi327
theorem Tryz.mix:Tryz.prog.follows .mixedOrders=true:=by kernel_rfl
abbrev CL (f:FuncId):Prop:=∀ {x a b:Array Value} {k:au} {w:World},lL Tryz.prog (.func (.func f) a b) x k w=aX Tryz.prog f (a++x++b) k w
theorem JZ {f:FuncId} (h:ia Tryz.prog f=true:=by kernel_rfl):CL f:=Ci h
@[go_sem] theorem JF:CL 13∧CL 15∧CL 18∧CL 19∧CL 22∧CL 25∧CL 31∧CL 33∧CL 34∧CL 35∧CL 36∧CL 38∧CL 44∧CL 48∧CL 51∧CL 52∧CL 53∧CL 54∧CL 55∧CL 57∧CL 58∧CL 59∧CL 64∧CL 65∧CL 66∧CL 67∧CL 68∧CL 72∧CL 73∧CL 75∧CL 76∧CL 79∧CL 82∧CL 83∧CL 84∧CL 85∧CL 86∧CL 87∧CL 88∧CL 89∧CL 90∧CL 91∧CL 92∧CL 93∧CL 94∧CL 95∧CL 96∧CL 97∧CL 98∧CL 99∧CL 101∧CL 102∧CL 103∧CL 110∧CL 112∧CL 113∧CL 117∧CL 120∧CL 121∧CL 122∧CL 123∧CL 124∧CL 125∧CL 126∧CL 127∧CL 128∧CL 129∧CL 130∧CL 134∧CL 137∧CL 138∧CL 139∧CL 140∧CL 141∧CL 142∧CL 143∧CL 147∧CL 149∧CL 150∧CL 151∧CL 152∧CL 153∧CL 154∧CL 155∧CL 156∧CL 157∧CL 158∧CL 159∧CL 160∧CL 161∧CL 162∧CL 163∧CL 164∧CL 165∧CL 166∧CL 167∧CL 168∧CL 186∧CL 187∧CL 188∧CL 200∧CL 201∧CL 202∧CL 203∧CL 204∧CL 205∧CL 206∧CL 207∧CL 208∧CL 209∧CL 210∧CL 211∧CL 212∧CL 213∧CL 214∧CL 215∧CL 216∧CL 218∧CL 219∧CL 220∧CL 221∧CL 224∧CL 225∧CL 226∧CL 227∧CL 236∧CL 237∧CL 238∧CL 239∧CL 249∧CL 250∧CL 251∧CL 252∧CL 253∧CL 254∧CL 255∧CL 256:=by and_intros <;> exact JZ
abbrev LD (t:TypeId):Prop:=∀ {x:Value} {k:au} {w:World},gQ Tryz.prog t x k w=IQ x k w
theorem Ja {t:TypeId} (h:jK Tryz.prog t=true:=by kernel_rfl):LD t:=Fs h
@[go_sem] theorem JG:LD 3∧LD 4∧LD 5∧LD 9∧LD 23∧LD 28∧LD 44∧LD 54∧LD 66∧LD 74∧LD 105∧LD 106∧LD 107∧LD 109∧LD 110∧LD 111∧LD 112∧LD 116∧LD 118∧LD 119∧LD 120∧LD 126∧LD 134∧LD 136∧LD 137∧LD 139∧LD 142∧LD 144∧LD 145∧LD 147∧LD 149∧LD 152∧LD 159∧LD 160∧LD 161∧LD 166∧LD 190∧LD 192∧LD 193∧LD 195∧LD 292:=by and_intros <;> exact Ja
abbrev LM (t:TypeId) (n:Nat):Prop:=∀ {x:Value} {k:au} {w:World},gQ Tryz.prog t x k w=IR n x k w
theorem Jb {t:TypeId} {n:Nat} (h:vQ Tryz.prog t=some n:=by kernel_rfl) (h2:xy Tryz.prog t=true:=by kernel_rfl):LM t n:=Ft h h2
@[go_sem] theorem JH:LM 37 2∧LM 46 3∧LM 53 2∧LM 56 3∧LM 58 5∧LM 62 3∧LM 88 3∧LM 114 4∧LM 122 3∧LM 128 2∧LM 256 3:=by and_intros <;> exact Jb
abbrev SZ (t:TypeId) (n:Nat):Prop:=∀ {x v:Value} {k:au} {w:World},jS Tryz.prog t x v k w=uQ n x v k w
theorem Jc {t:TypeId} {n:Nat} (h:vQ Tryz.prog t=some n:=by kernel_rfl):SZ t n:=Fu h
@[go_sem] theorem JI:SZ 3 1∧SZ 4 1∧SZ 5 1∧SZ 9 1∧SZ 23 1∧SZ 44 1∧SZ 46 3∧SZ 53 2∧SZ 56 3∧SZ 58 5∧SZ 62 3∧SZ 66 1∧SZ 74 1∧SZ 88 3∧SZ 105 1∧SZ 107 1∧SZ 110 1∧SZ 111 1∧SZ 112 1∧SZ 114 4∧SZ 116 1∧SZ 120 1∧SZ 122 3∧SZ 124 4∧SZ 128 2∧SZ 132 70∧SZ 134 1∧SZ 139 1∧SZ 141 9∧SZ 145 1∧SZ 151 12∧SZ 152 1∧SZ 159 1∧SZ 160 1∧SZ 161 1∧SZ 166 1∧SZ 170 2∧SZ 195 1∧SZ 247 2∧SZ 256 3∧SZ 261 3∧SZ 292 1:=by and_intros <;> exact Jc
abbrev OF (t:TypeId) (i o:Nat):Prop:=AO Tryz.prog t i=some o
theorem Jd {t:TypeId} {i o:Nat} (h:AO Tryz.prog t i=some o:=by kernel_rfl):OF t i o:=h
@[go_sem] theorem JJ:OF 37 0 0∧OF 37 1 1∧OF 46 0 0∧OF 46 1 1∧OF 46 2 2∧OF 53 0 0∧OF 53 1 1∧OF 56 0 0∧OF 56 1 1∧OF 56 2 2∧OF 58 1 1∧OF 58 2 2∧OF 62 0 0∧OF 62 1 1∧OF 62 2 2∧OF 88 0 0∧OF 88 1 1∧OF 88 2 2∧OF 114 0 0∧OF 114 1 1∧OF 114 2 2∧OF 114 3 3∧OF 122 0 0∧OF 122 1 1∧OF 122 2 2∧OF 124 0 0∧OF 124 1 1∧OF 128 0 0∧OF 128 1 1∧OF 130 0 0∧OF 130 1 40∧OF 132 0 0∧OF 132 1 1∧OF 132 2 2∧OF 132 3 3∧OF 132 4 4∧OF 132 5 8∧OF 132 6 9∧OF 132 7 10∧OF 141 0 0∧OF 141 1 1∧OF 141 2 2∧OF 141 4 4∧OF 141 5 5∧OF 141 6 6∧OF 141 8 8∧OF 151 0 0∧OF 151 1 1∧OF 151 2 2∧OF 151 3 3∧OF 151 4 4∧OF 151 5 5∧OF 151 6 6∧OF 151 7 10∧OF 151 8 11∧OF 154 0 0∧OF 154 1 1∧OF 154 2 2∧OF 154 3 72∧OF 154 4 81∧OF 154 5 93∧OF 154 6 94∧OF 163 0 0∧OF 163 1 1∧OF 163 2 2∧OF 165 0 0∧OF 165 1 1∧OF 165 2 2∧OF 165 3 5∧OF 168 0 0∧OF 168 1 1∧OF 168 2 2∧OF 170 0 0∧OF 170 1 1∧OF 172 0 0∧OF 172 1 6∧OF 172 2 9∧OF 208 0 0∧OF 208 1 1∧OF 208 5 5∧OF 241 0 0∧OF 241 1 1∧OF 243 0 0∧OF 243 2 2∧OF 243 3 3∧OF 243 4 4∧OF 243 5 5∧OF 243 6 7∧OF 243 7 8∧OF 243 8 9∧OF 247 0 0∧OF 247 1 1∧OF 256 0 0∧OF 256 1 1∧OF 256 2 2∧OF 261 0 0∧OF 261 1 1∧OF 261 2 2:=by and_intros <;> exact Jd
abbrev QA (t:TypeId):Prop:=∀ {xo yo:Operand} {x:Option Addr} {l c l2 c2:Nat} {q:Value→Prop},dC Tryz.prog .eql t xo yo (.slice x l c) (.slice none l2 c2) q=q (.bool x.isNone)
theorem Je {t:TypeId} (h:eu Tryz.prog t=4:=by kernel_rfl):QA t:=oG h
@[go_sem] theorem JK:QA 107:=Je
abbrev QB (t:TypeId):Prop:=∀ {xo yo:Operand} {x:Option Addr} {l c l2 c2:Nat} {q:Value→Prop},dC Tryz.prog .neq t xo yo (.slice x l c) (.slice none l2 c2) q=q (.bool x.isSome)
theorem Jf {t:TypeId} (h:eu Tryz.prog t=4:=by kernel_rfl):QB t:=oJ h
@[go_sem] theorem JL:QB 107:=Jf
abbrev LN (t:TypeId):Prop:=∀ {a:Option Addr} {n c:Nat} {q:Value→Prop},nq Tryz.prog (some t) (some (.slice a n c)) q=q (.int .i64 n)
theorem Jg {t:TypeId} (h:eu Tryz.prog t=4:=by kernel_rfl):LN t:=yO h
@[go_sem] theorem JM:LN 22∧LN 28∧LN 33∧LN 35∧LN 38∧LN 44∧LN 54∧LN 66∧LN 74∧LN 107∧LN 110∧LN 159∧LN 160∧LN 161∧LN 166∧LN 173∧LN 195:=by and_intros <;> exact Jg
abbrev CP (t:TypeId):Prop:=∀ {a:Option Addr} {n c:Nat} {q:Value→Prop},rE Tryz.prog (some t) (some (.slice a n c)) q=q (.int .i64 c)
theorem Jh {t:TypeId} (h:eu Tryz.prog t=4:=by kernel_rfl):CP t:=yP h
@[go_sem] theorem JN:CP 166:=Jh
abbrev IX (t:TypeId) (n:Nat):Prop:=∀ {x i:Value} {q:Value→Prop},eg Tryz.prog t x i q=He n x i q
theorem Ji {t:TypeId} {n:Nat} (h:lV Tryz.prog t=some n:=by kernel_rfl):IX t n:=F0 h
@[go_sem] theorem JO:IX 22 1∧IX 28 3∧IX 33 5∧IX 35 1∧IX 38 2∧IX 44 3∧IX 54 3∧IX 66 1∧IX 74 3∧IX 110 3∧IX 159 3∧IX 160 4∧IX 161 2∧IX 173 1∧IX 195 4:=by and_intros <;> exact Ji
end Go.Proofs
end
