/- Parts of the proof: E. -/
import Derived.Tactics2
import Derived.LoopTactic
import Derived.KernelRfl
set_option linter.all false
namespace Go.E
open Go
abbrev Env:=Nat→Value
def ev (e:Env):Operand→Value
 | .tmp t=>e t
 | .const v=>v
 | .global g => .pointer (some ⟨g,0,none⟩)
 | .func f => .func (.func f) #[] #[]
def put (e:Env) (d:Option Tmp) (v:Value):Env :=
 match d with
 | some d=>fun i=>if i=d then v else e i
 | none=>e
theorem put_some (e:Env) (d:Nat) (v:Value) (i:Nat):put e (some d) v i=if i=d then v else e i:=rfl
def scalarP (P:Program) (t:TypeId):Bool :=
 match P.underlying t with
 | some (.struct _) | some (.array ..) | none=>false
 | some _=>true
def aggP (P:Program) (t:TypeId):Bool :=
 match P.underlying t with
 | some (.struct _) | some (.array ..)=>true
 | _=>false
def szP (P:Program) (t:TypeId):Option Nat:=(P.info? t).map (·.size)
def offP (P:Program) (s:TypeId) (f:Nat):Option Nat :=
 match P.underlying s with
 | some (.struct fs)=>match fs[f]? with
   | some fd=>match szP P fd.type with
    | some (_+1)=>some fd.offset
    | _=>none
   | none=>none
 | _=>none
def zeroP (P:Program) (t:TypeId):Option (List Value):=((P.info? t).bind (·.zero)).map (·.cells.toList)
def eszP (P:Program) (t:TypeId):Option Nat :=
 match P.underlying t with
 | some (.slice e)=>szP P e
 | _=>none
def optE (o:Option Value) (k:Value→Prop):Prop :=
 match o with
 | some v=>k v
 | none=>False
def guardE (c:Prop) (p:Prop):Prop:=c∧p
def loadL (w:World) (a:Addr):(i n:Nat)→(List Value→Prop)→Prop
 | _,0,k=>k []
 | i,n+1,k=>optE (w.cell? (a.add i)) fun v=>loadL w a (i+1) n fun vs=>k (v :: vs)
def st1 (o:Option Value) (fz:Bool) (v:Value) (p:Prop):Prop:=(o.isSome=true∧fz=false∧v.oneCell'=true)∧p
def storeL:World→Addr→Nat→List Value→(World→Prop)→Prop
 | w,_,_,[],k=>k w
 | w,a,i,v :: vs,k=>st1 (w.cell? (a.add i)) (w.frozen? (a.add i)) v (storeL (w.setCell (a.add i) v) a (i+1) vs k)
abbrev Kont:=Value→World→Prop
def loadE (P:Program) (t:TypeId) (x:Value) (k:Kont) (w:World):Prop :=
 match x with
 | .pointer (some a) =>
   if scalarP P t then optE (w.cell? a) fun v=>k v w
   else if aggP P t then
    match szP P t with
    | some n=>loadL w a 0 n fun vs=>k (.agg vs.toArray) w
    | none=>False
   else False
 | _=>False
def storeE (P:Program) (t:TypeId) (x v:Value) (k:Kont) (w:World):Prop :=
 match x with
 | .pointer (some a)=>guardE (szP P t=some v.cells.size) (storeL w a 0 v.cells.toList fun w'=>k undef w')
 | _=>False
def nilE (x:Value) (k:Value→Prop):Prop :=
 match x with
 | .pointer (some a)=>k (.pointer (some a))
 | .func (.func f) a b=>k (.func (.func f) a b)
 | .iface t v=>k (.iface t v)
 | .slice a l c=>k (.slice a l c)
 | _=>False
def fieldAddrE (off:Option Nat) (x:Value) (k:Value→Prop):Prop :=
 match off,x with
 | some o,.pointer (some a)=>k (.pointer (some (a.add o)))
 | _,_=>False
def partE (P:Program) (t:TypeId) (cs:Array Value) (off:Nat) (k:Value→Prop):Prop :=
 if aggP P t then
  match szP P t with
  | some n=>k (.agg (cs.extract off (off+n)))
  | none=>False
 else if scalarP P t then optE cs[off]? k else False
def fieldE (P:Program) (s:TypeId) (f:Nat) (x:Value) (k:Value→Prop):Prop :=
 match P.underlying s,x with
 | some (.struct fs),.agg cs=>match fs[f]? with
   | some fd=>partE P fd.type cs fd.offset k
   | none=>False
 | _,_=>False
def indexAddrE (P:Program) (t:TypeId) (x i:Value) (k:Value→Prop):Prop :=
 match eszP P t,x,i with
 | some n,.slice (some a) len _,.int _ i=>guardE (0≤i∧i < len) (k (.pointer (some (a.add (i.toNat * n)))))
 | _,_,_=>False
def indexE (P:Program) (t:TypeId) (x i:Value) (k:Value→Prop):Prop :=
 match P.underlying t,x,i with
 | some .string,.string s,.int _ i=>guardE (0≤i∧i < s.size) (k (.int .u8 (s[i.toNat]?.getD 0).toNat))
 | _,_,_=>False
def boolE (x:Value) (k:Bool→Prop):Prop :=
 match x with
 | .bool b=>k b
 | _=>False
def eqV:Value→Value→Option Bool
 | .bool a,.bool b=>some (a == b)
 | .int k a,.int k' b=>if k=k' then some (a == b) else none
 | .string a,.string b=>some (a.toList == b.toList)
 | .pointer none,.pointer b=>some b.isNone
 | .pointer (some _),.pointer none=>some false
 | .slice none _ _,.slice b _ _=>some b.isNone
 | .slice (some _) _ _,.slice none _ _=>some false
 | .iface _ _,.nilIface=>some false
 | .nilIface,.iface _ _=>some false
 | _,_=>none
def intE (op:BinOp) (k:IntKind) (a b:Int) (q:Value→Prop):Prop :=
 match op with
 | .add=>q (.int k (k.wrap (a+b)))
 | .sub=>q (.int k (k.wrap (a - b)))
 | .mul=>q (.int k (k.wrap (a * b)))
 | .quo=>guardE (b≠0) (q (.int k (k.wrap (a.tdiv b))))
 | .rem=>guardE (b≠0) (q (.int k (a.tmod b)))
 | .and=>q (.int k (k.wrap (BitVec.ofInt k.bits a &&& BitVec.ofInt k.bits b).toNat))
 | .or=>q (.int k (k.wrap (BitVec.ofInt k.bits a ||| BitVec.ofInt k.bits b).toNat))
 | .xor=>q (.int k (k.wrap (BitVec.ofInt k.bits a ^^^ BitVec.ofInt k.bits b).toNat))
 | .eql=>q (.bool (a == b))
 | .neq=>q (.bool (a != b))
 | .lss=>q (.bool (a < b))
 | .leq=>q (.bool (a≤b))
 | .gtr=>q (.bool (a > b))
 | .geq=>q (.bool (a ≥ b))
 | _=>False
def shiftE (op:BinOp) (k:IntKind) (a b:Int) (q:Value→Prop):Prop :=
 match op with
 | .shl=>guardE (0≤b) (q (.int k (k.wrap (a * 2 ^ (min b.toNat k.bits)))))
 | .shr=>guardE (0≤b) (q (.int k (a.fdiv (2 ^ (min b.toNat k.bits)))))
 | _=>False
def strE (op:BinOp) (a b:ByteArray) (q:Value→Prop):Prop :=
 match op with
 | .eql=>q (.bool (a.toList == b.toList))
 | .neq=>q (.bool (!(a.toList == b.toList)))
 | .lss=>q (.bool (Op.bytesLess a.toList b.toList))
 | .leq=>q (.bool (Op.bytesLess a.toList b.toList || a.toList == b.toList))
 | .gtr=>q (.bool (!(Op.bytesLess a.toList b.toList || a.toList == b.toList)))
 | .geq=>q (.bool (!(Op.bytesLess a.toList b.toList)))
 | _=>False
def isShift:BinOp→Bool
 | .shl | .shr=>true
 | _=>false
def ifaceP (P:Program) (t:TypeId):Bool :=
 match P.underlying t with
 | some (.interface _)=>true
 | _=>false
def isConstO:Operand→Bool
 | .const _=>true
 | _=>false
def eqE (P:Program) (neg:Bool) (t:TypeId) (xo yo:Operand) (x y:Value) (q:Value→Prop):Prop :=
 match x,y with
 | .nilIface,.nilIface=>guardE ((isConstO xo || isConstO yo)=true∧ifaceP P t=true) (q (.bool (xor neg true)))
 | .nilIface,.iface _ _=>guardE (ifaceP P t=true) (q (.bool neg))
 | .iface _ _,.nilIface=>guardE (ifaceP P t=true) (q (.bool neg))
 | .bool a,.bool b=>guardE (P.underlying t=some .bool) (q (.bool (xor neg (a == b))))
 | .pointer none,.pointer b=>guardE (P.underlying t matches some (.pointer _)) (q (.bool (xor neg b.isNone)))
 | .pointer (some _),.pointer none=>guardE (P.underlying t matches some (.pointer _)) (q (.bool neg))
 | .slice none _ _,.slice b _ _=>guardE (P.underlying t matches some (.slice _)) (q (.bool (xor neg b.isNone)))
 | .slice (some _) _ _,.slice none _ _=>guardE (P.underlying t matches some (.slice _)) (q (.bool neg))
 | .agg a,.agg b=>∃ r:Bool,(∀ w,(do eqGuard (if neg then .neq else .eql) t xo yo (.agg a) (.agg b); binOp (if neg then .neq else .eql) t (.agg a) (.agg b):Sem Value).run P w = .ok (.bool r) w)∧q (.bool r)
 | _,_=>False
def binE (P:Program) (op:BinOp) (t:TypeId) (xo yo:Operand) (x y:Value) (q:Value→Prop):Prop :=
 match x,y with
 | .int k a,.int k' b=>if isShift op then shiftE op k a b q else if k=k' then intE op k a b q else False
 | .string a,.string b=>strE op a b q
 | x,y=>match op with
  | .eql=>eqE P false t xo yo x y q
  | .neq=>eqE P true t xo yo x y q
  | _=>False
def unE (op:UnOp) (x:Value) (q:Value→Prop):Prop :=
 match op,x with
 | .not,.bool b=>q (.bool !b)
 | .neg,.int k n=>q (.int k (k.wrap (0 - n)))
 | _,_=>False
def methP (P:Program) (t:TypeId) (name:String):Option FuncId :=
 match (P.info? t).bind fun i=>i.methods.find? (·.name == name) with
 | some m=>if m.path.isEmpty then match m.func with
     | some (f,true)=>match P.underlying t with
       | some (.pointer _)=>some f
       | _=>none
     | some (f,false)=>match P.underlying t with
       | some (.pointer _) | none=>none
       | _=>some f
     | none=>none
  else none
 | none=>none
def entersP (P:Program) (f:FuncId):Bool :=
 match P.funcs[f]? with
 | some fn => fn.body.isSome && fn.name != "runtime.NumGoroutine"
 | none=>false
def callK (P:Program) (f:FuncId) (args:Array Value) (k:Kont) (w:World):Prop :=
 Calls P f args w fun en w'=>∃ v,en = .returned v∧k v w'
def semE (P:Program) (s:Sem Value) (k:Kont) (w:World):Prop :=
 match s.run P w with
 | .ok v w'=>k v w'
 | .halt .. => False
def externP (P:Program) (f:FuncId):Option (Array Value→Sem Value) :=
 match P.funcs[f]? with
 | some fn => if fn.name == "runtime.NumGoroutine" || fn.body.isSome then none else
  match Extern.findNext fn with
  | some _=>none
  | none=>Extern.find fn
 | none=>none
def callE (P:Program) (fv:Value) (args:Array Value) (k:Kont) (w:World):Prop :=
 match fv with
 | .func (.func f) first cap=>if entersP P f then callK P f (first++args++cap) k w else
   match externP P f with
   | some s=>semE P (s (first++args++cap)) k w
   | none=>False
 | _=>False
def invokeE (P:Program) (recv:Value) (name:String) (args:Array Value) (k:Kont) (w:World):Prop :=
 match recv with
 | .iface t v=>match methP P t name with
  | some f=>guardE (entersP P f=true) (callK P f (#[v]++args) k w)
  | none=>False
 | _=>False
def lenE (P:Program) (t:Option TypeId) (x:Option Value) (k:Value→Prop):Prop :=
 match t.bind P.underlying,x with
 | some (.slice _),some (.slice _ n _)=>k (.int .i64 n)
 | some .string,some (.string s)=>k (.int .i64 s.size)
 | _,_=>False
def capE (P:Program) (t:Option TypeId) (x:Option Value) (k:Value→Prop):Prop :=
 match t.bind P.underlying,x with
 | some (.slice _),some (.slice _ _ n)=>k (.int .i64 n)
 | _,_=>False
def boundE (o:Option Value) (d:Int) (k:Int→Prop):Prop :=
 match o with
 | none=>k d
 | some (.int _ i)=>k i
 | some _=>False
def sliceE (P:Program) (t:TypeId) (x:Value) (lo hi mx:Option Value) (k:Value→Prop):Prop :=
 match P.underlying t,x with
 | some (.slice el),.slice a len cap=>match szP P el with
   | some n=>boundE mx cap fun m=>boundE hi len fun h=>boundE lo 0 fun l=>guardE ((0≤l∧l≤h)∧(h≤m∧m≤cap)∧(mx.isSome=true→hi.isSome=true))
       (k (.slice (if m=l then a else a.map (·.add (l.toNat * n))) (h.toNat - l.toNat) (m.toNat - l.toNat)))
   | none=>False
 | some (.array len el),.pointer (some a)=>match szP P el with
   | some n=>boundE mx len fun m=>boundE hi len fun h=>boundE lo 0 fun l=>guardE ((0≤l∧l≤h)∧(h≤m∧m≤len)∧(mx.isSome=true→hi.isSome=true))
       (k (.slice (some (if m=l then a else a.add (l.toNat * n))) (h.toNat - l.toNat) (m.toNat - l.toNat)))
   | none=>False
 | _,_=>False
def placesP (P:Program) (t:TypeId):Option (Array (Nat × Nat)) :=
 match P.underlying t with
 | some (.struct fs)=>fs.mapM fun f=>(szP P f.type).map fun s=>(f.offset,s)
 | _=>none
def buildE (P:Program) (t:TypeId) (parts:Array (Nat × Value)) (k:Value→Prop):Prop :=
 match placesP P t,(P.info? t).bind (·.zero) with
 | some pl,some z=>match Instr.fill (pl[·]?) z.cells parts.toList with
  | some cells=>k (.agg cells)
  | none=>False
 | _,_=>False
def lettersOf:List Value→Option (List UInt8)
 | []=>some []
 | .int .u8 n :: vs=>(lettersOf vs).map (UInt8.ofNat n.toNat :: ·)
 | _ :: _=>none
def stringE (w:World) (x:Value) (k:Value→Prop):Prop :=
 match x with
 | .slice none _ _=>k (.string .empty)
 | .slice (some a) len _=>loadL w a 0 len fun vs=>match lettersOf vs with
   | some l=>k (.string ⟨l.toArray⟩)
   | none=>False
 | _=>False
def convE (P:Program) (s d:TypeId) (x:Value) (k:Kont) (w:World):Prop :=
 match P.underlying s,P.underlying d,x with
 | some (.int _),some (.int kd),.int _ n=>k (.int kd (kd.wrap n)) w
 | some (.slice e),some .string,x=>guardE (P.underlying e=some (.int .u8)) (stringE w x fun v=>k v w)
 | some .string,some .string,.string s=>k (.string s) w
 | some .string,some (.slice _),.string _=>semE P (convert s d x) k w
 | _,_,_=>False
def builtinE (P:Program) (b:Builtin) (ats:Array TypeId) (ty:TypeId) (args:Array Value) (k:Kont) (w:World):Prop :=
 match b with
 | .len=>lenE P ats[0]? args[0]? fun v=>k v w
 | .cap=>capE P ats[0]? args[0]? fun v=>k v w
 | .append=>semE P (Builtin.append_ ats ty args) k w
 | .copy=>semE P (Builtin.copy_ ats ty args) k w
 | .max=>semE P (Builtin.max_ ats ty args) k w
 | .min=>semE P (Builtin.min_ ats ty args) k w
 | _=>False
def extractE (x:Value) (i:Nat) (k:Value→Prop):Prop :=
 match x with
 | .tuple vs=>optE vs[i]? k
 | _=>False
def mkIfaceE (P:Program) (t:TypeId) (x:Value) (k:Value→Prop):Prop :=
 match P.underlying t with
 | some (.interface _) | none=>False
 | some _=>k (.iface t x)
def opE (P:Program) (o:Oper) (e:Env) (k:Kont) (w:World):Prop :=
 match o.op with
 | .move x | .assign x=>k (ev e x) w
 | .pick c a b=>boolE (ev e c) fun t=>k (if t then ev e a else ev e b) w
 | .load t a=>loadE P t (ev e a) k w
 | .store t a x=>storeE P t (ev e a) (ev e x) k w
 | .nilCheck x=>nilE (ev e x) fun v=>k v w
 | .fieldAddr s x f=>fieldAddrE (offP P s f) (ev e x) fun v=>k v w
 | .field s x f=>fieldE P s f (ev e x) fun v=>k v w
 | .indexAddr t x i=>indexAddrE P t (ev e x) (ev e i) fun v=>k v w
 | .index t x i=>indexE P t (ev e x) (ev e i) fun v=>k v w
 | .binOp op t x y _=>binE P op t x y (ev e x) (ev e y) fun v=>k v w
 | .unOp op _ x=>unE op (ev e x) fun v=>k v w
 | .extract x i=>extractE (ev e x) i fun v=>k v w
 | .makeInterface t x=>mkIfaceE P t (ev e x) fun v=>k v w
 | .makeFunc fn first cap=>k (.func fn (first.map (ev e)) (cap.map (ev e))) w
 | .alloc t=>semE P (Instr.alloc t true (.tuple #[])) k w
 | .box t x=>semE P (Instr.box t (ev e x)) k w
 | .build t parts=>buildE P t (parts.map fun (i,x)=>(i,ev e x)) fun v=>k v w
 | .buildSlice t n parts=>semE P (Instr.buildSlice t n (parts.map fun (i,x)=>(i,ev e x))) k w
 | .convert s d x=>convE P s d (ev e x) k w
 | .makeSlice t l c=>semE P (Instr.makeSlice t (ev e l) (ev e c)) k w
 | .slice t x lo hi mx=>sliceE P t (ev e x) (lo.map (ev e)) (hi.map (ev e)) (mx.map (ev e)) fun v=>k v w
 | .call c=>match c.callee with
  | .value f=>callE P (ev e f) (c.args.map (ev e)) k w
  | .invoke r m=>invokeE P (ev e r) m (c.args.map (ev e)) k w
  | .builtin b=>builtinE P b c.argTypes o.type (c.args.map (ev e)) k w
 | _=>False
def want (ops:Array Oper) (e:Env) (g:Option (Nat × Bool)):Bool :=
 match g with
 | none=>true
 | some (j,b)=>match (ops[j]?).bind (·.dst) with
   | some d=>match e d with
    | .bool x=>x == b
    | _=>false
   | none=>false
def regE (P:Program) (ops:Array Oper):List Oper→Env→(Env→World→Prop)→World→Prop
 | [],e,k,w=>k e w
 | o :: rest,e,k,w=>if want ops e o.guard then opE P o e (fun v w'=>regE P ops rest (put e o.dst v) k w') w else regE P ops rest (put e o.dst undef) k w
section mono
variable {P:Program} {w:World}
theorem optE_mono {o:Option Value} {k k':Value→Prop} (h:∀ v,k v→k' v):optE o k→optE o k':=by
 cases o with
 | none=>exact id
 | some v=>exact h v
theorem guardE_mono {c p p':Prop} (h:p→p'):guardE c p→guardE c p':=And.imp id h
theorem loadL_mono {a:Addr}:∀ (n i:Nat) {k k':List Value→Prop},(∀ v,k v→k' v)→loadL w a i n k→loadL w a i n k'
 | 0,_,_,_,h=>h _
 | n+1,_,_,_,h=>optE_mono fun _=>loadL_mono n _ fun _=>h _
theorem storeL_mono {a:Addr}:∀ (vs:List Value) (w:World) (i:Nat) {k k':World→Prop},(∀ w,k w→k' w)→storeL w a i vs k→storeL w a i vs k'
 | [],_,_,_,_,h=>h _
 | _ :: vs,_,_,_,_,h=>And.imp id (storeL_mono vs _ _ h)
theorem loadE_mono {t:TypeId} {x:Value} {k k':Kont} (h:∀ v w,k v w→k' v w):loadE P t x k w→loadE P t x k' w:=by
 unfold loadE
 split
 ·split
  ·exact optE_mono fun _=>h _ _
  ·split
   ·split
    ·exact loadL_mono _ _ fun _=>h _ _
    ·exact id
   ·exact id
 ·exact id
theorem storeE_mono {t:TypeId} {x v:Value} {k k':Kont} (h:∀ v w,k v w→k' v w):storeE P t x v k w→storeE P t x v k' w:=by
 unfold storeE
 split
 ·exact guardE_mono (storeL_mono _ _ _ fun _=>h _ _)
 ·exact id
theorem nilE_mono {x:Value} {k k':Value→Prop} (h:∀ v,k v→k' v):nilE x k→nilE x k':=by
 unfold nilE
 split <;> first | exact h _ | exact id
theorem fieldAddrE_mono {o:Option Nat} {x:Value} {k k':Value→Prop} (h:∀ v,k v→k' v):fieldAddrE o x k→fieldAddrE o x k':=by
 unfold fieldAddrE
 split <;> first | exact h _ | exact id
theorem partE_mono {t:TypeId} {cs:Array Value} {off:Nat} {k k':Value→Prop} (h:∀ v,k v→k' v):partE P t cs off k→partE P t cs off k':=by
 unfold partE
 split
 ·split
  ·exact h _
  ·exact id
 ·split
  ·exact optE_mono h
  ·exact id
theorem fieldE_mono {s:TypeId} {f:Nat} {x:Value} {k k':Value→Prop} (h:∀ v,k v→k' v):fieldE P s f x k→fieldE P s f x k':=by
 unfold fieldE
 split
 ·split
  ·exact partE_mono h
  ·exact id
 ·exact id
theorem indexAddrE_mono {t:TypeId} {x i:Value} {k k':Value→Prop} (h:∀ v,k v→k' v):indexAddrE P t x i k→indexAddrE P t x i k':=by
 unfold indexAddrE
 split
 ·exact guardE_mono (h _)
 ·exact id
theorem indexE_mono {t:TypeId} {x i:Value} {k k':Value→Prop} (h:∀ v,k v→k' v):indexE P t x i k→indexE P t x i k':=by
 unfold indexE
 split
 ·exact guardE_mono (h _)
 ·exact id
theorem boolE_mono {x:Value} {k k':Bool→Prop} (h:∀ v,k v→k' v):boolE x k→boolE x k':=by
 unfold boolE
 split <;> first | exact h _ | exact id
theorem intE_mono {op:BinOp} {kd:IntKind} {a b:Int} {k k':Value→Prop} (h:∀ v,k v→k' v):intE op kd a b k→intE op kd a b k':=by
 unfold intE
 split <;> first | exact h _ | exact guardE_mono (h _) | exact id
theorem shiftE_mono {op:BinOp} {kd:IntKind} {a b:Int} {k k':Value→Prop} (h:∀ v,k v→k' v):shiftE op kd a b k→shiftE op kd a b k':=by
 unfold shiftE
 split <;> first | exact guardE_mono (h _) | exact id
theorem strE_mono {op:BinOp} {a b:ByteArray} {k k':Value→Prop} (h:∀ v,k v→k' v):strE op a b k→strE op a b k':=by
 unfold strE
 split <;> first | exact h _ | exact id
theorem eqE_mono {neg:Bool} {t:TypeId} {xo yo:Operand} {x y:Value} {k k':Value→Prop} (h:∀ v,k v→k' v):eqE P neg t xo yo x y k→eqE P neg t xo yo x y k':=by
 unfold eqE
 split <;> first | exact guardE_mono (h _) | exact id | exact fun ⟨r,h1,h2⟩=>⟨r,h1,h _ h2⟩
theorem binE_mono {op:BinOp} {t:TypeId} {xo yo:Operand} {x y:Value} {k k':Value→Prop} (h:∀ v,k v→k' v):binE P op t xo yo x y k→binE P op t xo yo x y k':=by
 unfold binE
 split
 ·split
  ·exact shiftE_mono h
  ·split
   ·exact intE_mono h
   ·exact id
 ·exact strE_mono h
 ·split <;> first | exact eqE_mono h | exact id
theorem unE_mono {op:UnOp} {x:Value} {k k':Value→Prop} (h:∀ v,k v→k' v):unE op x k→unE op x k':=by
 unfold unE
 split <;> first | exact h _ | exact id
theorem callK_mono {f:FuncId} {args:Array Value} {k k':Kont} (h:∀ v w,k v w→k' v w):callK P f args k w→callK P f args k' w :=
 fun hc=>hc.mono fun _ _ ⟨v,hv,hk⟩=>⟨v,hv,h _ _ hk⟩
theorem invokeE_mono {r:Value} {nm:String} {args:Array Value} {k k':Kont} (h:∀ v w,k v w→k' v w):invokeE P r nm args k w→invokeE P r nm args k' w:=by
 unfold invokeE
 split
 ·split
  ·exact guardE_mono (callK_mono h)
  ·exact id
 ·exact id
theorem semE_mono {s:Sem Value} {k k':Kont} (h:∀ v w,k v w→k' v w):semE P s k w→semE P s k' w:=by
 unfold semE
 split <;> first | exact h _ _ | exact id
theorem callE_mono {fv:Value} {args:Array Value} {k k':Kont} (h:∀ v w,k v w→k' v w):callE P fv args k w→callE P fv args k' w:=by
 unfold callE
 split
 ·split
  ·exact callK_mono h
  ·split
   ·exact semE_mono h
   ·exact id
 ·exact id
theorem lenE_mono {t:Option TypeId} {x:Option Value} {k k':Value→Prop} (h:∀ v,k v→k' v):lenE P t x k→lenE P t x k':=by
 unfold lenE
 split <;> first | exact h _ | exact id
theorem capE_mono {t:Option TypeId} {x:Option Value} {k k':Value→Prop} (h:∀ v,k v→k' v):capE P t x k→capE P t x k':=by
 unfold capE
 split <;> first | exact h _ | exact id
theorem boundE_mono {o:Option Value} {d:Int} {k k':Int→Prop} (h:∀ v,k v→k' v):boundE o d k→boundE o d k':=by
 unfold boundE
 split <;> first | exact h _ | exact id
theorem sliceE_mono {t:TypeId} {x:Value} {lo hi mx:Option Value} {k k':Value→Prop} (h:∀ v,k v→k' v):sliceE P t x lo hi mx k→sliceE P t x lo hi mx k':=by
 unfold sliceE
 split
 ·split
  ·exact boundE_mono fun _=>boundE_mono fun _=>boundE_mono fun _=>guardE_mono (h _)
  ·exact id
 ·split
  ·exact boundE_mono fun _=>boundE_mono fun _=>boundE_mono fun _=>guardE_mono (h _)
  ·exact id
 ·exact id
theorem buildE_mono {t:TypeId} {parts:Array (Nat × Value)} {k k':Value→Prop} (h:∀ v,k v→k' v):buildE P t parts k→buildE P t parts k':=by
 unfold buildE
 split
 ·split <;> first | exact h _ | exact id
 ·exact id
theorem stringE_mono {x:Value} {k k':Value→Prop} (h:∀ v,k v→k' v):stringE w x k→stringE w x k':=by
 unfold stringE
 split
 ·exact h _
 ·exact loadL_mono _ _ fun vs=>by split <;> first | exact h _ | exact id
 ·exact id
theorem convE_mono {s d:TypeId} {x:Value} {k k':Kont} (h:∀ v w,k v w→k' v w):convE P s d x k w→convE P s d x k' w:=by
 unfold convE
 split
 ·exact h _ _
 ·exact guardE_mono (stringE_mono fun _=>h _ _)
 ·exact h _ _
 ·exact semE_mono h
 ·exact id
theorem builtinE_mono {b:Builtin} {ats:Array TypeId} {ty:TypeId} {args:Array Value} {k k':Kont} (h:∀ v w,k v w→k' v w):builtinE P b ats ty args k w→builtinE P b ats ty args k' w:=by
 unfold builtinE
 split <;> first | exact semE_mono h | exact lenE_mono fun _=>h _ _ | exact capE_mono fun _=>h _ _ | exact id
theorem extractE_mono {x:Value} {i:Nat} {k k':Value→Prop} (h:∀ v,k v→k' v):extractE x i k→extractE x i k':=by
 unfold extractE
 split <;> first | exact optE_mono h | exact id
theorem mkIfaceE_mono {t:TypeId} {x:Value} {k k':Value→Prop} (h:∀ v,k v→k' v):mkIfaceE P t x k→mkIfaceE P t x k':=by
 unfold mkIfaceE
 split <;> first | exact h _ | exact id
theorem opE_mono {o:Oper} {e:Env} {k k':Kont} (h:∀ v w,k v w→k' v w):opE P o e k w→opE P o e k' w:=by
 unfold opE
 split
 case h_23 =>
  split
  ·exact callE_mono h
  ·exact invokeE_mono h
  ·exact builtinE_mono h
 all_goals first
  | exact h _ _
  | exact boolE_mono fun _=>h _ _
  | exact loadE_mono h
  | exact storeE_mono h
  | exact nilE_mono fun _=>h _ _
  | exact fieldAddrE_mono fun _=>h _ _
  | exact fieldE_mono fun _=>h _ _
  | exact indexAddrE_mono fun _=>h _ _
  | exact indexE_mono fun _=>h _ _
  | exact binE_mono fun _=>h _ _
  | exact unE_mono fun _=>h _ _
  | exact extractE_mono fun _=>h _ _
  | exact mkIfaceE_mono fun _=>h _ _
  | exact sliceE_mono fun _=>h _ _
  | exact buildE_mono fun _=>h _ _
  | exact convE_mono h
  | exact semE_mono h
  | exact id
end mono
def stepK (P:Program) (k:Kont):Result Next→Prop
 | .ok (.value v) w=>k v w
 | .ok .skip w=>k undef w
 | .ok (.enter f args) w=>callK P f args k w
 | _=>False
section sound
variable {P:Program} {w:World}
theorem optE_iff {o:Option Value} {k:Value→Prop}:optE o k↔∃ v,o=some v∧k v:=by
 cases o <;> simp [optE]
theorem loadL_run {a:Addr}:∀ (n i:Nat) (acc:Array Value) {k:List Value→Prop},loadL w a i n k →
    ∃ vs,(loadCellsFrom a i n acc).run P w = .ok (acc++vs.toArray) w∧k vs
 | 0,i,acc,k,h=>⟨[],by simp [loadCellsFrom],h⟩
 | n+1,i,acc,k,h=>by
  obtain ⟨v,hv,h⟩:=optE_iff.1 h
  obtain ⟨vs,hr,hk⟩:=loadL_run n (i+1) (acc.push v) h
  refine ⟨v :: vs,?_,hk⟩
  simp only [loadCellsFrom,Sem.run_bind,run_load,hv,Result.andThen_ok,hr]
  simp
theorem storeL_run {a:Addr}:∀ (vs:List Value) (w:World) (i:Nat) {k:World→Prop},storeL w a i vs k →
    ∃ w',(storeCells a vs i).run P w = .ok () w'∧k w'
 | [],w,i,k,h=>⟨w,by simp [storeCells],h⟩
 | v :: vs,w,i,k,h=>by
  obtain ⟨⟨h1,h2,h3⟩,h⟩:=h
  obtain ⟨x,hx⟩:=Option.isSome_iff_exists.1 h1
  obtain ⟨w',hr,hk⟩:=storeL_run vs _ (i+1) h
  exact ⟨w',by simp [storeCells,run_store _ _ _ _ _ h3,hx,h2,hr],hk⟩
theorem underlying_of_scalar {t:TypeId} (h:scalarP P t=true):∃ d,P.underlying t=some d∧(∀ fs,d ≠ .struct fs)∧(∀ n e,d ≠ .array n e):=by
 unfold scalarP at h
 split at h <;> simp_all
theorem isAgg_run (t:TypeId):(scalarP P t=true→(isAgg t).run P w = .ok false w)∧(aggP P t=true→(isAgg t).run P w = .ok true w):=by
 constructor
 ·intro h
  obtain ⟨d,hd,h1,h2⟩:=underlying_of_scalar h
  simp only [isAgg,Sem.run_bind,run_underlying hd,Result.andThen_ok]
  cases d <;> simp_all
 ·intro h
  unfold aggP at h
  split at h <;> simp_all [isAgg,run_underlying]
theorem sizeOf_run {t:TypeId} {n:Nat} (h:szP P t=some n):(sizeOf t).run P w = .ok n w:=by
 unfold szP at h
 cases hi:P.info? t with
 | none=>simp [hi] at h
 | some i=>simp [hi] at h; simp [sizeOf,typeInfo,hi,h]
theorem loadE_run {t:TypeId} {x:Value} {k:Kont} (h:loadE P t x k w):∃ v,(Instr.loadAt t x).run P w = .ok v w∧k v w:=by
 unfold loadE at h
 split at h
 ·rename_i a
  split at h
  ·rename_i hs
   obtain ⟨v,hv,hk⟩:=optE_iff.1 h
   exact ⟨v,by simp [Instr.loadAt,Instr.sureAddr,loadVar,(isAgg_run t).1 hs,hv],hk⟩
  ·split at h
   ·rename_i hs
    split at h
    ·rename_i n hn
     obtain ⟨vs,hr,hk⟩:=loadL_run (P:=P) n 0 #[] h
     exact ⟨_,by simp [Instr.loadAt,Instr.sureAddr,loadVar,(isAgg_run t).2 hs,sizeOf_run hn,loadCells,hr],hk⟩
    ·exact h.elim
   ·exact h.elim
 ·exact h.elim
theorem storeE_run {t:TypeId} {x v:Value} {k:Kont} (h:storeE P t x v k w):∃ w',(Instr.storeAt t x v).run P w = .ok () w'∧k undef w':=by
 unfold storeE at h
 split at h
 ·obtain ⟨hsz,h⟩:=h
  obtain ⟨w',hr,hk⟩:=storeL_run (P:=P) _ _ _ h
  exact ⟨w',by simp [Instr.storeAt,Instr.sureAddr,storeVar,sizeOf_run hsz,hr],hk⟩
 ·exact h.elim
theorem offP_run {s:TypeId} {f o:Nat} (h:offP P s f=some o) (a:Addr):(Instr.fieldAt s (.pointer (some a)) f).run P w = .ok (.pointer (some (a.add o))) w:=by
 unfold offP at h
 split at h
 ·rename_i fs hs
  split at h
  ·rename_i fd hf
   split at h
   ·rename_i n hn
    simp only [Option.some.injEq] at h
    simp [Instr.fieldAt,run_underlying hs,hf,Instr.sureAddr,fieldPlace,sizeOf_run hn,h]
   ·simp at h
  ·simp at h
 ·simp at h
theorem partE_run {t:TypeId} {cs:Array Value} {off:Nat} {k:Value→Prop} (h:partE P t cs off k):∃ v,(part t cs off).run P w = .ok v w∧k v:=by
 unfold partE at h
 split at h
 ·rename_i hs
  split at h
  ·rename_i n hn
   exact ⟨_,by simp [part,(isAgg_run t).2 hs,sizeOf_run hn],h⟩
  ·exact h.elim
 ·split at h
  ·rename_i hs
   obtain ⟨v,hv,hk⟩:=optE_iff.1 h
   exact ⟨v,by simp [part,(isAgg_run t).1 hs,hv],hk⟩
  ·exact h.elim
theorem eszP_eq {t:TypeId} {n:Nat} (h:eszP P t=some n):∃ el,P.underlying t=some (.slice el)∧szP P el=some n:=by
 unfold eszP at h
 split at h
 ·exact ⟨_,‹_›,h⟩
 ·simp at h
theorem semE_run {s:Sem Value} {k:Kont} (h:semE P s k w):∃ v w',s.run P w = .ok v w'∧k v w':=by
 unfold semE at h
 split at h
 ·exact ⟨_,_,‹_›,h⟩
 ·exact h.elim
theorem callFunc_run {f:FuncId} {args:Array Value} (h:entersP P f=true):(callFunc f args).run P w = .ok (.enter f args) w:=by
 unfold entersP at h
 split at h
 ·rename_i fn hf
  simp only [Bool.and_eq_true,bne_iff_ne,ne_eq] at h
  obtain ⟨h1,h2⟩:=h
  have hb:¬ fn.body.isNone=true:=by
   cases hb:fn.body <;> simp_all
  simp only [callFunc,Sem.run_bind,run_program,Result.andThen_ok,hf]
  rw [if_neg (by simpa using h2),if_neg hb]
  rfl
 ·simp at h
theorem val_run {s:Sem Value} {v:Value} {w':World} (h:s.run P w = .ok v w'):(do pure (.value (← s)):Sem Next).run P w = .ok (.value v) w':=by
 simp only [Sem.run_bind,h,Result.andThen_ok,Sem.run_pure]
theorem extern_run {f:FuncId} {args:Array Value} {s:Array Value→Sem Value} {v:Value} {w':World} (h:externP P f=some s) (hr:(s args).run P w = .ok v w'):(callFunc f args).run P w = .ok (.value v) w':=by
 unfold externP at h
 split at h
 ·rename_i fn hf
  split at h
  ·simp at h
  ·rename_i hc
   simp only [Bool.or_eq_true,not_or,Bool.not_eq_true,Option.isSome_eq_false_iff] at hc
   split at h
   ·simp at h
   ·rename_i hn
    simp only [callFunc,Sem.run_bind,run_program,Result.andThen_ok,hf]
    rw [if_neg (by simp [hc.1]),if_pos hc.2]
    simp only [Sem.run_bind,run_mark,Result.andThen_ok,hn,h]
    rw [hr]; rfl
 ·simp at h
theorem methP_run {t:TypeId} {v:Value} {name:String} {f:FuncId} (h:methP P t name=some f) (n:Nat):(method (n+1) t v name).run P w = .ok (f,v) w:=by
 unfold methP at h
 split at h
 ·rename_i m hm
  split at h
  ·rename_i hp
   cases hi:P.info? t with
   | none=>simp [hi] at hm
   | some i =>
    simp [hi] at hm
    have hpl:m.path.toList=[]:=by simpa using hp
    split at h
    ·rename_i f' hf
     split at h
     ·rename_i el hu
      simp only [Option.some.injEq] at h
      subst h
      simp [method,typeInfo,hi,hm,hpl,follow,hf,receiverAt,run_underlying hu,Place.get]
     ·simp at h
    ·rename_i f' hf
     split at h
     ·simp at h
     ·simp at h
     ·rename_i hu1 hu2
      simp only [Option.some.injEq] at h
      subst h
      cases hu:P.underlying t with
      | none=>exact absurd hu hu2
      | some d =>
       simp only [method,typeInfo,hi,hm,hpl,follow,hf,receiverAt,run_underlying hu,Sem.run_bind,run_program,Result.andThen_ok,Sem.run_pure]
       cases d <;> first | (exact absurd hu (hu1 _)) | simp [Place.get]
    ·simp at h
  ·simp at h
 ·simp at h
end sound
section sound2
variable {P:Program} {w:World}
theorem bits_run (op:BinOp) (k:IntKind) (a b:Int) (r:BitVec k.bits)
    (h:op = .and∧r=BitVec.ofInt k.bits a &&& BitVec.ofInt k.bits b∨op = .or∧r=BitVec.ofInt k.bits a ||| BitVec.ofInt k.bits b∨op = .xor∧r=BitVec.ofInt k.bits a ^^^ BitVec.ofInt k.bits b) :
    (Op.intBits op k a b).run P w = .ok (.int k (k.wrap r.toNat)) w:=by
 rcases h with ⟨rfl,rfl⟩ | ⟨rfl,rfl⟩ | ⟨rfl,rfl⟩ <;> rfl
theorem intE_run {op:BinOp} {t:TypeId} {xo yo:Operand} {kd:IntKind} {a b:Int} {k:Value→Prop} (h:intE op kd a b k) :
    ∃ v,(do eqGuard op t xo yo (.int kd a) (.int kd b); binOp op t (.int kd a) (.int kd b):Sem Value).run P w = .ok v w∧k v:=by
 have e0:∀ op,eqGuard op t xo yo (.int kd a) (.int kd b)=pure ():=fun op=>eqGuard_at_int ..
 cases op <;> first | exact h.elim | skip
 ·exact ⟨_,by simp only [Sem.run_bind,e0,binOp_add]; rfl,h⟩
 ·exact ⟨_,by simp only [Sem.run_bind,e0,binOp_sub]; rfl,h⟩
 ·exact ⟨_,by simp only [Sem.run_bind,e0,binOp_mul]; rfl,h⟩
 ·exact ⟨_,by simp only [Sem.run_bind,e0,binOp_quo,Op.intDiv,if_neg h.1]; rfl,h.2⟩
 ·exact ⟨_,by simp only [Sem.run_bind,e0,binOp_rem,Op.intDiv,if_neg h.1]; rfl,h.2⟩
 ·exact ⟨_,by simp only [Sem.run_bind,e0,binOp_and]; exact bits_run _ _ _ _ _ (.inl ⟨rfl,rfl⟩),h⟩
 ·exact ⟨_,by simp only [Sem.run_bind,e0,binOp_or]; exact bits_run _ _ _ _ _ (.inr (.inl ⟨rfl,rfl⟩)),h⟩
 ·exact ⟨_,by simp only [Sem.run_bind,e0,binOp_xor]; exact bits_run _ _ _ _ _ (.inr (.inr ⟨rfl,rfl⟩)),h⟩
 ·exact ⟨_,by simp only [Sem.run_bind,e0,binOp_eql]; rfl,h⟩
 ·exact ⟨_,by simp only [Sem.run_bind,e0,binOp_neq]; rfl,h⟩
 ·exact ⟨_,by simp only [Sem.run_bind,e0,binOp_lss]; rfl,h⟩
 ·exact ⟨_,by simp only [Sem.run_bind,e0,binOp_leq]; rfl,h⟩
 ·exact ⟨_,by simp only [Sem.run_bind,e0,binOp_gtr]; rfl,h⟩
 ·exact ⟨_,by simp only [Sem.run_bind,e0,binOp_geq]; rfl,h⟩
theorem eqTail {neg:Bool} {t:TypeId} {x y:Value} {b:Bool} (h:∀ d,(Op.equalIn (d+1) t x y).run P w = .ok b w)
    (hx:∀ k n,x ≠ .int k n) (hs:∀ s,x ≠ .string s) (hf:∀ k n,x ≠ .float k n) (hc:∀ k n m,x ≠ .complex k n m) :
    (binOp (if neg then .neq else .eql) t x y).run P w = .ok (.bool (xor neg b)) w:=by
 have h':(Op.equal t x y).run P w = .ok b w:=h 9999
 cases neg
 ·cases x <;> first | exact absurd rfl (hx _ _) | exact absurd rfl (hs _) | exact absurd rfl (hf _ _) | exact absurd rfl (hc _ _ _) | simp [binOp,h']
 ·cases x <;> first | exact absurd rfl (hx _ _) | exact absurd rfl (hs _) | exact absurd rfl (hf _ _) | exact absurd rfl (hc _ _ _) | simp [binOp,h']
theorem eqE_run {neg:Bool} {t:TypeId} {xo yo:Operand} {x y:Value} {k:Value→Prop} (h:eqE P neg t xo yo x y k) :
    ∃ v,(do eqGuard (if neg then .neq else .eql) t xo yo x y; binOp (if neg then .neq else .eql) t x y:Sem Value).run P w = .ok v w∧k v:=by
 have fin:∀ {b:Bool},(∀ d,(Op.equalIn (d+1) t x y).run P w = .ok b w)→(∀ k n,x ≠ .int k n)→(∀ s,x ≠ .string s)→(∀ k n,x ≠ .float k n)→(∀ k n m,x ≠ .complex k n m) →
     eqGuard (if neg then .neq else .eql) t xo yo x y=pure () →
     (do eqGuard (if neg then .neq else .eql) t xo yo x y; binOp (if neg then .neq else .eql) t x y:Sem Value).run P w = .ok (.bool (xor neg b)) w:=by
  intro b h1 h2 h3 h4 h5 h6
  rw [h6]
  simp only [Sem.run_bind,Sem.run_pure,Result.andThen_ok]
  exact eqTail h1 h2 h3 h4 h5
 unfold eqE at h
 split at h
 ·obtain ⟨⟨hc,hi⟩,h⟩:=h
  unfold ifaceP at hi
  split at hi
  ·rename_i ms hu
   refine ⟨_,fin (b:=true) (fun d=>by simp [Op.equalIn,run_underlying hu]) (by simp) (by simp) (by simp) (by simp) ?_,h⟩
   cases xo <;> first
    | exact eqGuard_nil_constL ..
    | (cases yo <;> first
        | exact eqGuard_nil_constR ..
        | simp [isConstO] at hc)
  ·simp at hi
 ·obtain ⟨hi,h⟩:=h
  unfold ifaceP at hi
  split at hi
  ·rename_i ms hu
   refine ⟨_,fin (b:=false) (fun d=>by simp [Op.equalIn,run_underlying hu]) (by simp) (by simp) (by simp) (by simp) (eqGuard_nil_iface ..),by simpa using h⟩
  ·simp at hi
 ·obtain ⟨hi,h⟩:=h
  unfold ifaceP at hi
  split at hi
  ·rename_i ms hu
   refine ⟨_,fin (b:=false) (fun d=>by simp [Op.equalIn,run_underlying hu]) (by simp) (by simp) (by simp) (by simp) (eqGuard_at_iface ..),by simpa using h⟩
  ·simp at hi
 ·rename_i a b
  obtain ⟨hi,h⟩:=h
  refine ⟨_,fin (b:=a == b) ?_ (by simp) (by simp) (by simp) (by simp) (eqGuard_at_bool ..),h⟩
  intro d; simp [Op.equalIn,run_underlying hi]
 ·rename_i b
  obtain ⟨hi,h⟩:=h
  split at hi
  ·rename_i hu
   refine ⟨_,fin (b:=b.isNone) ?_ (by simp) (by simp) (by simp) (by simp) (eqGuard_at_pointer ..),h⟩
   intro d; simp [Op.equalIn,run_underlying hu]
  ·simp at hi
 ·rename_i a
  obtain ⟨hi,h⟩:=h
  split at hi
  ·rename_i hu
   refine ⟨_,fin (b:=false) ?_ (by simp) (by simp) (by simp) (by simp) (eqGuard_at_pointer ..),by simpa using h⟩
   intro d; simp [Op.equalIn,run_underlying hu]
  ·simp at hi
 ·rename_i l c b l' c'
  obtain ⟨hi,h⟩:=h
  split at hi
  ·rename_i hu
   refine ⟨_,fin (b:=b.isNone) ?_ (by simp) (by simp) (by simp) (by simp) (eqGuard_at_slice ..),h⟩
   intro d; simp [Op.equalIn,run_underlying hu]
  ·simp at hi
 ·obtain ⟨hi,h⟩:=h
  split at hi
  ·rename_i hu
   refine ⟨_,fin (b:=false) ?_ (by simp) (by simp) (by simp) (by simp) (eqGuard_at_slice ..),by simpa using h⟩
   intro d; simp [Op.equalIn,run_underlying hu]
  ·simp at hi
 ·obtain ⟨r,h1,h2⟩:=h
  exact ⟨_,h1 w,h2⟩
 ·exact h.elim
theorem strE_run {op:BinOp} {t:TypeId} {xo yo:Operand} {a b:ByteArray} {k:Value→Prop} (h:strE op a b k) :
    ∃ v,(do eqGuard op t xo yo (.string a) (.string b); binOp op t (.string a) (.string b):Sem Value).run P w = .ok v w∧k v:=by
 have e0:∀ op,eqGuard op t xo yo (.string a) (.string b)=pure ():=fun op=>eqGuard_at_string ..
 cases op <;> first | exact h.elim | skip
 all_goals exact ⟨_,by simp only [Sem.run_bind,e0]; rfl,h⟩
theorem binE_run {op:BinOp} {t:TypeId} {xo yo:Operand} {x y:Value} {k:Value→Prop} (h:binE P op t xo yo x y k) :
    ∃ v,(do eqGuard op t xo yo x y; binOp op t x y:Sem Value).run P w = .ok v w∧k v:=by
 unfold binE at h
 split at h
 ·rename_i kd a kd' b
  split at h
  ·unfold shiftE at h
   split at h
   ·obtain ⟨hb,h⟩:=h
    exact ⟨_,by simp only [Sem.run_bind,eqGuard_shl,binOp_shl,Op.shift,if_neg (Int.not_lt.2 hb)]; rfl,h⟩
   ·obtain ⟨hb,h⟩:=h
    exact ⟨_,by simp only [Sem.run_bind,eqGuard_shr,binOp_shr,Op.shift,if_neg (Int.not_lt.2 hb)]; rfl,h⟩
   ·exact h.elim
  ·split at h
   ·subst_vars
    exact intE_run h
   ·exact h.elim
 ·exact strE_run h
 ·split at h
  ·exact eqE_run (neg:=false) h
  ·exact eqE_run (neg:=true) h
  ·exact h.elim
theorem nilE_run {x:Operand} {e:Env} {o:Oper} (ho:o.op = .nilCheck x) {k:Value→Prop} (h:nilE (ev e x) k):∃ v,(execOp (ev e) o).run P w = .ok (.value v) w∧k v:=by
 unfold nilE at h
 split at h <;> first
  | exact h.elim
  | (rename_i hx; exact ⟨_,by simp only [execOp,ho,hx]; rfl,h⟩)
theorem lenE_run {ats:Array TypeId} {ty:TypeId} {args:Array Value} {k:Value→Prop} (h:lenE P ats[0]? args[0]? k):∃ v,(Builtin.len_ ats ty args).run P w = .ok v w∧k v:=by
 unfold lenE at h
 split at h
 ·rename_i el n c hu hx
  obtain ⟨t,ht,hu⟩:=Option.bind_eq_some_iff.1 hu
  refine ⟨_,?_,h⟩
  simp [Builtin.len_,ht,hx,run_underlying hu,goInt]
 ·rename_i s hu hx
  obtain ⟨t,ht,hu⟩:=Option.bind_eq_some_iff.1 hu
  refine ⟨_,?_,h⟩
  simp [Builtin.len_,ht,hx,run_underlying hu,goInt]
 ·exact h.elim
theorem capE_run {ats:Array TypeId} {ty:TypeId} {args:Array Value} {k:Value→Prop} (h:capE P ats[0]? args[0]? k):∃ v,(Builtin.cap_ ats ty args).run P w = .ok v w∧k v:=by
 unfold capE at h
 split at h
 ·rename_i el n c hu hx
  obtain ⟨t,ht,hu⟩:=Option.bind_eq_some_iff.1 hu
  refine ⟨_,?_,h⟩
  simp [Builtin.cap_,ht,hx,run_underlying hu,goInt]
 ·exact h.elim
theorem boundE_iff {o:Option Value} {d:Int} {k:Int→Prop} (h:boundE o d k):∃ i,k i∧(o=none∧i=d∨∃ kd,o=some (.int kd i)):=by
 unfold boundE at h
 split at h
 ·exact ⟨_,h,.inl ⟨rfl,rfl⟩⟩
 ·exact ⟨_,h,.inr ⟨_,rfl⟩⟩
 ·exact h.elim
theorem sliceBound_run {kd:IntKind} {i:Int} {y:Nat} {code:BoundsCode} (h:0≤i∧i≤y):(Instr.sliceBound (.int kd i) y code).run P w = .ok i.toNat w:=by
 simp [Instr.sliceBound,asIntOf,h]
theorem sliceBounds_run {b:Bool} {len cap:Nat} {lo hi mx:Option Value} {l h m:Int} (hl:lo=none∧l=0∨∃ kd,lo=some (.int kd l)) (hh:hi=none∧h=len∨∃ kd,hi=some (.int kd h))
    (hm:mx=none∧m=cap∨∃ kd,mx=some (.int kd m)) (h1:0≤l∧l≤h) (h2:h≤m∧m≤cap) (h3:mx.isSome=true→hi.isSome=true) :
    (Instr.sliceBounds b len cap lo hi mx).run P w = .ok (l.toNat,h.toNat,m.toNat) w:=by
 have e1:∀ y:Int,0≤y→((y.toNat:Nat):Int)=y:=fun y hy=>Int.toNat_of_nonneg hy
 rcases hm with ⟨rfl,rfl⟩ | ⟨km,rfl⟩
 ·rcases hh with ⟨rfl,rfl⟩ | ⟨kh,rfl⟩
  ·rcases hl with ⟨rfl,rfl⟩ | ⟨kl,rfl⟩
   ·simp [Instr.sliceBounds]
   ·simp only [Instr.sliceBounds,Sem.run_bind,Sem.run_pure,Result.andThen_ok,sliceBound_run (P:=P) (w:=w) (kd:=kl) (y:=len) h1]
    simp
  ·have hb:0≤h∧h≤(cap:Int):=⟨by omega,h2.1⟩
   simp only [Instr.sliceBounds,Sem.run_bind,Sem.run_pure,Result.andThen_ok,sliceBound_run (P:=P) (w:=w) (kd:=kh) (y:=cap) hb]
   rcases hl with ⟨rfl,rfl⟩ | ⟨kl,rfl⟩
   ·simp
   ·have hc:0≤l∧l≤((h.toNat:Nat):Int):=⟨h1.1,by rw [e1 _ hb.1]; exact h1.2⟩
    simp [sliceBound_run hc]
 ·rcases hh with ⟨rfl,rfl⟩ | ⟨kh,rfl⟩
  ·simp at h3
  ·have ha:0≤m∧m≤(cap:Int):=⟨by omega,h2.2⟩
   have hb:0≤h∧h≤((m.toNat:Nat):Int):=⟨by omega,by rw [e1 _ ha.1]; exact h2.1⟩
   simp only [Instr.sliceBounds,Sem.run_bind,Result.andThen_ok,sliceBound_run (P:=P) (w:=w) (kd:=km) (y:=cap) ha,sliceBound_run (P:=P) (w:=w) (kd:=kh) hb]
   rcases hl with ⟨rfl,rfl⟩ | ⟨kl,rfl⟩
   ·simp
   ·have hc:0≤l∧l≤((h.toNat:Nat):Int):=⟨h1.1,by rw [e1 _ hb.1]; exact h1.2⟩
    simp [sliceBound_run hc]
theorem sliceE_run {t:TypeId} {x:Value} {lo hi mx:Option Value} {k:Value→Prop} (h:sliceE P t x lo hi mx k):∃ v,(Instr.sliceAt t x lo hi mx).run P w = .ok v w∧k v:=by
 unfold sliceE at h
 split at h
 ·rename_i el a len cap hu
  split at h
  ·rename_i n hn
   obtain ⟨m,h,hm⟩:=boundE_iff h
   obtain ⟨hh,h,hhi⟩:=boundE_iff h
   obtain ⟨l,h,hl⟩:=boundE_iff h
   obtain ⟨⟨h1,h2,h3⟩,h⟩:=h
   refine ⟨_,?_,h⟩
   have e:(m=l)↔(m.toNat=l.toNat):=by omega
   simp only [Instr.sliceAt,Sem.run_bind,run_underlying hu,Result.andThen_ok,Instr.slice,sliceBounds_run hl hhi hm h1 h2 h3,sizeOf_run hn,Sem.run_pure,e]
  ·exact h.elim
 ·rename_i len el a hu
  split at h
  ·rename_i n hn
   obtain ⟨m,h,hm⟩:=boundE_iff h
   obtain ⟨hh,h,hhi⟩:=boundE_iff h
   obtain ⟨l,h,hl⟩:=boundE_iff h
   obtain ⟨⟨h1,h2,h3⟩,h⟩:=h
   refine ⟨_,?_,h⟩
   have e:(m=l)↔(m.toNat=l.toNat):=by omega
   simp only [Instr.sliceAt,Instr.sureAddr,Sem.run_bind,run_underlying hu,Result.andThen_ok,Sem.run_pure,sliceBounds_run hl hhi hm h1 h2 h3,sizeOf_run hn,e]
  ·exact h.elim
 ·exact h.elim
theorem mapM_run {fs:List Field} {l:List (Nat × Nat)} (h:(fs.mapM fun f=>(szP P f.type).map fun s=>(f.offset,s))=some l) :
    (fs.mapM fun f=>(do pure (f.offset,← sizeOf f.type):Sem (Nat × Nat))).run P w = .ok l w:=by
 induction fs generalizing l with
 | nil=>simp only [List.mapM_nil,Option.pure_def,Option.some.injEq] at h; subst h; simp
 | cons f fs ih =>
  simp only [List.mapM_cons,Option.bind_eq_bind,Option.pure_def,Option.bind_eq_some_iff] at h
  obtain ⟨x,hx,l',hl',h⟩:=h
  obtain ⟨n,hn,rfl⟩:=Option.map_eq_some_iff.1 hx
  simp only [Option.some.injEq] at h
  subst h
  simp only [List.mapM_cons,Sem.run_bind,sizeOf_run hn,Result.andThen_ok,Sem.run_pure,ih hl']
theorem buildE_run {t:TypeId} {parts:Array (Nat × Value)} {k:Value→Prop} (h:buildE P t parts k):∃ v,(Instr.build t parts).run P w = .ok v w∧k v:=by
 unfold buildE at h
 split at h
 ·rename_i pl z hp hz
  split at h
  ·rename_i cells hf
   refine ⟨_,?_,h⟩
   obtain ⟨i,hi,hz⟩:=Option.bind_eq_some_iff.1 hz
   unfold placesP at hp
   split at hp
   ·rename_i fs hu
    have hm:(fs.mapM fun f=>(do pure (f.offset,← sizeOf f.type):Sem (Nat × Nat))).run P w = .ok pl w:=by
     rw [Array.mapM_eq_mapM_toList] at hp ⊢
     simp only [Option.map_eq_map,Option.map_eq_some_iff] at hp
     obtain ⟨l,hl,rfl⟩:=hp
     simp only [Sem.run_map,mapM_run hl,Result.andThen_ok]
    simp only [Instr.build,Sem.run_bind,zeroValue,typeInfo,run_program,hi,hz,Result.andThen_ok,Sem.run_pure,run_underlying hu,hm,hf]
   ·simp at hp
  ·exact h.elim
 ·exact h.elim
theorem letters_run:∀ (vs:List Value) (l:List UInt8) (acc:ByteArray),lettersOf vs=some l →
    (forIn vs acc fun c s=>(do
     match c with
     | .int .u8 n=>pure (ForInStep.yield (s.push (UInt8.ofNat n.toNat)))
     | _=>do
      stuck "bytesToString: byte expected"
      pure (ForInStep.yield s):Sem (ForInStep ByteArray))).run P w = .ok ⟨acc.data++l.toArray⟩ w
 | [],l,acc,h=>by simp only [lettersOf,Option.some.injEq] at h; subst h; simp
 | v :: vs,l,acc,h=>by
  obtain ⟨n,rfl⟩:∃ n,v = .int .u8 n:=by
   unfold lettersOf at h
   split at h
   ·simp_all
   ·rename_i heq; exact ⟨_,(List.cons.inj heq).1⟩
   ·simp at h
  simp only [lettersOf] at h
  obtain ⟨l',hl',rfl⟩:=Option.map_eq_some_iff.1 h
  simp only [List.forIn_cons,Sem.run_bind,Sem.run_pure,Result.andThen_ok,letters_run vs l' _ hl']
  congr 2
  simp [ByteArray.push]
theorem stringE_run {x:Value} {k:Value→Prop} (h:stringE w x k):∃ v,(Conv.bytesToString x).run P w = .ok v w∧k v:=by
 unfold stringE at h
 split at h
 ·exact ⟨_,rfl,h⟩
 ·rename_i a len cap
  obtain ⟨vs,hr,hk⟩:=loadL_run (P:=P) len 0 #[] h
  split at hk
  ·rename_i l hl
   refine ⟨_,?_,hk⟩
   have h2:=letters_run (P:=P) (w:=w) vs l ByteArray.empty hl
   simp only [Conv.bytesToString,Sem.run_bind,loadCells,hr,Result.andThen_ok]
   simp only [Array.empty_append,List.forIn_toArray]
   have e:(⟨ByteArray.empty.data++l.toArray⟩:ByteArray)=⟨l.toArray⟩:=by
    show (⟨#[]++l.toArray⟩:ByteArray)=_
    rw [Array.empty_append]
   rw [e] at h2
   exact (congrArg (fun r:Result ByteArray=>r.andThen fun a w'=>Sem.run P (pure (Value.string a)) w') h2).trans rfl
  ·exact hk.elim
 ·exact h.elim
theorem convStr_run {s d e:TypeId} {x:Value} {k:Value→Prop} (hs:P.underlying s=some (.slice e)) (hd:P.underlying d=some .string) (he:P.underlying e=some (.int .u8))
    (h:stringE w x k):∃ v,(convert s d x).run P w = .ok v w∧k v:=by
 obtain ⟨v,hr,hk⟩:=stringE_run (P:=P) h
 refine ⟨v,?_,hk⟩
 have hx:(∃ a l c,x = .slice a l c):=by
  unfold stringE at h; split at h <;> first | exact ⟨_,_,_,rfl⟩ | exact h.elim
 obtain ⟨a,l,c,rfl⟩:=hx
 simp [convert,run_underlying hs,run_underlying hd,run_underlying he,hr]
theorem convE_run {s d:TypeId} {x:Value} {k:Kont} (h:convE P s d x k w):∃ v w',(convert s d x).run P w = .ok v w'∧k v w':=by
 unfold convE at h
 split at h
 ·rename_i k1 kd k2 n hs hd
  refine ⟨_,w,?_,h⟩
  simp [convert,run_underlying hs,run_underlying hd,Conv.intToInt]
 ·rename_i e hs hd
  obtain ⟨v,hr,hk⟩:=convStr_run (P:=P) hs hd h.1 h.2
  exact ⟨v,w,hr,hk⟩
 ·rename_i str hs hd
  exact ⟨_,w,by simp [convert,run_underlying hs,run_underlying hd],h⟩
 ·obtain ⟨v,w',hr,hk⟩:=semE_run h
  exact ⟨v,w',hr,hk⟩
 ·exact h.elim
theorem opE_run {o:Oper} {e:Env} {k:Kont} (h:opE P o e k w):stepK P k ((execOp (ev e) o).run P w):=by
 obtain ⟨dst,op,type,pos,after,guard⟩:=o
 cases op <;> simp only [opE] at h <;> first | exact h.elim | skip
 case move x=>exact h
 case assign x=>exact h
 case pick c a b =>
  unfold boolE at h
  split at h
  ·rename_i t hc
   simp only [execOp,hc,asBool,Sem.run_bind,Sem.run_pure,Result.andThen_ok,stepK]
   exact h
  ·exact h.elim
 case alloc t =>
  obtain ⟨v,w',hr,hk⟩:=semE_run h
  simp only [execOp,val_run hr,stepK]; exact hk
 case box t x =>
  obtain ⟨v,w',hr,hk⟩:=semE_run h
  simp only [execOp,val_run hr,stepK]; exact hk
 case build t x =>
  obtain ⟨v,hr,hk⟩:=buildE_run (w:=w) h
  simp only [execOp,val_run hr,stepK]; exact hk
 case buildSlice t n x =>
  obtain ⟨v,w',hr,hk⟩:=semE_run h
  simp only [execOp,val_run hr,stepK]; exact hk
 case load t a =>
  obtain ⟨v,hr,hk⟩:=loadE_run h
  simp only [execOp,val_run hr,stepK]; exact hk
 case store t a x =>
  obtain ⟨w',hr,hk⟩:=storeE_run h
  simp only [execOp,Sem.run_bind,hr,Result.andThen_ok,Sem.run_pure,stepK]; exact hk
 case nilCheck x =>
  obtain ⟨v,hr,hk⟩:=nilE_run (P:=P) (w:=w) (o:={ dst,op := .nilCheck x,type,pos,after,guard }) rfl h
  rw [hr]; exact hk
 case binOp op t x y yt =>
  obtain ⟨v,hr,hk⟩:=binE_run (w:=w) h
  simp only [execOp,val_run hr,stepK]; exact hk
 case unOp op t x =>
  unfold unE at h
  split at h
  ·rename_i b hb
   simp only [execOp,hb,val_run (s:=Op.unary .not (.bool b)) (v := .bool !b) rfl,stepK]; exact h
  ·rename_i kd n hb
   simp only [execOp,hb,val_run (s:=Op.unary .neg (.int kd n)) (v := .int kd (kd.wrap (0 - n))) rfl,stepK]; exact h
  ·exact h.elim
 case convert s d x =>
  obtain ⟨v,w',hr,hk⟩:=convE_run h
  simp only [execOp,val_run hr,stepK]; exact hk
 case makeInterface t x =>
  unfold mkIfaceE at h
  have hr:(Instr.makeInterface t (ev e x)).run P w = .ok (.iface t (ev e x)) w∧k (.iface t (ev e x)) w:=by
   cases hu:P.underlying t with
   | none=>simp [hu] at h
   | some d =>
    simp only [Instr.makeInterface,Sem.run_bind,run_underlying hu,Result.andThen_ok]
    cases d <;> simp_all
  simp only [execOp,val_run hr.1,stepK]; exact hr.2
 case makeFunc fn a b=>simp only [execOp]; exact h
 case makeSlice t l c =>
  obtain ⟨v,w',hr,hk⟩:=semE_run h
  simp only [execOp,val_run hr,stepK]; exact hk
 case slice t x lo hi mx =>
  obtain ⟨v,hr,hk⟩:=sliceE_run (w:=w) h
  simp only [execOp,val_run hr,stepK]; exact hk
 case fieldAddr s x f =>
  unfold fieldAddrE at h
  split at h
  ·rename_i off a ho hx
   simp only [execOp,hx,val_run (offP_run ho a),stepK]; exact h
  ·exact h.elim
 case field s x f =>
  unfold fieldE at h
  split at h
  ·rename_i fs cs hu hx
   split at h
   ·rename_i fd hf
    obtain ⟨v,hr,hk⟩:=partE_run (P:=P) (w:=w) h
    have:(Instr.field s (.agg cs) f).run P w = .ok v w:=by simp [Instr.field,run_underlying hu,hf,asAgg,hr]
    simp only [execOp,hx,val_run this,stepK]; exact hk
   ·exact h.elim
  ·exact h.elim
 case indexAddr t x i =>
  unfold indexAddrE at h
  split at h
  ·rename_i n a len cap kd j hs hx hi
   obtain ⟨hb,hk⟩:=h
   obtain ⟨el,hu,hz⟩:=eszP_eq hs
   have:(Instr.indexAt t (.slice (some a) len cap) (.int kd j)).run P w = .ok (.pointer (some (a.add (j.toNat * n)))) w:=by
    simp only [Instr.indexAt,asIntOf,Sem.run_bind,Sem.run_pure,Result.andThen_ok,run_underlying hu]
    simp [hb,sizeOf_run hz]
   simp only [execOp,hx,hi,val_run this,stepK]; exact hk
  ·exact h.elim
 case index t x i =>
  unfold indexE at h
  split at h
  ·rename_i s kd j hu hx hi
   obtain ⟨⟨h0,h1⟩,hk⟩:=h
   have hlt:j.toNat < s.size:=by omega
   have:(Instr.index t (.string s) (.int kd j)).run P w = .ok (.int .u8 (s[j.toNat]?.getD 0).toNat) w:=by
    simp only [Instr.index,asIntOf,Sem.run_bind,Sem.run_pure,Result.andThen_ok,run_underlying hu]
    rw [if_pos h0]
    cases hg:s[j.toNat]? with
    | none=>simp [hlt] at hg
    | some b=>simp
   simp only [execOp,hx,hi,val_run this,stepK]; exact hk
  ·exact h.elim
 case extract x i =>
  unfold extractE at h
  split at h
  ·rename_i vs hx
   obtain ⟨v,hv,hk⟩:=optE_iff.1 h
   have:(Instr.extract (.tuple vs) i).run P w = .ok v w:=by simp [Instr.extract,hv]
   simp only [execOp,hx,val_run this,stepK]; exact hk
  ·exact h.elim
 case call c =>
  obtain ⟨callee,args,ats⟩:=c
  cases callee with
  | value f =>
   simp only at h
   unfold callE at h
   split at h
   ·rename_i g first cap hf
    split at h
    ·rename_i he
     simp only [execOp,resolve,hf,Deferred.ofValue,Sem.run_bind,Sem.run_pure,Result.andThen_ok,invoke,callFunc_run he,stepK]; exact h
    ·split at h
     ·rename_i s hs
      obtain ⟨v,w',hr,hk⟩:=semE_run h
      simp only [execOp,resolve,hf,Deferred.ofValue,Sem.run_bind,Sem.run_pure,Result.andThen_ok,invoke,extern_run hs hr,stepK]; exact hk
     ·exact h.elim
   ·exact h.elim
  | invoke r m =>
   simp only at h
   unfold invokeE at h
   split at h
   ·rename_i t v hr
    split at h
    ·rename_i f hm
     obtain ⟨he,hk⟩:=h
     simp only [execOp,resolve,hr,Sem.run_bind,Sem.run_pure,Result.andThen_ok,invoke,stepK]
     have h0:(#[Value.iface t v]++args.map (ev e))[0]? = some (.iface t v):=by
      rw [Array.getElem?_append_left (by simp)]; rfl
     have h1:(#[Value.iface t v]++args.map (ev e)).extract 1 (#[Value.iface t v]++args.map (ev e)).size=args.map (ev e):=by
      apply Array.ext' ; simp [List.take_of_length_le]
     obtain ⟨n,hn⟩:∃ n,P.types.size+Made.depth=n+1:=⟨P.types.size+Made.depth - 1,by unfold Made.depth; omega⟩
     simp only [h0,h1,callMethod,Sem.run_bind,run_program,Result.andThen_ok,hn,methP_run hm,callFunc_run he]
     exact hk
    ·exact h.elim
   ·exact h.elim
  | builtin b =>
   simp only at h
   unfold builtinE at h
   split at h
   ·obtain ⟨v,hr,hk⟩:=lenE_run (w:=w) (ty:=type) h
    simp only [execOp,resolve,Sem.run_bind,Sem.run_pure,Result.andThen_ok,invoke,builtin,hr,stepK]; exact hk
   ·obtain ⟨v,hr,hk⟩:=capE_run (w:=w) (ty:=type) h
    simp only [execOp,resolve,Sem.run_bind,Sem.run_pure,Result.andThen_ok,invoke,builtin,hr,stepK]; exact hk
   all_goals first
    | exact h.elim
    | (obtain ⟨v,w',hr,hk⟩:=semE_run h
       simp only [execOp,resolve,Sem.run_bind,Sem.run_pure,Result.andThen_ok,invoke,builtin,hr,stepK]; exact hk)
end sound2
def envOf (a:Act):Env:=fun i=>a.tmps.getD i undef
def dstOk (N:Nat) (o:Oper):Bool:=match o.dst with
 | some d=>Nat.blt d N
 | none=>true
def codeOk (N:Nat):Code→Bool
 | .region _ ops _=>ops.toList.all (dstOk N)
 | .seq a b=>codeOk N a && codeOk N b
 | .cond _ a b=>codeOk N a && codeOk N b
 | .block _ a=>codeOk N a
 | .loop a=>codeOk N a
 | _=>true
def lift (N:Nat) (Q:Exit→Env→World→Prop):Exit→Act→World→Prop
 | .panic _,_,_=>False
 | ex,a,w=>a.tmps.size=N∧a.defers=[]∧Q ex (envOf a) w
theorem ev_envOf (a:Act):ev (envOf a)=a.eval:=by
 funext x
 cases x <;> rfl
theorem envOf_put {N:Nat} {a:Act} (o:Oper) (v:Value) (h:dstOk N o=true) (hs:a.tmps.size=N):envOf (a.put o.dst v)=put (envOf a) o.dst v:=by
 funext i
 unfold dstOk at h
 cases hd:o.dst with
 | none=>rfl
 | some d =>
  simp only [hd,Nat.blt_eq] at h
  simp only [envOf,Act.put,put]
  by_cases hi:i=d
  ·subst hi; simp [hs,h]
  ·simp only [if_neg hi,Array.getD_eq_getD_getElem?]
   rw [Array.getElem?_setIfInBounds_ne (Ne.symm hi)]
theorem size_put {a:Act} (d:Option Tmp) (v:Value):(a.put d v).tmps.size=a.tmps.size:=by cases d <;> simp [Act.put]
theorem defers_put {a:Act} (d:Option Tmp) (v:Value):(a.put d v).defers=a.defers:=by cases d <;> rfl
theorem want_wanted {N:Nat} {ops:Array Oper} {a:Act} {o:Oper} (hs:a.tmps.size=N) (hops:ops.toList.all (dstOk N)=true) :
    want ops (envOf a) o.guard=Region.wanted o (yielded ops a.tmps):=by
 unfold want Region.wanted yielded
 cases o.guard with
 | none=>rfl
 | some g =>
  obtain ⟨j,b⟩:=g
  simp only
  cases hj:ops[j]? with
  | none=>simp
  | some oj =>
   simp only [Option.bind_some]
   cases hd:oj.dst with
   | none=>simp
   | some d =>
    have hmem:oj ∈ ops.toList:=by
     rw [← Array.getElem?_toList] at hj
     exact List.mem_of_getElem? hj
    have hlt:d < N:=by
     have:=List.all_eq_true.1 hops oj hmem
     simpa [dstOk,hd] using this
    have hg:a.tmps[d]? = some (envOf a d):=by
     simp only [envOf,Array.getD_eq_getD_getElem?]
     rw [Array.getElem?_eq_getElem (Nat.lt_of_lt_of_eq hlt hs.symm)]; rfl
    simp only [Option.bind_some,hg]
    cases envOf a d <;> simp
section reg
variable {P:Program} {N:Nat}
theorem regE_sound {ops:Array Oper} (hops:ops.toList.all (dstOk N)=true) {Q:Exit→Env→World→Prop}:∀ (l:List Oper),l.all (dstOk N)=true →
    ∀ (a:Act) (w:World),a.tmps.size=N→a.defers=[]→regE P ops l (envOf a) (fun e w=>Q .normal e w) w→wpList P ops (lift N Q) l a w
 | [],_,a,w,hs,hd,h=>⟨hs,hd,h⟩
 | o :: rest,hl,a,w,hs,hd,h=>by
  simp only [List.all_cons,Bool.and_eq_true] at hl
  unfold regE at h
  unfold wpList
  rw [want_wanted hs hops] at h
  split
  ·rename_i hw
   rw [if_pos hw] at h
   refine .inl ?_
   have h1:=opE_run h
   rw [ev_envOf] at h1
   unfold Oper.wp Oper.upon
   unfold stepK at h1
   split at h1
   ·rename_i v w' hr
    rw [hr]
    exact regE_sound hops rest hl.2 _ _ (by rw [size_put,hs]) (by rw [defers_put,hd]) (by rw [envOf_put o v hl.1 hs]; exact h1)
   ·rename_i w' hr
    rw [hr]
    exact regE_sound hops rest hl.2 _ _ (by rw [size_put,hs]) (by rw [defers_put,hd]) (by rw [envOf_put o undef hl.1 hs]; exact h1)
   ·rename_i f args w' hr
    rw [hr]
    refine Calls.mono h1 ?_
    rintro en w'' ⟨v,rfl,hk⟩
    exact regE_sound hops rest hl.2 _ _ (by rw [size_put,hs]) (by rw [defers_put,hd]) (by rw [envOf_put o v hl.1 hs]; exact hk)
   ·exact h1.elim
  ·rename_i hw
   rw [if_neg hw] at h
   exact regE_sound hops rest hl.2 _ _ (by rw [size_put,hs]) (by rw [defers_put,hd]) (by rw [envOf_put o undef hl.1 hs]; exact h)
end reg
def thenE (K:Env→World→Prop) (Q:Exit→Env→World→Prop):Exit→Env→World→Prop
 | .normal,e,w=>K e w
 | x,e,w=>Q x e w
def blockE (id:Nat) (Q:Exit→Env→World→Prop):Exit→Env→World→Prop
 | .exit j,e,w=>if j=id then Q .normal e w else Q (.exit j) e w
 | x,e,w=>Q x e w
def Sat (N:Nat) (P:Program) (c:Code) (Q:Exit→Env→World→Prop) (e:Env) (w:World):Prop :=
 ∀ a:Act,a.tmps.size=N→a.defers=[]→envOf a=e→c.wp P (lift N Q) a w
def condE (x:Value) (p q:Prop):Prop :=
 match x with
 | .bool true=>p
 | .bool false=>q
 | _=>False
def WP (N:Nat) (P:Program):Code→(Exit→Env→World→Prop)→Env→World→Prop
 | .skip,Q,e,w=>Q .normal e w
 | .region _ ops false,Q,e,w=>regE P ops ops.toList e (fun e w=>Q .normal e w) w
 | .region id ops true,Q,e,w=>Sat N P (.region id ops true) Q e w
 | .seq a b,Q,e,w=>WP N P a (thenE (fun e w=>WP N P b Q e w) Q) e w
 | .cond c a b,Q,e,w=>condE (ev e c) (WP N P a Q e w) (WP N P b Q e w)
 | .block id a,Q,e,w=>WP N P a (blockE id Q) e w
 | .loop a,Q,e,w=>Sat N P (.loop a) Q e w
 | .exit id,Q,e,w=>Q (.exit id) e w
 | .ret,Q,e,w=>Q .ret e w
 | _,_,_,_=>False
theorem lift_then {N:Nat} {K:Env→World→Prop} {Q:Exit→Env→World→Prop} {ex:Exit} {a:Act} {w:World} (h:lift N (thenE K Q) ex a w) :
    Exit.then (fun a w=>a.tmps.size=N∧a.defers=[]∧K (envOf a) w) (lift N Q) ex a w:=by
 cases ex <;> exact h
theorem lift_block {N:Nat} {id:Nat} {Q:Exit→Env→World→Prop} {ex:Exit} {a:Act} {w:World} (h:lift N (blockE id Q) ex a w) :
    Exit.inBlock id (lift N Q) ex a w:=by
 cases ex with
 | exit j =>
  obtain ⟨h1,h2,h3⟩:=h
  simp only [Exit.inBlock]
  simp only [blockE] at h3
  split
  ·rename_i hj; rw [if_pos hj] at h3; exact ⟨h1,h2,h3⟩
  ·rename_i hj; rw [if_neg hj] at h3; exact ⟨h1,h2,h3⟩
 | _=>exact h
theorem WP_sat {N:Nat} {P:Program}:∀ (c:Code),codeOk N c=true→∀ (Q:Exit→Env→World→Prop) (e:Env) (w:World),WP N P c Q e w→Sat N P c Q e w
 | .skip,_,Q,e,w,h=>fun a hs hd he=>wp_skip ⟨hs,hd,he ▸ h⟩
 | .region id ops false,hok,Q,e,w,h=>fun a hs hd he=>by
  subst he
  exact wp_region_list (regE_sound hok _ hok a w hs hd h)
 | .region id ops true,_,Q,e,w,h=>h
 | .seq x y,hok,Q,e,w,h=>fun a hs hd he=>by
  simp only [codeOk,Bool.and_eq_true] at hok
  refine wp_seq (wp_mono (WP_sat x hok.1 _ e w h a hs hd he) fun ex a w hq => ?_)
  have:=lift_then hq
  cases ex <;> first
   | exact this
   | (obtain ⟨h1,h2,h3⟩:=this; exact WP_sat y hok.2 Q _ _ h3 _ h1 h2 rfl)
 | .cond c x y,hok,Q,e,w,h=>fun a hs hd he=>by
  simp only [codeOk,Bool.and_eq_true] at hok
  simp only [WP] at h
  subst he
  rw [ev_envOf] at h
  unfold condE at h
  split at h
  ·rename_i hc; exact wp_cond_true hc (WP_sat x hok.1 Q _ _ h _ hs hd rfl)
  ·rename_i hc; exact wp_cond_false hc (WP_sat y hok.2 Q _ _ h _ hs hd rfl)
  ·exact h.elim
 | .block id x,hok,Q,e,w,h=>fun a hs hd he =>
  wp_block (wp_mono (WP_sat x hok _ e w h a hs hd he) fun _ _ _ hq=>lift_block hq)
 | .loop x,_,Q,e,w,h=>h
 | .exit id,_,Q,e,w,h=>fun a hs hd he=>wp_exit ⟨hs,hd,he ▸ h⟩
 | .ret,_,Q,e,w,h=>fun a hs hd he=>wp_ret ⟨hs,hd,he ▸ h⟩
 | .rangeFunc ..,_,_,_,_,h=>h.elim
 | .scope ..,_,_,_,_,h=>h.elim
 | .label ..,_,_,_,_,h=>h.elim
 | .goto ..,_,_,_,_,h=>h.elim
 | .refuse ..,_,_,_,_,h=>h.elim
def resE (P:Program) (rs:List ResultVar) (e:Env) (k:Kont) (w:World):Prop :=
 match rs with
 | []=>k (.tuple #[]) w
 | [.tmp t]=>k (e t) w
 | [.cell a t]=>loadE P t (e a) k w
 | [.tmp t,.tmp u]=>k (.tuple #[e t,e u]) w
 | [.tmp t,.tmp u,.tmp v]=>k (.tuple #[e t,e u,e v]) w
 | _=>False
def retE (P:Program) (rs:List ResultVar) (k:Kont):Exit→Env→World→Prop
 | .normal,e,w=>resE P rs e k w
 | .ret,e,w=>resE P rs e k w
 | _,_,_=>False
def env0 (args:Array Value):Env:=fun i=>args.getD i undef
theorem resE_run {P:Program} {fn:Func} {a:Act} {k:Kont} {w:World} (h:resE P fn.results.toList (envOf a) k w) :
    ∃ v,(results fn a.tmps).run P w = .ok v w∧k v w:=by
 unfold resE at h
 split at h
 ·rename_i hr; exact ⟨_,results_none (Array.toList_inj.1 hr) ..,h⟩
 ·rename_i t hr; exact ⟨_,results_tmp (Array.toList_inj.1 hr) ..,h⟩
 ·rename_i t u hr
  replace hr:fn.results = #[.cell t u]:=Array.toList_inj.1 hr
  obtain ⟨v,hv,hk⟩:=loadE_run h
  refine ⟨v,?_,hk⟩
  unfold loadE at h
  split at h
  ·rename_i ad ha
   simp only [Instr.loadAt,ha,Instr.sureAddr,Sem.run_bind,Sem.run_pure,Result.andThen_ok] at hv
   have ha':a.tmps.getD t undef = .pointer (some ad):=ha
   simp only [results,hr]
   simp only [List.mapM_toArray,List.mapM_cons,List.mapM_nil,ha',asAddr]
   simp [hv]
  ·exact h.elim
 ·rename_i t u hr; exact ⟨_,results_tmp2 (Array.toList_inj.1 hr) ..,h⟩
 ·rename_i t u v hr
  replace hr:fn.results = #[.tmp t,.tmp u,.tmp v]:=Array.toList_inj.1 hr
  refine ⟨_,?_,h⟩
  simp [results,hr,envOf]
 ·exact h.elim
theorem calls_of_WP {P:Program} {f:FuncId} {fn:Func} {c:Code} {args:Array Value} {w:World} {k:Kont}
    (hf:P.funcs[f]? = some fn) (hb:fn.body=some c) (hok:codeOk fn.ntmps c=true) (hn:args.size≤fn.ntmps)
    (h:WP fn.ntmps P c (retE P fn.results.toList k) (env0 args) w):callK P f args k w:=by
 refine calls_of_wp hf hb (wp_mono (WP_sat c hok _ _ _ h _ (by simp; omega) rfl ?_) ?_)
 ·funext i
  simp only [envOf,env0,Array.getD_eq_getD_getElem?]
  by_cases hi:i < args.size
  ·rw [Array.getElem?_append_left hi]
  ·rw [Array.getElem?_append_right (by omega),Array.getElem?_eq_none (by omega:args.size≤i)]
   by_cases hj:i - args.size < fn.ntmps - args.size
   ·simp [hj]
   ·rw [Array.getElem?_eq_none (by simp; omega)]
 ·intro ex a w hl
  cases ex <;> first
   | exact hl.elim
   | exact hl.2.2.elim
   | (obtain ⟨hs,hd,hq⟩:=hl
      obtain ⟨v,hr,hk⟩:=resE_run hq
      exact ⟨hd,v,hr,v,rfl,hk⟩)
end Go.E
