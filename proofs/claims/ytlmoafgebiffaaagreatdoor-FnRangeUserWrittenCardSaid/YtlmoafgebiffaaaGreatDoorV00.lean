/- Parts of the proof: E. -/
import Derived.Tactics2
import Derived.LoopTactic
import Derived.KernelRfl
set_option linter.all false
set_option maxRecDepth 10000
def aF := @Nat.le_refl
def aH := @Nat.lt_or_ge
def aD := @List.getElem?_eq_getElem
def aL := @Nat.lt_of_lt_of_le
def aE := @List.length_append
def aO := @List.mem_of_getElem?
def aP := @Option.some.injEq
def aK := @List.mem_cons_self
def aM := @List.mem_singleton
def aT := @Nat.zero_le
def aQ := @List.getElem?_eq_some_iff
def aS := @List.mem_append
def aR := @List.length_map
def ak := @List.length_eq_zero_iff
def aZ := @List.length_cons
def an := @List.getElem_mem
def aW := @List.mem_cons_of_mem
def ag := @List.take_length
def ah := @Nat.le_trans
def bB := @List.getElem_of_mem
def ar := @List.length_singleton
def av := @List.mem_cons
def ae := @List.flatMap_cons
def cH := @Int.toNat_natCast
def ao := @List.append_nil
def bC := @List.getElem?_append_right
def bQ := @List.lt_irrefl
def bE := @List.length_take
def bt := @Nat.eq_zero_or_pos
def bG := @Bool.eq_iff_iff
def az := @List.map_append
def bI := @List.rel_of_pairwise_cons
def bO := @Nat.mul_le_mul_right
def ay := @List.flatMap_append
def bR := @List.getElem?_append_left
def b7 := @Option.isSome_iff_exists
def ax := @List.append_assoc
def bq := @Bool.and_eq_true
def bk := @Option.some.inj
def bw := @List.getElem?_map
def bj := @List.mem_map
def cu := @List.mem_flatMap
def bH := @List.mem_filter
def fV := @Nat.lt_of_le_of_lt
def gG := @Nat.le_of_lt
def iW := @Nat.lt_irrefl
def dE := @Nat.lt_trichotomy
def bN := @List.length_filter_le
def du := @List.mem_flatten
def eE := @Nat.lt_or_eq_of_le
def cT := @List.take_append_drop
def cq := @List.length_set
def bJ := @List.pairwise_iff_getElem
def aV := @decide_eq_true
def aG := @decide_eq_false
def aI := @getElem!_pos
def aU := @Go.Value.slice.injEq
def eT := @Go.Value.int.injEq
def dF := @Go.Value.pointer.injEq
def cv := @List.map_map
def iN := @List.getElem_map
def dq := @List.take_of_length_le
def cV := @List.drop_eq_getElem_cons
theorem gEl {α : Type} {l : List α} {i : Nat} (h : i < l.length) : ∃ x, l[i]? = some x := ⟨_, List.getElem?_eq_getElem h⟩
theorem sEq {a b : Option Go.Addr} {n m c d : Nat} (h : Go.Value.slice a n c = .slice b m d) : a = b ∧ c = d := by simp at h; exact ⟨h.1, h.2.2⟩
namespace Go.E
open Go
abbrev de:=Nat→Value
def ev (e:de):Operand→Value
 | .tmp t=>e t
 | .const v=>v
 | .global g => .pointer (some ⟨g,0,none⟩)
 | .func f => .func (.func f) #[] #[]
def put (e:de) (d:Option Tmp) (v:Value):de :=
 match d with
 | some d=>fun i=>if i=d then v else e i
 | none=>e
theorem Cq (e:de) (d:Nat) (v:Value) (i:Nat):put e (some d) v i=if i=d then v else e i:=rfl
def jB (P:Program) (t:TypeId):Bool :=
 match P.underlying t with
 | some (.struct _) | some (.array ..) | none=>false
 | some _=>true
def ym (P:Program) (t:TypeId):Bool :=
 match P.underlying t with
 | some (.struct _) | some (.array ..)=>true
 | _=>false
def wP (P:Program) (t:TypeId):Option Nat:=(P.info? t).map (·.size)
def Aq (P:Program) (s:TypeId) (f:Nat):Option Nat :=
 match P.underlying s with
 | some (.struct fs)=>match fs[f]? with
   | some fd=>match wP P fd.type with
    | some (_+1)=>some fd.offset
    | _=>none
   | none=>none
 | _=>none
def Cr (P:Program) (t:TypeId):Option (List Value):=((P.info? t).bind (·.zero)).map (·.cells.toList)
def jn (P:Program) (t:TypeId):Option Nat :=
 match P.underlying t with
 | some (.slice e)=>wP P e
 | _=>none
def nP (o:Option Value) (k:Value→Prop):Prop :=
 match o with
 | some v=>k v
 | none=>False
def cm (c:Prop) (p:Prop):Prop:=c∧p
def jo (w:World) (a:Addr):(i n:Nat)→(List Value→Prop)→Prop
 | _,0,k=>k []
 | i,n+1,k=>nP (w.cell? (a.add i)) fun v=>jo w a (i+1) n fun vs=>k (v :: vs)
def Cc (o:Option Value) (fz:Bool) (v:Value) (p:Prop):Prop:=(o.isSome=true∧fz=false∧v.oneCell'=true)∧p
def pH:World→Addr→Nat→List Value→(World→Prop)→Prop
 | w,_,_,[],k=>k w
 | w,a,i,v :: vs,k=>Cc (w.cell? (a.add i)) (w.frozen? (a.add i)) v (pH (w.setCell (a.add i) v) a (i+1) vs k)
abbrev aq:=Value→World→Prop
def fJ (P:Program) (t:TypeId) (x:Value) (k:aq) (w:World):Prop :=
 match x with
 | .pointer (some a) =>
   if jB P t then nP (w.cell? a) fun v=>k v w
   else if ym P t then
    match wP P t with
    | some n=>jo w a 0 n fun vs=>k (.agg vs.toArray) w
    | none=>False
   else False
 | _=>False
def jN (P:Program) (t:TypeId) (x v:Value) (k:aq) (w:World):Prop :=
 match x with
 | .pointer (some a)=>cm (wP P t=some v.cells.size) (pH w a 0 v.cells.toList fun w'=>k undef w')
 | _=>False
def qU (x:Value) (k:Value→Prop):Prop :=
 match x with
 | .pointer (some a)=>k (.pointer (some a))
 | .func (.func f) a b=>k (.func (.func f) a b)
 | .iface t v=>k (.iface t v)
 | .slice a l c=>k (.slice a l c)
 | _=>False
def fi (off:Option Nat) (x:Value) (k:Value→Prop):Prop :=
 match off,x with
 | some o,.pointer (some a)=>k (.pointer (some (a.add o)))
 | _,_=>False
def mZ (P:Program) (t:TypeId) (cs:Array Value) (off:Nat) (k:Value→Prop):Prop :=
 if ym P t then
  match wP P t with
  | some n=>k (.agg (cs.extract off (off+n)))
  | none=>False
 else if jB P t then nP cs[off]? k else False
def pI (P:Program) (s:TypeId) (f:Nat) (x:Value) (k:Value→Prop):Prop :=
 match P.underlying s,x with
 | some (.struct fs),.agg cs=>match fs[f]? with
   | some fd=>mZ P fd.type cs fd.offset k
   | none=>False
 | _,_=>False
def ey (P:Program) (t:TypeId) (x i:Value) (k:Value→Prop):Prop :=
 match jn P t,x,i with
 | some n,.slice (some a) len _,.int _ i=>cm (0≤i∧i < len) (k (.pointer (some (a.add (i.toNat * n)))))
 | _,_,_=>False
def kP (P:Program) (t:TypeId) (x i:Value) (k:Value→Prop):Prop :=
 match P.underlying t,x,i with
 | some .string,.string s,.int _ i=>cm (0≤i∧i < s.size) (k (.int .u8 (s[i.toNat]?.getD 0).toNat))
 | _,_,_=>False
def rC (x:Value) (k:Bool→Prop):Prop :=
 match x with
 | .bool b=>k b
 | _=>False
def jq (op:BinOp) (k:IntKind) (a b:Int) (q:Value→Prop):Prop :=
 match op with
 | .add=>q (.int k (k.wrap (a+b)))
 | .sub=>q (.int k (k.wrap (a - b)))
 | .mul=>q (.int k (k.wrap (a * b)))
 | .quo=>cm (b≠0) (q (.int k (k.wrap (a.tdiv b))))
 | .rem=>cm (b≠0) (q (.int k (a.tmod b)))
 | .and=>q (.int k (k.wrap (BitVec.ofInt k.bits a &&& BitVec.ofInt k.bits b).toNat))
 | .or=>q (.int k (k.wrap (BitVec.ofInt k.bits a ||| BitVec.ofInt k.bits b).toNat))
 | .xor=>q (.int k (k.wrap (BitVec.ofInt k.bits a ^^^ BitVec.ofInt k.bits b).toNat))
 | .eql=>q (.bool (a == b))
 | .neq=>q (.bool (a != b))
 | .lss=>q (.bool (a < b))
 | .leq=>q (.bool (a≤b))
 | .gtr=>q (.bool (a > b))
 | .geq=>q (.bool (a ≥ b))
 | _=>False
def kQ (op:BinOp) (k:IntKind) (a b:Int) (q:Value→Prop):Prop :=
 match op with
 | .shl=>cm (0≤b) (q (.int k (k.wrap (a * 2 ^ (min b.toNat k.bits)))))
 | .shr=>cm (0≤b) (q (.int k (a.fdiv (2 ^ (min b.toNat k.bits)))))
 | _=>False
def jr (op:BinOp) (a b:ByteArray) (q:Value→Prop):Prop :=
 match op with
 | .eql=>q (.bool (a.toList == b.toList))
 | .neq=>q (.bool (!(a.toList == b.toList)))
 | .lss=>q (.bool (Op.bytesLess a.toList b.toList))
 | .leq=>q (.bool (Op.bytesLess a.toList b.toList || a.toList == b.toList))
 | .gtr=>q (.bool (!(Op.bytesLess a.toList b.toList || a.toList == b.toList)))
 | .geq=>q (.bool (!(Op.bytesLess a.toList b.toList)))
 | _=>False
def fG:BinOp→Bool
 | .shl | .shr=>true
 | _=>false
def lS (P:Program) (t:TypeId):Bool :=
 match P.underlying t with
 | some (.interface _)=>true
 | _=>false
def lU:Operand→Bool
 | .const _=>true
 | _=>false
def wQ (P:Program) (neg:Bool) (t:TypeId) (xo yo:Operand) (x y:Value) (q:Value→Prop):Prop :=
 match x,y with
 | .nilIface,.nilIface=>cm ((lU xo || lU yo)=true∧lS P t=true) (q (.bool (xor neg true)))
 | .nilIface,.iface _ _=>cm (lS P t=true) (q (.bool neg))
 | .iface _ _,.nilIface=>cm (lS P t=true) (q (.bool neg))
 | .bool a,.bool b=>cm (P.underlying t=some .bool) (q (.bool (xor neg (a == b))))
 | .pointer none,.pointer b=>cm (P.underlying t matches some (.pointer _)) (q (.bool (xor neg b.isNone)))
 | .pointer (some _),.pointer none=>cm (P.underlying t matches some (.pointer _)) (q (.bool neg))
 | .slice none _ _,.slice b _ _=>cm (P.underlying t matches some (.slice _)) (q (.bool (xor neg b.isNone)))
 | .slice (some _) _ _,.slice none _ _=>cm (P.underlying t matches some (.slice _)) (q (.bool neg))
 | .agg a,.agg b=>∃ r:Bool,(∀ w,(do eqGuard (if neg then .neq else .eql) t xo yo (.agg a) (.agg b); binOp (if neg then .neq else .eql) t (.agg a) (.agg b):Sem Value).run P w = .ok (.bool r) w)∧q (.bool r)
 | _,_=>False
def ct (P:Program) (op:BinOp) (t:TypeId) (xo yo:Operand) (x y:Value) (q:Value→Prop):Prop :=
 match x,y with
 | .int k a,.int k' b=>if fG op then kQ op k a b q else if k=k' then jq op k a b q else False
 | .string a,.string b=>jr op a b q
 | x,y=>match op with
  | .eql=>wQ P false t xo yo x y q
  | .neq=>wQ P true t xo yo x y q
  | _=>False
def GP (op:UnOp) (x:Value) (q:Value→Prop):Prop :=
 match op,x with
 | .not,.bool b=>q (.bool !b)
 | .neg,.int k n=>q (.int k (k.wrap (0 - n)))
 | _,_=>False
def wR (P:Program) (t:TypeId) (name:String):Option FuncId :=
 match (P.info? t).bind fun i=>i.methods.find? (·.name == name) with
 | some m=>if m.path.isEmpty then match m.func with
     | some (f,true)=>match P.underlying t with
       | some (.pointer _)=>some f
       | _=>none
     | some (f,false)=>match P.underlying t with
       | some (.pointer _) | none=>none
       | _=>some f
     | none=>none
  else none
 | none=>none
def iO (P:Program) (f:FuncId):Bool :=
 match P.funcs[f]? with
 | some fn => fn.body.isSome && fn.name != "runtime.NumGoroutine"
 | none=>false
def ai (P:Program) (f:FuncId) (args:Array Value) (k:aq) (w:World):Prop :=
 Calls P f args w fun en w'=>∃ v,en = .returned v∧k v w'
def dH (P:Program) (s:Sem Value) (k:aq) (w:World):Prop :=
 match s.run P w with
 | .ok v w'=>k v w'
 | .halt .. => False
def mH (P:Program) (f:FuncId):Option (Array Value→Sem Value) :=
 match P.funcs[f]? with
 | some fn => if fn.name == "runtime.NumGoroutine" || fn.body.isSome then none else
  match Extern.findNext fn with
  | some _=>none
  | none=>Extern.find fn
 | none=>none
def lG (P:Program) (fv:Value) (args:Array Value) (k:aq) (w:World):Prop :=
 match fv with
 | .func (.func f) first cap=>if iO P f then ai P f (first++args++cap) k w else
   match mH P f with
   | some s=>dH P (s (first++args++cap)) k w
   | none=>False
 | _=>False
def cQ (P:Program) (recv:Value) (name:String) (args:Array Value) (k:aq) (w:World):Prop :=
 match recv with
 | .iface t v=>match wR P t name with
  | some f=>cm (iO P f=true) (ai P f (#[v]++args) k w)
  | none=>False
 | _=>False
def nQ (P:Program) (t:Option TypeId) (x:Option Value) (k:Value→Prop):Prop :=
 match t.bind P.underlying,x with
 | some (.slice _),some (.slice _ n _)=>k (.int .i64 n)
 | some .string,some (.string s)=>k (.int .i64 s.size)
 | _,_=>False
def rD (P:Program) (t:Option TypeId) (x:Option Value) (k:Value→Prop):Prop :=
 match t.bind P.underlying,x with
 | some (.slice _),some (.slice _ _ n)=>k (.int .i64 n)
 | _,_=>False
def gJ (o:Option Value) (d:Int) (k:Int→Prop):Prop :=
 match o with
 | none=>k d
 | some (.int _ i)=>k i
 | some _=>False
def cz (P:Program) (t:TypeId) (x:Value) (lo hi mx:Option Value) (k:Value→Prop):Prop :=
 match P.underlying t,x with
 | some (.slice el),.slice a len cap=>match wP P el with
   | some n=>gJ mx cap fun m=>gJ hi len fun h=>gJ lo 0 fun l=>cm ((0≤l∧l≤h)∧(h≤m∧m≤cap)∧(mx.isSome=true→hi.isSome=true))
       (k (.slice (if m=l then a else a.map (·.add (l.toNat * n))) (h.toNat - l.toNat) (m.toNat - l.toNat)))
   | none=>False
 | some (.array len el),.pointer (some a)=>match wP P el with
   | some n=>gJ mx len fun m=>gJ hi len fun h=>gJ lo 0 fun l=>cm ((0≤l∧l≤h)∧(h≤m∧m≤len)∧(mx.isSome=true→hi.isSome=true))
       (k (.slice (some (if m=l then a else a.add (l.toNat * n))) (h.toNat - l.toNat) (m.toNat - l.toNat)))
   | none=>False
 | _,_=>False
def cx (P:Program) (t:TypeId):Option (Array (Nat × Nat)) :=
 match P.underlying t with
 | some (.struct fs)=>fs.mapM fun f=>(wP P f.type).map fun s=>(f.offset,s)
 | _=>none
def cX (P:Program) (t:TypeId) (parts:Array (Nat × Value)) (k:Value→Prop):Prop :=
 match cx P t,(P.info? t).bind (·.zero) with
 | some pl,some z=>match Instr.fill (pl[·]?) z.cells parts.toList with
  | some cells=>k (.agg cells)
  | none=>False
 | _,_=>False
def gZ:List Value→Option (List UInt8)
 | []=>some []
 | .int .u8 n :: vs=>(gZ vs).map (UInt8.ofNat n.toNat :: ·)
 | _ :: _=>none
def fY (w:World) (x:Value) (k:Value→Prop):Prop :=
 match x with
 | .slice none _ _=>k (.string .empty)
 | .slice (some a) len _=>jo w a 0 len fun vs=>match gZ vs with
   | some l=>k (.string ⟨l.toArray⟩)
   | none=>False
 | _=>False
def dK (P:Program) (s d:TypeId) (x:Value) (k:aq) (w:World):Prop :=
 match P.underlying s,P.underlying d,x with
 | some (.int _),some (.int kd),.int _ n=>k (.int kd (kd.wrap n)) w
 | some (.slice e),some .string,x=>cm (P.underlying e=some (.int .u8)) (fY w x fun v=>k v w)
 | some .string,some .string,.string s=>k (.string s) w
 | some .string,some (.slice _),.string _=>dH P (convert s d x) k w
 | _,_,_=>False
def gj (P:Program) (b:Builtin) (ats:Array TypeId) (ty:TypeId) (args:Array Value) (k:aq) (w:World):Prop :=
 match b with
 | .len=>nQ P ats[0]? args[0]? fun v=>k v w
 | .cap=>rD P ats[0]? args[0]? fun v=>k v w
 | .append=>dH P (Builtin.append_ ats ty args) k w
 | .copy=>dH P (Builtin.copy_ ats ty args) k w
 | .max=>dH P (Builtin.max_ ats ty args) k w
 | .min=>dH P (Builtin.min_ ats ty args) k w
 | _=>False
def iX (x:Value) (i:Nat) (k:Value→Prop):Prop :=
 match x with
 | .tuple vs=>nP vs[i]? k
 | _=>False
def dC (P:Program) (t:TypeId) (x:Value) (k:Value→Prop):Prop :=
 match P.underlying t with
 | some (.interface _) | none=>False
 | some _=>k (.iface t x)
def ir (P:Program) (o:Oper) (e:de) (k:aq) (w:World):Prop :=
 match o.op with
 | .move x | .assign x=>k (ev e x) w
 | .pick c a b=>rC (ev e c) fun t=>k (if t then ev e a else ev e b) w
 | .load t a=>fJ P t (ev e a) k w
 | .store t a x=>jN P t (ev e a) (ev e x) k w
 | .nilCheck x=>qU (ev e x) fun v=>k v w
 | .fieldAddr s x f=>fi (Aq P s f) (ev e x) fun v=>k v w
 | .field s x f=>pI P s f (ev e x) fun v=>k v w
 | .indexAddr t x i=>ey P t (ev e x) (ev e i) fun v=>k v w
 | .index t x i=>kP P t (ev e x) (ev e i) fun v=>k v w
 | .binOp op t x y _=>ct P op t x y (ev e x) (ev e y) fun v=>k v w
 | .unOp op _ x=>GP op (ev e x) fun v=>k v w
 | .extract x i=>iX (ev e x) i fun v=>k v w
 | .makeInterface t x=>dC P t (ev e x) fun v=>k v w
 | .makeFunc fn first cap=>k (.func fn (first.map (ev e)) (cap.map (ev e))) w
 | .alloc t=>dH P (Instr.alloc t true (.tuple #[])) k w
 | .box t x=>dH P (Instr.box t (ev e x)) k w
 | .build t parts=>cX P t (parts.map fun (i,x)=>(i,ev e x)) fun v=>k v w
 | .buildSlice t n parts=>dH P (Instr.buildSlice t n (parts.map fun (i,x)=>(i,ev e x))) k w
 | .convert s d x=>dK P s d (ev e x) k w
 | .makeSlice t l c=>dH P (Instr.makeSlice t (ev e l) (ev e c)) k w
 | .slice t x lo hi mx=>cz P t (ev e x) (lo.map (ev e)) (hi.map (ev e)) (mx.map (ev e)) fun v=>k v w
 | .call c=>match c.callee with
  | .value f=>lG P (ev e f) (c.args.map (ev e)) k w
  | .invoke r m=>cQ P (ev e r) m (c.args.map (ev e)) k w
  | .builtin b=>gj P b c.argTypes o.type (c.args.map (ev e)) k w
 | _=>False
def yn (ops:Array Oper) (e:de) (g:Option (Nat × Bool)):Bool :=
 match g with
 | none=>true
 | some (j,b)=>match (ops[j]?).bind (·.dst) with
   | some d=>match e d with
    | .bool x=>x == b
    | _=>false
   | none=>false
def uy (P:Program) (ops:Array Oper):List Oper→de→(de→World→Prop)→World→Prop
 | [],e,k,w=>k e w
 | o :: rest,e,k,w=>if yn ops e o.guard then ir P o e (fun v w'=>uy P ops rest (put e o.dst v) k w') w else uy P ops rest (put e o.dst undef) k w
section mono
variable {P:Program} {w:World}
theorem mI {o:Option Value} {k k':Value→Prop} (h:∀ v,k v→k' v):nP o k→nP o k':=by
 cases o with
 | none=>exact id
 | some v=>exact h v
theorem dt {c p p':Prop} (h:p→p'):cm c p→cm c p':=And.imp id h
theorem mr {a:Addr}:∀ (n i:Nat) {k k':List Value→Prop},(∀ v,k v→k' v)→jo w a i n k→jo w a i n k'
 | 0,_,_,_,h=>h _
 | n+1,_,_,_,h=>mI fun _=>mr n _ fun _=>h _
theorem qC {a:Addr}:∀ (vs:List Value) (w:World) (i:Nat) {k k':World→Prop},(∀ w,k w→k' w)→pH w a i vs k→pH w a i vs k'
 | [],_,_,_,_,h=>h _
 | _ :: vs,_,_,_,_,h=>And.imp id (qC vs _ _ h)
theorem yp {t:TypeId} {x:Value} {k k':aq} (h:∀ v w,k v w→k' v w):fJ P t x k w→fJ P t x k' w:=by
 unfold fJ
 split
 ·split
  ·exact mI fun _=>h _ _
  ·split
   ·split
    ·exact mr _ _ fun _=>h _ _
    ·exact id
   ·exact id
 ·exact id
theorem wS {t:TypeId} {x v:Value} {k k':aq} (h:∀ v w,k v w→k' v w):jN P t x v k w→jN P t x v k' w:=by
 unfold jN
 split
 ·exact dt (qC _ _ _ fun _=>h _ _)
 ·exact id
theorem Ar {x:Value} {k k':Value→Prop} (h:∀ v,k v→k' v):qU x k→qU x k':=by
 unfold qU
 split <;> first | exact h _ | exact id
theorem qW {o:Option Nat} {x:Value} {k k':Value→Prop} (h:∀ v,k v→k' v):fi o x k→fi o x k':=by
 unfold fi
 split <;> first | exact h _ | exact id
theorem yq {t:TypeId} {cs:Array Value} {off:Nat} {k k':Value→Prop} (h:∀ v,k v→k' v):mZ P t cs off k→mZ P t cs off k':=by
 unfold mZ
 split
 ·split
  ·exact h _
  ·exact id
 ·split
  ·exact mI h
  ·exact id
theorem wT {s:TypeId} {f:Nat} {x:Value} {k k':Value→Prop} (h:∀ v,k v→k' v):pI P s f x k→pI P s f x k':=by
 unfold pI
 split
 ·split
  ·exact yq h
  ·exact id
 ·exact id
theorem qX {t:TypeId} {x i:Value} {k k':Value→Prop} (h:∀ v,k v→k' v):ey P t x i k→ey P t x i k':=by
 unfold ey
 split
 ·exact dt (h _)
 ·exact id
theorem wU {t:TypeId} {x i:Value} {k k':Value→Prop} (h:∀ v,k v→k' v):kP P t x i k→kP P t x i k':=by
 unfold kP
 split
 ·exact dt (h _)
 ·exact id
theorem yr {x:Value} {k k':Bool→Prop} (h:∀ v,k v→k' v):rC x k→rC x k':=by
 unfold rC
 split <;> first | exact h _ | exact id
theorem As {op:BinOp} {kd:IntKind} {a b:Int} {k k':Value→Prop} (h:∀ v,k v→k' v):jq op kd a b k→jq op kd a b k':=by
 unfold jq
 split <;> first | exact h _ | exact dt (h _) | exact id
theorem wV {op:BinOp} {kd:IntKind} {a b:Int} {k k':Value→Prop} (h:∀ v,k v→k' v):kQ op kd a b k→kQ op kd a b k':=by
 unfold kQ
 split <;> first | exact dt (h _) | exact id
theorem Au {op:BinOp} {a b:ByteArray} {k k':Value→Prop} (h:∀ v,k v→k' v):jr op a b k→jr op a b k':=by
 unfold jr
 split <;> first | exact h _ | exact id
theorem Cs {neg:Bool} {t:TypeId} {xo yo:Operand} {x y:Value} {k k':Value→Prop} (h:∀ v,k v→k' v):wQ P neg t xo yo x y k→wQ P neg t xo yo x y k':=by
 unfold wQ
 split <;> first | exact dt (h _) | exact id | exact fun ⟨r,h1,h2⟩=>⟨r,h1,h _ h2⟩
theorem Av {op:BinOp} {t:TypeId} {xo yo:Operand} {x y:Value} {k k':Value→Prop} (h:∀ v,k v→k' v):ct P op t xo yo x y k→ct P op t xo yo x y k':=by
 unfold ct
 split
 ·split
  ·exact wV h
  ·split
   ·exact As h
   ·exact id
 ·exact Au h
 ·split <;> first | exact Cs h | exact id
theorem Ct {op:UnOp} {x:Value} {k k':Value→Prop} (h:∀ v,k v→k' v):GP op x k→GP op x k':=by
 unfold GP
 split <;> first | exact h _ | exact id
theorem rE {f:FuncId} {args:Array Value} {k k':aq} (h:∀ v w,k v w→k' v w):ai P f args k w→ai P f args k' w :=
 fun hc=>hc.mono fun _ _ ⟨v,hv,hk⟩=>⟨v,hv,h _ _ hk⟩
theorem uz {r:Value} {nm:String} {args:Array Value} {k k':aq} (h:∀ v w,k v w→k' v w):cQ P r nm args k w→cQ P r nm args k' w:=by
 unfold cQ
 split
 ·split
  ·exact dt (rE h)
  ·exact id
 ·exact id
theorem mJ {s:Sem Value} {k k':aq} (h:∀ v w,k v w→k' v w):dH P s k w→dH P s k' w:=by
 unfold dH
 split <;> first | exact h _ _ | exact id
theorem yu {fv:Value} {args:Array Value} {k k':aq} (h:∀ v w,k v w→k' v w):lG P fv args k w→lG P fv args k' w:=by
 unfold lG
 split
 ·split
  ·exact rE h
  ·split
   ·exact mJ h
   ·exact id
 ·exact id
theorem Aw {t:Option TypeId} {x:Option Value} {k k':Value→Prop} (h:∀ v,k v→k' v):nQ P t x k→nQ P t x k':=by
 unfold nQ
 split <;> first | exact h _ | exact id
theorem Ax {t:Option TypeId} {x:Option Value} {k k':Value→Prop} (h:∀ v,k v→k' v):rD P t x k→rD P t x k':=by
 unfold rD
 split <;> first | exact h _ | exact id
theorem ga {o:Option Value} {d:Int} {k k':Int→Prop} (h:∀ v,k v→k' v):gJ o d k→gJ o d k':=by
 unfold gJ
 split <;> first | exact h _ | exact id
theorem wW {t:TypeId} {x:Value} {lo hi mx:Option Value} {k k':Value→Prop} (h:∀ v,k v→k' v):cz P t x lo hi mx k→cz P t x lo hi mx k':=by
 unfold cz
 split
 ·split
  ·exact ga fun _=>ga fun _=>ga fun _=>dt (h _)
  ·exact id
 ·split
  ·exact ga fun _=>ga fun _=>ga fun _=>dt (h _)
  ·exact id
 ·exact id
theorem wX {t:TypeId} {parts:Array (Nat × Value)} {k k':Value→Prop} (h:∀ v,k v→k' v):cX P t parts k→cX P t parts k':=by
 unfold cX
 split
 ·split <;> first | exact h _ | exact id
 ·exact id
theorem vA {x:Value} {k k':Value→Prop} (h:∀ v,k v→k' v):fY w x k→fY w x k':=by
 unfold fY
 split
 ·exact h _
 ·exact mr _ _ fun vs=>by split <;> first | exact h _ | exact id
 ·exact id
theorem yw {s d:TypeId} {x:Value} {k k':aq} (h:∀ v w,k v w→k' v w):dK P s d x k w→dK P s d x k' w:=by
 unfold dK
 split
 ·exact h _ _
 ·exact dt (vA fun _=>h _ _)
 ·exact h _ _
 ·exact mJ h
 ·exact id
theorem tF {b:Builtin} {ats:Array TypeId} {ty:TypeId} {args:Array Value} {k k':aq} (h:∀ v w,k v w→k' v w):gj P b ats ty args k w→gj P b ats ty args k' w:=by
 unfold gj
 split <;> first | exact mJ h | exact Aw fun _=>h _ _ | exact Ax fun _=>h _ _ | exact id
theorem tG {x:Value} {i:Nat} {k k':Value→Prop} (h:∀ v,k v→k' v):iX x i k→iX x i k':=by
 unfold iX
 split <;> first | exact mI h | exact id
theorem tH {t:TypeId} {x:Value} {k k':Value→Prop} (h:∀ v,k v→k' v):dC P t x k→dC P t x k':=by
 unfold dC
 split <;> first | exact h _ | exact id
theorem Cv {o:Oper} {e:de} {k k':aq} (h:∀ v w,k v w→k' v w):ir P o e k w→ir P o e k' w:=by
 unfold ir
 split
 case h_23 =>
  split
  ·exact yu h
  ·exact uz h
  ·exact tF h
 all_goals first
  | exact h _ _
  | exact yr fun _=>h _ _
  | exact yp h
  | exact wS h
  | exact Ar fun _=>h _ _
  | exact qW fun _=>h _ _
  | exact wT fun _=>h _ _
  | exact qX fun _=>h _ _
  | exact wU fun _=>h _ _
  | exact Av fun _=>h _ _
  | exact Ct fun _=>h _ _
  | exact tG fun _=>h _ _
  | exact tH fun _=>h _ _
  | exact wW fun _=>h _ _
  | exact wX fun _=>h _ _
  | exact yw h
  | exact mJ h
  | exact id
end mono
def ez (P:Program) (k:aq):Result Next→Prop
 | .ok (.value v) w=>k v w
 | .ok .skip w=>k undef w
 | .ok (.enter f args) w=>ai P f args k w
 | _=>False
section sound
variable {P:Program} {w:World}
theorem nR {o:Option Value} {k:Value→Prop}:nP o k↔∃ v,o=some v∧k v:=by
 cases o <;> simp [nP]
theorem pJ {a:Addr}:∀ (n i:Nat) (acc:Array Value) {k:List Value→Prop},jo w a i n k →
    ∃ vs,(loadCellsFrom a i n acc).run P w = .ok (acc++vs.toArray) w∧k vs
 | 0,i,acc,k,h=>⟨[],by simp [loadCellsFrom],h⟩
 | n+1,i,acc,k,h=>by
  obtain ⟨v,hv,h⟩:=nR.1 h
  obtain ⟨vs,hr,hk⟩:=pJ n (i+1) (acc.push v) h
  refine ⟨v :: vs,?_,hk⟩
  simp only [loadCellsFrom,Sem.run_bind,run_load,hv,Result.andThen_ok,hr]
  simp
theorem rF {a:Addr}:∀ (vs:List Value) (w:World) (i:Nat) {k:World→Prop},pH w a i vs k →
    ∃ w',(storeCells a vs i).run P w = .ok () w'∧k w'
 | [],w,i,k,h=>⟨w,by simp [storeCells],h⟩
 | v :: vs,w,i,k,h=>by
  obtain ⟨⟨h1,h2,h3⟩,h⟩:=h
  obtain ⟨x,hx⟩:=b7.1 h1
  obtain ⟨w',hr,hk⟩:=rF vs _ (i+1) h
  exact ⟨w',by simp [storeCells,run_store _ _ _ _ _ h3,hx,h2,hr],hk⟩
theorem lV {t:TypeId} (h:jB P t=true):∃ d,P.underlying t=some d∧(∀ fs,d ≠ .struct fs)∧(∀ n e,d ≠ .array n e):=by
 unfold jB at h
 split at h <;> simp_all
theorem mK (t:TypeId):(jB P t=true→(isAgg t).run P w = .ok false w)∧(ym P t=true→(isAgg t).run P w = .ok true w):=by
 constructor
 ·intro h
  obtain ⟨d,hd,h1,h2⟩:=lV h
  simp only [isAgg,Sem.run_bind,run_underlying hd,Result.andThen_ok]
  cases d <;> simp_all
 ·intro h
  unfold ym at h
  split at h <;> simp_all [isAgg,run_underlying]
theorem fj {t:TypeId} {n:Nat} (h:wP P t=some n):(sizeOf t).run P w = .ok n w:=by
 unfold wP at h
 cases hi:P.info? t with
 | none=>simp [hi] at h
 | some i=>simp [hi] at h; simp [sizeOf,typeInfo,hi,h]
theorem mL {t:TypeId} {x:Value} {k:aq} (h:fJ P t x k w):∃ v,(Instr.loadAt t x).run P w = .ok v w∧k v w:=by
 unfold fJ at h
 split at h
 ·rename_i a
  split at h
  ·rename_i hs
   obtain ⟨v,hv,hk⟩:=nR.1 h
   exact ⟨v,by simp [Instr.loadAt,Instr.sureAddr,loadVar,(mK t).1 hs,hv],hk⟩
  ·split at h
   ·rename_i hs
    split at h
    ·rename_i n hn
     obtain ⟨vs,hr,hk⟩:=pJ (P:=P) n 0 #[] h
     exact ⟨_,by simp [Instr.loadAt,Instr.sureAddr,loadVar,(mK t).2 hs,fj hn,loadCells,hr],hk⟩
    ·exact h.elim
   ·exact h.elim
 ·exact h.elim
theorem yx {t:TypeId} {x v:Value} {k:aq} (h:jN P t x v k w):∃ w',(Instr.storeAt t x v).run P w = .ok () w'∧k undef w':=by
 unfold jN at h
 split at h
 ·obtain ⟨hsz,h⟩:=h
  obtain ⟨w',hr,hk⟩:=rF (P:=P) _ _ _ h
  exact ⟨w',by simp [Instr.storeAt,Instr.sureAddr,storeVar,fj hsz,hr],hk⟩
 ·exact h.elim
theorem Cw {s:TypeId} {f o:Nat} (h:Aq P s f=some o) (a:Addr):(Instr.fieldAt s (.pointer (some a)) f).run P w = .ok (.pointer (some (a.add o))) w:=by
 unfold Aq at h
 split at h
 ·rename_i fs hs
  split at h
  ·rename_i fd hf
   split at h
   ·rename_i n hn
    simp only [aP] at h
    simp [Instr.fieldAt,run_underlying hs,hf,Instr.sureAddr,fieldPlace,fj hn,h]
   ·simp at h
  ·simp at h
 ·simp at h
theorem tu {t:TypeId} {cs:Array Value} {off:Nat} {k:Value→Prop} (h:mZ P t cs off k):∃ v,(part t cs off).run P w = .ok v w∧k v:=by
 unfold mZ at h
 split at h
 ·rename_i hs
  split at h
  ·rename_i n hn
   exact ⟨_,by simp [part,(mK t).2 hs,fj hn],h⟩
  ·exact h.elim
 ·split at h
  ·rename_i hs
   obtain ⟨v,hv,hk⟩:=nR.1 h
   exact ⟨v,by simp [part,(mK t).1 hs,hv],hk⟩
  ·exact h.elim
theorem z8 {t:TypeId} {n:Nat} (h:jn P t=some n):∃ el,P.underlying t=some (.slice el)∧wP P el=some n:=by
 unfold jn at h
 split at h
 ·exact ⟨_,‹_›,h⟩
 ·simp at h
theorem jO {s:Sem Value} {k:aq} (h:dH P s k w):∃ v w',s.run P w = .ok v w'∧k v w':=by
 unfold dH at h
 split at h
 ·exact ⟨_,_,‹_›,h⟩
 ·exact h.elim
theorem nV {f:FuncId} {args:Array Value} (h:iO P f=true):(callFunc f args).run P w = .ok (.enter f args) w:=by
 unfold iO at h
 split at h
 ·rename_i fn hf
  simp only [bq,bne_iff_ne,ne_eq] at h
  obtain ⟨h1,h2⟩:=h
  have hb:¬ fn.body.isNone=true:=by
   cases hb:fn.body <;> simp_all
  simp only [callFunc,Sem.run_bind,run_program,Result.andThen_ok,hf]
  rw [if_neg (by simpa using h2),if_neg hb]
  rfl
 ·simp at h
theorem eU {s:Sem Value} {v:Value} {w':World} (h:s.run P w = .ok v w'):(do pure (.value (← s)):Sem Next).run P w = .ok (.value v) w':=by
 simp only [Sem.run_bind,h,Result.andThen_ok,Sem.run_pure]
theorem yy {f:FuncId} {args:Array Value} {s:Array Value→Sem Value} {v:Value} {w':World} (h:mH P f=some s) (hr:(s args).run P w = .ok v w'):(callFunc f args).run P w = .ok (.value v) w':=by
 unfold mH at h
 split at h
 ·rename_i fn hf
  split at h
  ·simp at h
  ·rename_i hc
   simp only [Bool.or_eq_true,not_or,Bool.not_eq_true,Option.isSome_eq_false_iff] at hc
   split at h
   ·simp at h
   ·rename_i hn
    simp only [callFunc,Sem.run_bind,run_program,Result.andThen_ok,hf]
    rw [if_neg (by simp [hc.1]),if_pos hc.2]
    simp only [Sem.run_bind,run_mark,Result.andThen_ok,hn,h]
    rw [hr]; rfl
 ·simp at h
theorem Ay {t:TypeId} {v:Value} {name:String} {f:FuncId} (h:wR P t name=some f) (n:Nat):(method (n+1) t v name).run P w = .ok (f,v) w:=by
 unfold wR at h
 split at h
 ·rename_i m hm
  split at h
  ·rename_i hp
   cases hi:P.info? t with
   | none=>simp [hi] at hm
   | some i =>
    simp [hi] at hm
    have hpl:m.path.toList=[]:=by simpa using hp
    split at h
    ·rename_i f' hf
     split at h
     ·rename_i el hu
      simp only [aP] at h
      subst h
      simp [method,typeInfo,hi,hm,hpl,follow,hf,receiverAt,run_underlying hu,Place.get]
     ·simp at h
    ·rename_i f' hf
     split at h
     ·simp at h
     ·simp at h
     ·rename_i hu1 hu2
      simp only [aP] at h
      subst h
      cases hu:P.underlying t with
      | none=>exact absurd hu hu2
      | some d =>
       simp only [method,typeInfo,hi,hm,hpl,follow,hf,receiverAt,run_underlying hu,Sem.run_bind,run_program,Result.andThen_ok,Sem.run_pure]
       cases d <;> first | (exact absurd hu (hu1 _)) | simp [Place.get]
    ·simp at h
  ·simp at h
 ·simp at h
end sound
section sound2
variable {P:Program} {w:World}
theorem rG (op:BinOp) (k:IntKind) (a b:Int) (r:BitVec k.bits)
    (h:op = .and∧r=BitVec.ofInt k.bits a &&& BitVec.ofInt k.bits b∨op = .or∧r=BitVec.ofInt k.bits a ||| BitVec.ofInt k.bits b∨op = .xor∧r=BitVec.ofInt k.bits a ^^^ BitVec.ofInt k.bits b) :
    (Op.intBits op k a b).run P w = .ok (.int k (k.wrap r.toNat)) w:=by
 rcases h with ⟨rfl,rfl⟩ | ⟨rfl,rfl⟩ | ⟨rfl,rfl⟩ <;> rfl
theorem Cx {op:BinOp} {t:TypeId} {xo yo:Operand} {kd:IntKind} {a b:Int} {k:Value→Prop} (h:jq op kd a b k) :
    ∃ v,(do eqGuard op t xo yo (.int kd a) (.int kd b); binOp op t (.int kd a) (.int kd b):Sem Value).run P w = .ok v w∧k v:=by
 have e0:∀ op,eqGuard op t xo yo (.int kd a) (.int kd b)=pure ():=fun op=>eqGuard_at_int ..
 cases op <;> first | exact h.elim | skip
 ·exact ⟨_,by simp only [Sem.run_bind,e0,binOp_add]; rfl,h⟩
 ·exact ⟨_,by simp only [Sem.run_bind,e0,binOp_sub]; rfl,h⟩
 ·exact ⟨_,by simp only [Sem.run_bind,e0,binOp_mul]; rfl,h⟩
 ·exact ⟨_,by simp only [Sem.run_bind,e0,binOp_quo,Op.intDiv,if_neg h.1]; rfl,h.2⟩
 ·exact ⟨_,by simp only [Sem.run_bind,e0,binOp_rem,Op.intDiv,if_neg h.1]; rfl,h.2⟩
 ·exact ⟨_,by simp only [Sem.run_bind,e0,binOp_and]; exact rG _ _ _ _ _ (.inl ⟨rfl,rfl⟩),h⟩
 ·exact ⟨_,by simp only [Sem.run_bind,e0,binOp_or]; exact rG _ _ _ _ _ (.inr (.inl ⟨rfl,rfl⟩)),h⟩
 ·exact ⟨_,by simp only [Sem.run_bind,e0,binOp_xor]; exact rG _ _ _ _ _ (.inr (.inr ⟨rfl,rfl⟩)),h⟩
 ·exact ⟨_,by simp only [Sem.run_bind,e0,binOp_eql]; rfl,h⟩
 ·exact ⟨_,by simp only [Sem.run_bind,e0,binOp_neq]; rfl,h⟩
 ·exact ⟨_,by simp only [Sem.run_bind,e0,binOp_lss]; rfl,h⟩
 ·exact ⟨_,by simp only [Sem.run_bind,e0,binOp_leq]; rfl,h⟩
 ·exact ⟨_,by simp only [Sem.run_bind,e0,binOp_gtr]; rfl,h⟩
 ·exact ⟨_,by simp only [Sem.run_bind,e0,binOp_geq]; rfl,h⟩
theorem Gy {neg:Bool} {t:TypeId} {x y:Value} {b:Bool} (h:∀ d,(Op.equalIn (d+1) t x y).run P w = .ok b w)
    (hx:∀ k n,x ≠ .int k n) (hs:∀ s,x ≠ .string s) (hf:∀ k n,x ≠ .float k n) (hc:∀ k n m,x ≠ .complex k n m) :
    (binOp (if neg then .neq else .eql) t x y).run P w = .ok (.bool (xor neg b)) w:=by
 have h':(Op.equal t x y).run P w = .ok b w:=h 9999
 cases neg
 ·cases x <;> first | exact absurd rfl (hx _ _) | exact absurd rfl (hs _) | exact absurd rfl (hf _ _) | exact absurd rfl (hc _ _ _) | simp [binOp,h']
 ·cases x <;> first | exact absurd rfl (hx _ _) | exact absurd rfl (hs _) | exact absurd rfl (hf _ _) | exact absurd rfl (hc _ _ _) | simp [binOp,h']
theorem z9 {neg:Bool} {t:TypeId} {xo yo:Operand} {x y:Value} {k:Value→Prop} (h:wQ P neg t xo yo x y k) :
    ∃ v,(do eqGuard (if neg then .neq else .eql) t xo yo x y; binOp (if neg then .neq else .eql) t x y:Sem Value).run P w = .ok v w∧k v:=by
 have fin:∀ {b:Bool},(∀ d,(Op.equalIn (d+1) t x y).run P w = .ok b w)→(∀ k n,x ≠ .int k n)→(∀ s,x ≠ .string s)→(∀ k n,x ≠ .float k n)→(∀ k n m,x ≠ .complex k n m) →
     eqGuard (if neg then .neq else .eql) t xo yo x y=pure () →
     (do eqGuard (if neg then .neq else .eql) t xo yo x y; binOp (if neg then .neq else .eql) t x y:Sem Value).run P w = .ok (.bool (xor neg b)) w:=by
  intro b h1 h2 h3 h4 h5 h6
  rw [h6]
  simp only [Sem.run_bind,Sem.run_pure,Result.andThen_ok]
  exact Gy h1 h2 h3 h4 h5
 unfold wQ at h
 split at h
 ·obtain ⟨⟨hc,hi⟩,h⟩:=h
  unfold lS at hi
  split at hi
  ·rename_i ms hu
   refine ⟨_,fin (b:=true) (fun d=>by simp [Op.equalIn,run_underlying hu]) (by simp) (by simp) (by simp) (by simp) ?_,h⟩
   cases xo <;> first
    | exact eqGuard_nil_constL ..
    | (cases yo <;> first
        | exact eqGuard_nil_constR ..
        | simp [lU] at hc)
  ·simp at hi
 ·obtain ⟨hi,h⟩:=h
  unfold lS at hi
  split at hi
  ·rename_i ms hu
   refine ⟨_,fin (b:=false) (fun d=>by simp [Op.equalIn,run_underlying hu]) (by simp) (by simp) (by simp) (by simp) (eqGuard_nil_iface ..),by simpa using h⟩
  ·simp at hi
 ·obtain ⟨hi,h⟩:=h
  unfold lS at hi
  split at hi
  ·rename_i ms hu
   refine ⟨_,fin (b:=false) (fun d=>by simp [Op.equalIn,run_underlying hu]) (by simp) (by simp) (by simp) (by simp) (eqGuard_at_iface ..),by simpa using h⟩
  ·simp at hi
 ·rename_i a b
  obtain ⟨hi,h⟩:=h
  refine ⟨_,fin (b:=a == b) ?_ (by simp) (by simp) (by simp) (by simp) (eqGuard_at_bool ..),h⟩
  intro d; simp [Op.equalIn,run_underlying hi]
 ·rename_i b
  obtain ⟨hi,h⟩:=h
  split at hi
  ·rename_i hu
   refine ⟨_,fin (b:=b.isNone) ?_ (by simp) (by simp) (by simp) (by simp) (eqGuard_at_pointer ..),h⟩
   intro d; simp [Op.equalIn,run_underlying hu]
  ·simp at hi
 ·rename_i a
  obtain ⟨hi,h⟩:=h
  split at hi
  ·rename_i hu
   refine ⟨_,fin (b:=false) ?_ (by simp) (by simp) (by simp) (by simp) (eqGuard_at_pointer ..),by simpa using h⟩
   intro d; simp [Op.equalIn,run_underlying hu]
  ·simp at hi
 ·rename_i l c b l' c'
  obtain ⟨hi,h⟩:=h
  split at hi
  ·rename_i hu
   refine ⟨_,fin (b:=b.isNone) ?_ (by simp) (by simp) (by simp) (by simp) (eqGuard_at_slice ..),h⟩
   intro d; simp [Op.equalIn,run_underlying hu]
  ·simp at hi
 ·obtain ⟨hi,h⟩:=h
  split at hi
  ·rename_i hu
   refine ⟨_,fin (b:=false) ?_ (by simp) (by simp) (by simp) (by simp) (eqGuard_at_slice ..),by simpa using h⟩
   intro d; simp [Op.equalIn,run_underlying hu]
  ·simp at hi
 ·obtain ⟨r,h1,h2⟩:=h
  exact ⟨_,h1 w,h2⟩
 ·exact h.elim
theorem Cy {op:BinOp} {t:TypeId} {xo yo:Operand} {a b:ByteArray} {k:Value→Prop} (h:jr op a b k) :
    ∃ v,(do eqGuard op t xo yo (.string a) (.string b); binOp op t (.string a) (.string b):Sem Value).run P w = .ok v w∧k v:=by
 have e0:∀ op,eqGuard op t xo yo (.string a) (.string b)=pure ():=fun op=>eqGuard_at_string ..
 cases op <;> first | exact h.elim | skip
 all_goals exact ⟨_,by simp only [Sem.run_bind,e0]; rfl,h⟩
theorem Cz {op:BinOp} {t:TypeId} {xo yo:Operand} {x y:Value} {k:Value→Prop} (h:ct P op t xo yo x y k) :
    ∃ v,(do eqGuard op t xo yo x y; binOp op t x y:Sem Value).run P w = .ok v w∧k v:=by
 unfold ct at h
 split at h
 ·rename_i kd a kd' b
  split at h
  ·unfold kQ at h
   split at h
   ·obtain ⟨hb,h⟩:=h
    exact ⟨_,by simp only [Sem.run_bind,eqGuard_shl,binOp_shl,Op.shift,if_neg (Int.not_lt.2 hb)]; rfl,h⟩
   ·obtain ⟨hb,h⟩:=h
    exact ⟨_,by simp only [Sem.run_bind,eqGuard_shr,binOp_shr,Op.shift,if_neg (Int.not_lt.2 hb)]; rfl,h⟩
   ·exact h.elim
  ·split at h
   ·subst_vars
    exact Cx h
   ·exact h.elim
 ·exact Cy h
 ·split at h
  ·exact z9 (neg:=false) h
  ·exact z9 (neg:=true) h
  ·exact h.elim
theorem wY {x:Operand} {e:de} {o:Oper} (ho:o.op = .nilCheck x) {k:Value→Prop} (h:qU (ev e x) k):∃ v,(execOp (ev e) o).run P w = .ok (.value v) w∧k v:=by
 unfold qU at h
 split at h <;> first
  | exact h.elim
  | (rename_i hx; exact ⟨_,by simp only [execOp,ho,hx]; rfl,h⟩)
theorem C0 {ats:Array TypeId} {ty:TypeId} {args:Array Value} {k:Value→Prop} (h:nQ P ats[0]? args[0]? k):∃ v,(Builtin.len_ ats ty args).run P w = .ok v w∧k v:=by
 unfold nQ at h
 split at h
 ·rename_i el n c hu hx
  obtain ⟨t,ht,hu⟩:=Option.bind_eq_some_iff.1 hu
  refine ⟨_,?_,h⟩
  simp [Builtin.len_,ht,hx,run_underlying hu,goInt]
 ·rename_i s hu hx
  obtain ⟨t,ht,hu⟩:=Option.bind_eq_some_iff.1 hu
  refine ⟨_,?_,h⟩
  simp [Builtin.len_,ht,hx,run_underlying hu,goInt]
 ·exact h.elim
theorem C1 {ats:Array TypeId} {ty:TypeId} {args:Array Value} {k:Value→Prop} (h:rD P ats[0]? args[0]? k):∃ v,(Builtin.cap_ ats ty args).run P w = .ok v w∧k v:=by
 unfold rD at h
 split at h
 ·rename_i el n c hu hx
  obtain ⟨t,ht,hu⟩:=Option.bind_eq_some_iff.1 hu
  refine ⟨_,?_,h⟩
  simp [Builtin.cap_,ht,hx,run_underlying hu,goInt]
 ·exact h.elim
theorem iE {o:Option Value} {d:Int} {k:Int→Prop} (h:gJ o d k):∃ i,k i∧(o=none∧i=d∨∃ kd,o=some (.int kd i)):=by
 unfold gJ at h
 split at h
 ·exact ⟨_,h,.inl ⟨rfl,rfl⟩⟩
 ·exact ⟨_,h,.inr ⟨_,rfl⟩⟩
 ·exact h.elim
theorem fK {kd:IntKind} {i:Int} {y:Nat} {code:BoundsCode} (h:0≤i∧i≤y):(Instr.sliceBound (.int kd i) y code).run P w = .ok i.toNat w:=by
 simp [Instr.sliceBound,asIntOf,h]
theorem lH {b:Bool} {len cap:Nat} {lo hi mx:Option Value} {l h m:Int} (hl:lo=none∧l=0∨∃ kd,lo=some (.int kd l)) (hh:hi=none∧h=len∨∃ kd,hi=some (.int kd h))
    (hm:mx=none∧m=cap∨∃ kd,mx=some (.int kd m)) (h1:0≤l∧l≤h) (h2:h≤m∧m≤cap) (h3:mx.isSome=true→hi.isSome=true) :
    (Instr.sliceBounds b len cap lo hi mx).run P w = .ok (l.toNat,h.toNat,m.toNat) w:=by
 have e1:∀ y:Int,0≤y→((y.toNat:Nat):Int)=y:=fun y hy=>Int.toNat_of_nonneg hy
 rcases hm with ⟨rfl,rfl⟩ | ⟨km,rfl⟩
 ·rcases hh with ⟨rfl,rfl⟩ | ⟨kh,rfl⟩
  ·rcases hl with ⟨rfl,rfl⟩ | ⟨kl,rfl⟩
   ·simp [Instr.sliceBounds]
   ·simp only [Instr.sliceBounds,Sem.run_bind,Sem.run_pure,Result.andThen_ok,fK (P:=P) (w:=w) (kd:=kl) (y:=len) h1]
    simp
  ·have hb:0≤h∧h≤(cap:Int):=⟨by omega,h2.1⟩
   simp only [Instr.sliceBounds,Sem.run_bind,Sem.run_pure,Result.andThen_ok,fK (P:=P) (w:=w) (kd:=kh) (y:=cap) hb]
   rcases hl with ⟨rfl,rfl⟩ | ⟨kl,rfl⟩
   ·simp
   ·have hc:0≤l∧l≤((h.toNat:Nat):Int):=⟨h1.1,by rw [e1 _ hb.1]; exact h1.2⟩
    simp [fK hc]
 ·rcases hh with ⟨rfl,rfl⟩ | ⟨kh,rfl⟩
  ·simp at h3
  ·have ha:0≤m∧m≤(cap:Int):=⟨by omega,h2.2⟩
   have hb:0≤h∧h≤((m.toNat:Nat):Int):=⟨by omega,by rw [e1 _ ha.1]; exact h2.1⟩
   simp only [Instr.sliceBounds,Sem.run_bind,Result.andThen_ok,fK (P:=P) (w:=w) (kd:=km) (y:=cap) ha,fK (P:=P) (w:=w) (kd:=kh) hb]
   rcases hl with ⟨rfl,rfl⟩ | ⟨kl,rfl⟩
   ·simp
   ·have hc:0≤l∧l≤((h.toNat:Nat):Int):=⟨h1.1,by rw [e1 _ hb.1]; exact h1.2⟩
    simp [fK hc]
theorem yz {t:TypeId} {x:Value} {lo hi mx:Option Value} {k:Value→Prop} (h:cz P t x lo hi mx k):∃ v,(Instr.sliceAt t x lo hi mx).run P w = .ok v w∧k v:=by
 unfold cz at h
 split at h
 ·rename_i el a len cap hu
  split at h
  ·rename_i n hn
   obtain ⟨m,h,hm⟩:=iE h
   obtain ⟨hh,h,hhi⟩:=iE h
   obtain ⟨l,h,hl⟩:=iE h
   obtain ⟨⟨h1,h2,h3⟩,h⟩:=h
   refine ⟨_,?_,h⟩
   have e:(m=l)↔(m.toNat=l.toNat):=by omega
   simp only [Instr.sliceAt,Sem.run_bind,run_underlying hu,Result.andThen_ok,Instr.slice,lH hl hhi hm h1 h2 h3,fj hn,Sem.run_pure,e]
  ·exact h.elim
 ·rename_i len el a hu
  split at h
  ·rename_i n hn
   obtain ⟨m,h,hm⟩:=iE h
   obtain ⟨hh,h,hhi⟩:=iE h
   obtain ⟨l,h,hl⟩:=iE h
   obtain ⟨⟨h1,h2,h3⟩,h⟩:=h
   refine ⟨_,?_,h⟩
   have e:(m=l)↔(m.toNat=l.toNat):=by omega
   simp only [Instr.sliceAt,Instr.sureAddr,Sem.run_bind,run_underlying hu,Result.andThen_ok,Sem.run_pure,lH hl hhi hm h1 h2 h3,fj hn,e]
  ·exact h.elim
 ·exact h.elim
theorem C2 {fs:List Field} {l:List (Nat × Nat)} (h:(fs.mapM fun f=>(wP P f.type).map fun s=>(f.offset,s))=some l) :
    (fs.mapM fun f=>(do pure (f.offset,← sizeOf f.type):Sem (Nat × Nat))).run P w = .ok l w:=by
 induction fs generalizing l with
 | nil=>simp only [List.mapM_nil,Option.pure_def,aP] at h; subst h; simp
 | cons f fs ih =>
  simp only [List.mapM_cons,Option.bind_eq_bind,Option.pure_def,Option.bind_eq_some_iff] at h
  obtain ⟨x,hx,l',hl',h⟩:=h
  obtain ⟨n,hn,rfl⟩:=Option.map_eq_some_iff.1 hx
  simp only [aP] at h
  subst h
  simp only [List.mapM_cons,Sem.run_bind,fj hn,Result.andThen_ok,Sem.run_pure,ih hl']
theorem y6 {t:TypeId} {parts:Array (Nat × Value)} {k:Value→Prop} (h:cX P t parts k):∃ v,(Instr.build t parts).run P w = .ok v w∧k v:=by
 unfold cX at h
 split at h
 ·rename_i pl z hp hz
  split at h
  ·rename_i cells hf
   refine ⟨_,?_,h⟩
   obtain ⟨i,hi,hz⟩:=Option.bind_eq_some_iff.1 hz
   unfold cx at hp
   split at hp
   ·rename_i fs hu
    have hm:(fs.mapM fun f=>(do pure (f.offset,← sizeOf f.type):Sem (Nat × Nat))).run P w = .ok pl w:=by
     rw [Array.mapM_eq_mapM_toList] at hp ⊢
     simp only [Option.map_eq_map,Option.map_eq_some_iff] at hp
     obtain ⟨l,hl,rfl⟩:=hp
     simp only [Sem.run_map,C2 hl,Result.andThen_ok]
    simp only [Instr.build,Sem.run_bind,zeroValue,typeInfo,run_program,hi,hz,Result.andThen_ok,Sem.run_pure,run_underlying hu,hm,hf]
   ·simp at hp
  ·exact h.elim
 ·exact h.elim
theorem qE:∀ (vs:List Value) (l:List UInt8) (acc:ByteArray),gZ vs=some l →
    (forIn vs acc fun c s=>(do
     match c with
     | .int .u8 n=>pure (ForInStep.yield (s.push (UInt8.ofNat n.toNat)))
     | _=>do
      stuck "bytesToString: byte expected"
      pure (ForInStep.yield s):Sem (ForInStep ByteArray))).run P w = .ok ⟨acc.data++l.toArray⟩ w
 | [],l,acc,h=>by simp only [gZ,aP] at h; subst h; simp
 | v :: vs,l,acc,h=>by
  obtain ⟨n,rfl⟩:∃ n,v = .int .u8 n:=by
   unfold gZ at h
   split at h
   ·simp_all
   ·rename_i heq; exact ⟨_,(List.cons.inj heq).1⟩
   ·simp at h
  simp only [gZ] at h
  obtain ⟨l',hl',rfl⟩:=Option.map_eq_some_iff.1 h
  simp only [List.forIn_cons,Sem.run_bind,Sem.run_pure,Result.andThen_ok,qE vs l' _ hl']
  congr 2
  simp [ByteArray.push]
theorem wZ {x:Value} {k:Value→Prop} (h:fY w x k):∃ v,(Conv.bytesToString x).run P w = .ok v w∧k v:=by
 unfold fY at h
 split at h
 ·exact ⟨_,rfl,h⟩
 ·rename_i a len cap
  obtain ⟨vs,hr,hk⟩:=pJ (P:=P) len 0 #[] h
  split at hk
  ·rename_i l hl
   refine ⟨_,?_,hk⟩
   have h2:=qE (P:=P) (w:=w) vs l ByteArray.empty hl
   simp only [Conv.bytesToString,Sem.run_bind,loadCells,hr,Result.andThen_ok]
   simp only [Array.empty_append,List.forIn_toArray]
   have e:(⟨ByteArray.empty.data++l.toArray⟩:ByteArray)=⟨l.toArray⟩:=by
    show (⟨#[]++l.toArray⟩:ByteArray)=_
    rw [Array.empty_append]
   rw [e] at h2
   exact (congrArg (fun r:Result ByteArray=>r.andThen fun a w'=>Sem.run P (pure (Value.string a)) w') h2).trans rfl
  ·exact hk.elim
 ·exact h.elim
theorem we {s d e:TypeId} {x:Value} {k:Value→Prop} (hs:P.underlying s=some (.slice e)) (hd:P.underlying d=some .string) (he:P.underlying e=some (.int .u8))
    (h:fY w x k):∃ v,(convert s d x).run P w = .ok v w∧k v:=by
 obtain ⟨v,hr,hk⟩:=wZ (P:=P) h
 refine ⟨v,?_,hk⟩
 have hx:(∃ a l c,x = .slice a l c):=by
  unfold fY at h; split at h <;> first | exact ⟨_,_,_,rfl⟩ | exact h.elim
 obtain ⟨a,l,c,rfl⟩:=hx
 simp [convert,run_underlying hs,run_underlying hd,run_underlying he,hr]
theorem Az {s d:TypeId} {x:Value} {k:aq} (h:dK P s d x k w):∃ v w',(convert s d x).run P w = .ok v w'∧k v w':=by
 unfold dK at h
 split at h
 ·rename_i k1 kd k2 n hs hd
  refine ⟨_,w,?_,h⟩
  simp [convert,run_underlying hs,run_underlying hd,Conv.intToInt]
 ·rename_i e hs hd
  obtain ⟨v,hr,hk⟩:=we (P:=P) hs hd h.1 h.2
  exact ⟨v,w,hr,hk⟩
 ·rename_i str hs hd
  exact ⟨_,w,by simp [convert,run_underlying hs,run_underlying hd],h⟩
 ·obtain ⟨v,w',hr,hk⟩:=jO h
  exact ⟨v,w',hr,hk⟩
 ·exact h.elim
theorem vB {o:Oper} {e:de} {k:aq} (h:ir P o e k w):ez P k ((execOp (ev e) o).run P w):=by
 obtain ⟨dst,op,type,pos,after,guard⟩:=o
 cases op <;> simp only [ir] at h <;> first | exact h.elim | skip
 case move x=>exact h
 case assign x=>exact h
 case pick c a b =>
  unfold rC at h
  split at h
  ·rename_i t hc
   simp only [execOp,hc,asBool,Sem.run_bind,Sem.run_pure,Result.andThen_ok,ez]
   exact h
  ·exact h.elim
 case alloc t =>
  obtain ⟨v,w',hr,hk⟩:=jO h
  simp only [execOp,eU hr,ez]; exact hk
 case box t x =>
  obtain ⟨v,w',hr,hk⟩:=jO h
  simp only [execOp,eU hr,ez]; exact hk
 case build t x =>
  obtain ⟨v,hr,hk⟩:=y6 (w:=w) h
  simp only [execOp,eU hr,ez]; exact hk
 case buildSlice t n x =>
  obtain ⟨v,w',hr,hk⟩:=jO h
  simp only [execOp,eU hr,ez]; exact hk
 case load t a =>
  obtain ⟨v,hr,hk⟩:=mL h
  simp only [execOp,eU hr,ez]; exact hk
 case store t a x =>
  obtain ⟨w',hr,hk⟩:=yx h
  simp only [execOp,Sem.run_bind,hr,Result.andThen_ok,Sem.run_pure,ez]; exact hk
 case nilCheck x =>
  obtain ⟨v,hr,hk⟩:=wY (P:=P) (w:=w) (o:={ dst,op := .nilCheck x,type,pos,after,guard }) rfl h
  rw [hr]; exact hk
 case binOp op t x y yt =>
  obtain ⟨v,hr,hk⟩:=Cz (w:=w) h
  simp only [execOp,eU hr,ez]; exact hk
 case unOp op t x =>
  unfold GP at h
  split at h
  ·rename_i b hb
   simp only [execOp,hb,eU (s:=Op.unary .not (.bool b)) (v := .bool !b) rfl,ez]; exact h
  ·rename_i kd n hb
   simp only [execOp,hb,eU (s:=Op.unary .neg (.int kd n)) (v := .int kd (kd.wrap (0 - n))) rfl,ez]; exact h
  ·exact h.elim
 case convert s d x =>
  obtain ⟨v,w',hr,hk⟩:=Az h
  simp only [execOp,eU hr,ez]; exact hk
 case makeInterface t x =>
  unfold dC at h
  have hr:(Instr.makeInterface t (ev e x)).run P w = .ok (.iface t (ev e x)) w∧k (.iface t (ev e x)) w:=by
   cases hu:P.underlying t with
   | none=>simp [hu] at h
   | some d =>
    simp only [Instr.makeInterface,Sem.run_bind,run_underlying hu,Result.andThen_ok]
    cases d <;> simp_all
  simp only [execOp,eU hr.1,ez]; exact hr.2
 case makeFunc fn a b=>simp only [execOp]; exact h
 case makeSlice t l c =>
  obtain ⟨v,w',hr,hk⟩:=jO h
  simp only [execOp,eU hr,ez]; exact hk
 case slice t x lo hi mx =>
  obtain ⟨v,hr,hk⟩:=yz (w:=w) h
  simp only [execOp,eU hr,ez]; exact hk
 case fieldAddr s x f =>
  unfold fi at h
  split at h
  ·rename_i off a ho hx
   simp only [execOp,hx,eU (Cw ho a),ez]; exact h
  ·exact h.elim
 case field s x f =>
  unfold pI at h
  split at h
  ·rename_i fs cs hu hx
   split at h
   ·rename_i fd hf
    obtain ⟨v,hr,hk⟩:=tu (P:=P) (w:=w) h
    have:(Instr.field s (.agg cs) f).run P w = .ok v w:=by simp [Instr.field,run_underlying hu,hf,asAgg,hr]
    simp only [execOp,hx,eU this,ez]; exact hk
   ·exact h.elim
  ·exact h.elim
 case indexAddr t x i =>
  unfold ey at h
  split at h
  ·rename_i n a len cap kd j hs hx hi
   obtain ⟨hb,hk⟩:=h
   obtain ⟨el,hu,hz⟩:=z8 hs
   have:(Instr.indexAt t (.slice (some a) len cap) (.int kd j)).run P w = .ok (.pointer (some (a.add (j.toNat * n)))) w:=by
    simp only [Instr.indexAt,asIntOf,Sem.run_bind,Sem.run_pure,Result.andThen_ok,run_underlying hu]
    simp [hb,fj hz]
   simp only [execOp,hx,hi,eU this,ez]; exact hk
  ·exact h.elim
 case index t x i =>
  unfold kP at h
  split at h
  ·rename_i s kd j hu hx hi
   obtain ⟨⟨h0,h1⟩,hk⟩:=h
   have hlt:j.toNat < s.size:=by omega
   have:(Instr.index t (.string s) (.int kd j)).run P w = .ok (.int .u8 (s[j.toNat]?.getD 0).toNat) w:=by
    simp only [Instr.index,asIntOf,Sem.run_bind,Sem.run_pure,Result.andThen_ok,run_underlying hu]
    rw [if_pos h0]
    cases hg:s[j.toNat]? with
    | none=>simp [hlt] at hg
    | some b=>simp
   simp only [execOp,hx,hi,eU this,ez]; exact hk
  ·exact h.elim
 case extract x i =>
  unfold iX at h
  split at h
  ·rename_i vs hx
   obtain ⟨v,hv,hk⟩:=nR.1 h
   have:(Instr.extract (.tuple vs) i).run P w = .ok v w:=by simp [Instr.extract,hv]
   simp only [execOp,hx,eU this,ez]; exact hk
  ·exact h.elim
 case call c =>
  obtain ⟨callee,args,ats⟩:=c
  cases callee with
  | value f =>
   simp only at h
   unfold lG at h
   split at h
   ·rename_i g first cap hf
    split at h
    ·rename_i he
     simp only [execOp,resolve,hf,Deferred.ofValue,Sem.run_bind,Sem.run_pure,Result.andThen_ok,invoke,nV he,ez]; exact h
    ·split at h
     ·rename_i s hs
      obtain ⟨v,w',hr,hk⟩:=jO h
      simp only [execOp,resolve,hf,Deferred.ofValue,Sem.run_bind,Sem.run_pure,Result.andThen_ok,invoke,yy hs hr,ez]; exact hk
     ·exact h.elim
   ·exact h.elim
  | invoke r m =>
   simp only at h
   unfold cQ at h
   split at h
   ·rename_i t v hr
    split at h
    ·rename_i f hm
     obtain ⟨he,hk⟩:=h
     simp only [execOp,resolve,hr,Sem.run_bind,Sem.run_pure,Result.andThen_ok,invoke,ez]
     have h0:(#[Value.iface t v]++args.map (ev e))[0]? = some (.iface t v):=by
      rw [Array.getElem?_append_left (by simp)]; rfl
     have h1:(#[Value.iface t v]++args.map (ev e)).extract 1 (#[Value.iface t v]++args.map (ev e)).size=args.map (ev e):=by
      apply Array.ext' ; simp [dq]
     obtain ⟨n,hn⟩:∃ n,P.types.size+Made.depth=n+1:=⟨P.types.size+Made.depth - 1,by unfold Made.depth; omega⟩
     simp only [h0,h1,callMethod,Sem.run_bind,run_program,Result.andThen_ok,hn,Ay hm,nV he]
     exact hk
    ·exact h.elim
   ·exact h.elim
  | builtin b =>
   simp only at h
   unfold gj at h
   split at h
   ·obtain ⟨v,hr,hk⟩:=C0 (w:=w) (ty:=type) h
    simp only [execOp,resolve,Sem.run_bind,Sem.run_pure,Result.andThen_ok,invoke,builtin,hr,ez]; exact hk
   ·obtain ⟨v,hr,hk⟩:=C1 (w:=w) (ty:=type) h
    simp only [execOp,resolve,Sem.run_bind,Sem.run_pure,Result.andThen_ok,invoke,builtin,hr,ez]; exact hk
   all_goals first
    | exact h.elim
    | (obtain ⟨v,w',hr,hk⟩:=jO h
       simp only [execOp,resolve,Sem.run_bind,Sem.run_pure,Result.andThen_ok,invoke,builtin,hr,ez]; exact hk)
end sound2
def fA (a:Act):de:=fun i=>a.tmps.getD i undef
def jY (N:Nat) (o:Oper):Bool:=match o.dst with
 | some d=>Nat.blt d N
 | none=>true
def dp (N:Nat):Code→Bool
 | .region _ ops _=>ops.toList.all (jY N)
 | .seq a b=>dp N a && dp N b
 | .cond _ a b=>dp N a && dp N b
 | .block _ a=>dp N a
 | .loop a=>dp N a
 | _=>true
def rH (N:Nat) (Q:Exit→de→World→Prop):Exit→Act→World→Prop
 | .panic _,_,_=>False
 | ex,a,w=>a.tmps.size=N∧a.defers=[]∧Q ex (fA a) w
theorem lW (a:Act):ev (fA a)=a.eval:=by
 funext x
 cases x <;> rfl
theorem iG {N:Nat} {a:Act} (o:Oper) (v:Value) (h:jY N o=true) (hs:a.tmps.size=N):fA (a.put o.dst v)=put (fA a) o.dst v:=by
 funext i
 unfold jY at h
 cases hd:o.dst with
 | none=>rfl
 | some d =>
  simp only [hd,Nat.blt_eq] at h
  simp only [fA,Act.put,put]
  by_cases hi:i=d
  ·subst hi; simp [hs,h]
  ·simp only [if_neg hi,Array.getD_eq_getD_getElem?]
   rw [Array.getElem?_setIfInBounds_ne (Ne.symm hi)]
theorem jP {a:Act} (d:Option Tmp) (v:Value):(a.put d v).tmps.size=a.tmps.size:=by cases d <;> simp [Act.put]
theorem gW {a:Act} (d:Option Tmp) (v:Value):(a.put d v).defers=a.defers:=by cases d <;> rfl
theorem gf {N:Nat} {ops:Array Oper} {a:Act} {o:Oper} (hs:a.tmps.size=N) (hops:ops.toList.all (jY N)=true) :
    yn ops (fA a) o.guard=Region.wanted o (yielded ops a.tmps):=by
 unfold yn Region.wanted yielded
 cases o.guard with
 | none=>rfl
 | some g =>
  obtain ⟨j,b⟩:=g
  simp only
  cases hj:ops[j]? with
  | none=>simp
  | some oj =>
   simp only [Option.bind_some]
   cases hd:oj.dst with
   | none=>simp
   | some d =>
    have hmem:oj ∈ ops.toList:=by
     rw [← Array.getElem?_toList] at hj
     exact aO hj
    have hlt:d < N:=by
     have:=List.all_eq_true.1 hops oj hmem
     simpa [jY,hd] using this
    have hg:a.tmps[d]? = some (fA a d):=by
     simp only [fA,Array.getD_eq_getD_getElem?]
     rw [Array.getElem?_eq_getElem (Nat.lt_of_lt_of_eq hlt hs.symm)]; rfl
    simp only [Option.bind_some,hg]
    cases fA a d <;> simp
section reg
variable {P:Program} {N:Nat}
theorem jQ {ops:Array Oper} (hops:ops.toList.all (jY N)=true) {Q:Exit→de→World→Prop}:∀ (l:List Oper),l.all (jY N)=true →
    ∀ (a:Act) (w:World),a.tmps.size=N→a.defers=[]→uy P ops l (fA a) (fun e w=>Q .normal e w) w→wpList P ops (rH N Q) l a w
 | [],_,a,w,hs,hd,h=>⟨hs,hd,h⟩
 | o :: rest,hl,a,w,hs,hd,h=>by
  simp only [List.all_cons,bq] at hl
  unfold uy at h
  unfold wpList
  rw [gf hs hops] at h
  split
  ·rename_i hw
   rw [if_pos hw] at h
   refine .inl ?_
   have h1:=vB h
   rw [lW] at h1
   unfold Oper.wp Oper.upon
   unfold ez at h1
   split at h1
   ·rename_i v w' hr
    rw [hr]
    exact jQ hops rest hl.2 _ _ (by rw [jP,hs]) (by rw [gW,hd]) (by rw [iG o v hl.1 hs]; exact h1)
   ·rename_i w' hr
    rw [hr]
    exact jQ hops rest hl.2 _ _ (by rw [jP,hs]) (by rw [gW,hd]) (by rw [iG o undef hl.1 hs]; exact h1)
   ·rename_i f args w' hr
    rw [hr]
    refine Calls.mono h1 ?_
    rintro en w'' ⟨v,rfl,hk⟩
    exact jQ hops rest hl.2 _ _ (by rw [jP,hs]) (by rw [gW,hd]) (by rw [iG o v hl.1 hs]; exact hk)
   ·exact h1.elim
  ·rename_i hw
   rw [if_neg hw] at h
   exact jQ hops rest hl.2 _ _ (by rw [jP,hs]) (by rw [gW,hd]) (by rw [iG o undef hl.1 hs]; exact h)
end reg
def tw (K:de→World→Prop) (Q:Exit→de→World→Prop):Exit→de→World→Prop
 | .normal,e,w=>K e w
 | x,e,w=>Q x e w
def mw (id:Nat) (Q:Exit→de→World→Prop):Exit→de→World→Prop
 | .exit j,e,w=>if j=id then Q .normal e w else Q (.exit j) e w
 | x,e,w=>Q x e w
def Io (N:Nat) (P:Program) (c:Code) (Q:Exit→de→World→Prop) (e:de) (w:World):Prop :=
 ∀ a:Act,a.tmps.size=N→a.defers=[]→fA a=e→c.wp P (rH N Q) a w
def AA (x:Value) (p q:Prop):Prop :=
 match x with
 | .bool true=>p
 | .bool false=>q
 | _=>False
def WP (N:Nat) (P:Program):Code→(Exit→de→World→Prop)→de→World→Prop
 | .skip,Q,e,w=>Q .normal e w
 | .region _ ops false,Q,e,w=>uy P ops ops.toList e (fun e w=>Q .normal e w) w
 | .region id ops true,Q,e,w=>Io N P (.region id ops true) Q e w
 | .seq a b,Q,e,w=>WP N P a (tw (fun e w=>WP N P b Q e w) Q) e w
 | .cond c a b,Q,e,w=>AA (ev e c) (WP N P a Q e w) (WP N P b Q e w)
 | .block id a,Q,e,w=>WP N P a (mw id Q) e w
 | .loop a,Q,e,w=>Io N P (.loop a) Q e w
 | .exit id,Q,e,w=>Q (.exit id) e w
 | .ret,Q,e,w=>Q .ret e w
 | _,_,_,_=>False
theorem tx {N:Nat} {K:de→World→Prop} {Q:Exit→de→World→Prop} {ex:Exit} {a:Act} {w:World} (h:rH N (tw K Q) ex a w) :
    Exit.then (fun a w=>a.tmps.size=N∧a.defers=[]∧K (fA a) w) (rH N Q) ex a w:=by
 cases ex <;> exact h
theorem y7 {N:Nat} {id:Nat} {Q:Exit→de→World→Prop} {ex:Exit} {a:Act} {w:World} (h:rH N (mw id Q) ex a w) :
    Exit.inBlock id (rH N Q) ex a w:=by
 cases ex with
 | exit j =>
  obtain ⟨h1,h2,h3⟩:=h
  simp only [Exit.inBlock]
  simp only [mw] at h3
  split
  ·rename_i hj; rw [if_pos hj] at h3; exact ⟨h1,h2,h3⟩
  ·rename_i hj; rw [if_neg hj] at h3; exact ⟨h1,h2,h3⟩
 | _=>exact h
theorem my {N:Nat} {P:Program}:∀ (c:Code),dp N c=true→∀ (Q:Exit→de→World→Prop) (e:de) (w:World),WP N P c Q e w→Io N P c Q e w
 | .skip,_,Q,e,w,h=>fun a hs hd he=>wp_skip ⟨hs,hd,he ▸ h⟩
 | .region id ops false,hok,Q,e,w,h=>fun a hs hd he=>by
  subst he
  exact wp_region_list (jQ hok _ hok a w hs hd h)
 | .region id ops true,_,Q,e,w,h=>h
 | .seq x y,hok,Q,e,w,h=>fun a hs hd he=>by
  simp only [dp,bq] at hok
  refine wp_seq (wp_mono (my x hok.1 _ e w h a hs hd he) fun ex a w hq => ?_)
  have:=tx hq
  cases ex <;> first
   | exact this
   | (obtain ⟨h1,h2,h3⟩:=this; exact my y hok.2 Q _ _ h3 _ h1 h2 rfl)
 | .cond c x y,hok,Q,e,w,h=>fun a hs hd he=>by
  simp only [dp,bq] at hok
  simp only [WP] at h
  subst he
  rw [lW] at h
  unfold AA at h
  split at h
  ·rename_i hc; exact wp_cond_true hc (my x hok.1 Q _ _ h _ hs hd rfl)
  ·rename_i hc; exact wp_cond_false hc (my y hok.2 Q _ _ h _ hs hd rfl)
  ·exact h.elim
 | .block id x,hok,Q,e,w,h=>fun a hs hd he =>
  wp_block (wp_mono (my x hok _ e w h a hs hd he) fun _ _ _ hq=>y7 hq)
 | .loop x,_,Q,e,w,h=>h
 | .exit id,_,Q,e,w,h=>fun a hs hd he=>wp_exit ⟨hs,hd,he ▸ h⟩
 | .ret,_,Q,e,w,h=>fun a hs hd he=>wp_ret ⟨hs,hd,he ▸ h⟩
 | .rangeFunc ..,_,_,_,_,h=>h.elim
 | .scope ..,_,_,_,_,h=>h.elim
 | .label ..,_,_,_,_,h=>h.elim
 | .goto ..,_,_,_,_,h=>h.elim
 | .refuse ..,_,_,_,_,h=>h.elim
def pM (P:Program) (rs:List ResultVar) (e:de) (k:aq) (w:World):Prop :=
 match rs with
 | []=>k (.tuple #[]) w
 | [.tmp t]=>k (e t) w
 | [.cell a t]=>fJ P t (e a) k w
 | [.tmp t,.tmp u]=>k (.tuple #[e t,e u]) w
 | [.tmp t,.tmp u,.tmp v]=>k (.tuple #[e t,e u,e v]) w
 | [.cell a t,.tmp u]=>fJ P t (e a) (fun x w=>k (.tuple #[x,e u]) w) w
 | [.cell a t,.tmp u,.tmp v]=>fJ P t (e a) (fun x w=>k (.tuple #[x,e u,e v]) w) w
 | _=>False
def Ip (P:Program) (rs:List ResultVar) (k:aq):Exit→de→World→Prop
 | .normal,e,w=>pM P rs e k w
 | .ret,e,w=>pM P rs e k w
 | _,_,_=>False
def A0 (args:Array Value):de:=fun i=>args.getD i undef
theorem C3 {P:Program} {fn:Func} {a:Act} {k:aq} {w:World} (h:pM P fn.results.toList (fA a) k w) :
    ∃ v,(results fn a.tmps).run P w = .ok v w∧k v w:=by
 unfold pM at h
 split at h
 ·rename_i hr; exact ⟨_,results_none (Array.toList_inj.1 hr) ..,h⟩
 ·rename_i t hr; exact ⟨_,results_tmp (Array.toList_inj.1 hr) ..,h⟩
 ·rename_i t u hr
  replace hr:fn.results = #[.cell t u]:=Array.toList_inj.1 hr
  obtain ⟨v,hv,hk⟩:=mL h
  refine ⟨v,?_,hk⟩
  unfold fJ at h
  split at h
  ·rename_i ad ha
   simp only [Instr.loadAt,ha,Instr.sureAddr,Sem.run_bind,Sem.run_pure,Result.andThen_ok] at hv
   have ha':a.tmps.getD t undef = .pointer (some ad):=ha
   simp only [results,hr]
   simp only [List.mapM_toArray,List.mapM_cons,List.mapM_nil,ha',asAddr]
   simp [hv]
  ·exact h.elim
 ·rename_i t u hr; exact ⟨_,results_tmp2 (Array.toList_inj.1 hr) ..,h⟩
 ·rename_i t u v hr
  replace hr:fn.results = #[.tmp t,.tmp u,.tmp v]:=Array.toList_inj.1 hr
  refine ⟨_,?_,h⟩
  simp [results,hr,fA]
 ·rename_i t u p hr
  replace hr:fn.results = #[.cell t u,.tmp p]:=Array.toList_inj.1 hr
  obtain ⟨v,hv,hk⟩:=mL h
  refine ⟨_,?_,hk⟩
  unfold fJ at h
  split at h
  ·rename_i ad ha
   simp only [Instr.loadAt,ha,Instr.sureAddr,Sem.run_bind,Sem.run_pure,Result.andThen_ok] at hv
   have ha':a.tmps.getD t undef = .pointer (some ad):=ha
   simp only [results,hr]
   simp only [List.mapM_toArray,List.mapM_cons,List.mapM_nil,ha',asAddr]
   simp [hv,fA]
  ·exact h.elim
 ·rename_i t u p q hr
  replace hr:fn.results = #[.cell t u,.tmp p,.tmp q]:=Array.toList_inj.1 hr
  obtain ⟨v,hv,hk⟩:=mL h
  refine ⟨_,?_,hk⟩
  unfold fJ at h
  split at h
  ·rename_i ad ha
   simp only [Instr.loadAt,ha,Instr.sureAddr,Sem.run_bind,Sem.run_pure,Result.andThen_ok] at hv
   have ha':a.tmps.getD t undef = .pointer (some ad):=ha
   simp only [results,hr]
   simp only [List.mapM_toArray,List.mapM_cons,List.mapM_nil,ha',asAddr]
   simp [hv,fA]
  ·exact h.elim
 ·exact h.elim
theorem wg {P:Program} {f:FuncId} {fn:Func} {c:Code} {args:Array Value} {w:World} {k:aq}
    (hf:P.funcs[f]? = some fn) (hb:fn.body=some c) (hok:dp fn.ntmps c=true) (hn:args.size≤fn.ntmps)
    (h:WP fn.ntmps P c (Ip P fn.results.toList k) (A0 args) w):ai P f args k w:=by
 refine calls_of_wp hf hb (wp_mono (my c hok _ _ _ h _ (by simp; omega) rfl ?_) ?_)
 ·funext i
  simp only [fA,A0,Array.getD_eq_getD_getElem?]
  by_cases hi:i < args.size
  ·rw [Array.getElem?_append_left hi]
  ·rw [Array.getElem?_append_right (by omega),Array.getElem?_eq_none (by omega:args.size≤i)]
   by_cases hj:i - args.size < fn.ntmps - args.size
   ·simp [hj]
   ·rw [Array.getElem?_eq_none (by simp; omega)]
 ·intro ex a w hl
  cases ex <;> first
   | exact hl.elim
   | exact hl.2.2.elim
   | (obtain ⟨hs,hd,hq⟩:=hl
      obtain ⟨v,hr,hk⟩:=C3 hq
      exact ⟨hd,v,hr,v,rfl,hk⟩)
end Go.E
