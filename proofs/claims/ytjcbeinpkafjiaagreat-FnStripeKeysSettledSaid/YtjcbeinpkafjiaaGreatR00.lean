/- Parts of the proof: E. -/
import Derived.Tactics2
import Derived.LoopTactic
import Derived.KernelRfl
set_option linter.all false
set_option maxRecDepth 10000
def aD := @Nat.le_refl
def aH := @Nat.lt_or_ge
def aC := @List.getElem?_eq_getElem
def aI := @Nat.lt_of_lt_of_le
def aM := @List.length_append
def aJ := @List.mem_of_getElem?
def aK := @Option.some.injEq
def aR := @List.mem_cons_self
def ae := @List.mem_singleton
def aQ := @Nat.zero_le
def aP := @List.getElem?_eq_some_iff
def ax := @List.mem_append
def ah := @List.length_map
def ao := @List.length_eq_zero_iff
def ag := @List.length_cons
def aS := @List.getElem_mem
def aj := @List.mem_cons_of_mem
def aT := @List.take_length
def aU := @Nat.le_trans
def aV := @List.getElem_of_mem
def aY := @List.length_singleton
def ak := @List.mem_cons
def bj := @List.flatMap_cons
def bm := @Int.toNat_natCast
def au := @List.append_nil
def bP := @List.getElem?_append_right
def bU := @List.lt_irrefl
def ar := @List.length_take
def bB := @Nat.eq_zero_or_pos
def bJ := @Bool.eq_iff_iff
def bC := @List.map_append
def bF := @List.rel_of_pairwise_cons
def bK := @Nat.mul_le_mul_right
def cV := @List.flatMap_append
def bG := @List.getElem?_append_left
def eZ := @Option.isSome_iff_exists
def bt := @List.append_assoc
def bN := @Bool.and_eq_true
def bQ := @Option.some.inj
def bq := @List.getElem?_map
def bV := @List.mem_map
def db := @List.mem_flatMap
def aN := @List.mem_filter
def fR := @Nat.lt_of_le_of_lt
def dh := @Nat.le_of_lt
def dE := @Nat.lt_irrefl
def cz := @Nat.lt_trichotomy
def az := @List.length_filter_le
def cQ := @List.mem_flatten
def cj := @Nat.lt_or_eq_of_le
def dU := @List.take_append_drop
def bk := @List.length_set
def bA := @List.pairwise_iff_getElem
def aO := @decide_eq_true
def aF := @decide_eq_false
def aG := @getElem!_pos
def aW := @Go.Value.slice.injEq
def dF := @Go.Value.int.injEq
def cW := @Go.Value.pointer.injEq
def cl := @List.map_map
def iV := @List.getElem_map
def eC := @List.take_of_length_le
def cN := @List.drop_eq_getElem_cons
theorem gEl {α : Type} {l : List α} {i : Nat} (h : i < l.length) : ∃ x, l[i]? = some x := ⟨_, List.getElem?_eq_getElem h⟩
theorem sEq {a b : Option Go.Addr} {n m c d : Nat} (h : Go.Value.slice a n c = .slice b m d) : a = b ∧ c = d := by simp at h; exact ⟨h.1, h.2.2⟩
namespace Go.E
open Go
abbrev du:=Nat→Value
def ev (e:du):Operand→Value
 | .tmp t=>e t
 | .const v=>v
 | .global g => .pointer (some ⟨g,0,none⟩)
 | .func f => .func (.func f) #[] #[]
def put (e:du) (d:Option Tmp) (v:Value):du :=
 match d with
 | some d=>fun i=>if i=d then v else e i
 | none=>e
theorem Ck (e:du) (d:Nat) (v:Value) (i:Nat):put e (some d) v i=if i=d then v else e i:=rfl
def iy (P:Program) (t:TypeId):Bool :=
 match P.underlying t with
 | some (.struct _) | some (.array ..) | none=>false
 | some _=>true
def ym (P:Program) (t:TypeId):Bool :=
 match P.underlying t with
 | some (.struct _) | some (.array ..)=>true
 | _=>false
def wt (P:Program) (t:TypeId):Option Nat:=(P.info? t).map (·.size)
def A7 (P:Program) (s:TypeId) (f:Nat):Option Nat :=
 match P.underlying s with
 | some (.struct fs)=>match fs[f]? with
   | some fd=>match wt P fd.type with
    | some (_+1)=>some fd.offset
    | _=>none
   | none=>none
 | _=>none
def Cl (P:Program) (t:TypeId):Option (List Value):=((P.info? t).bind (·.zero)).map (·.cells.toList)
def lS (P:Program) (t:TypeId):Option Nat :=
 match P.underlying t with
 | some (.slice e)=>wt P e
 | _=>none
def oA (o:Option Value) (k:Value→Prop):Prop :=
 match o with
 | some v=>k v
 | none=>False
def cg (c:Prop) (p:Prop):Prop:=c∧p
def jy (w:World) (a:Addr):(i n:Nat)→(List Value→Prop)→Prop
 | _,0,k=>k []
 | i,n+1,k=>oA (w.cell? (a.add i)) fun v=>jy w a (i+1) n fun vs=>k (v :: vs)
def Er (o:Option Value) (fz:Bool) (v:Value) (p:Prop):Prop:=(o.isSome=true∧fz=false∧v.oneCell'=true)∧p
def pf:World→Addr→Nat→List Value→(World→Prop)→Prop
 | w,_,_,[],k=>k w
 | w,a,i,v :: vs,k=>Er (w.cell? (a.add i)) (w.frozen? (a.add i)) v (pf (w.setCell (a.add i) v) a (i+1) vs k)
abbrev aq:=Value→World→Prop
def gK (P:Program) (t:TypeId) (x:Value) (k:aq) (w:World):Prop :=
 match x with
 | .pointer (some a) =>
   if iy P t then oA (w.cell? a) fun v=>k v w
   else if ym P t then
    match wt P t with
    | some n=>jy w a 0 n fun vs=>k (.agg vs.toArray) w
    | none=>False
   else False
 | _=>False
def jN (P:Program) (t:TypeId) (x v:Value) (k:aq) (w:World):Prop :=
 match x with
 | .pointer (some a)=>cg (wt P t=some v.cells.size) (pf w a 0 v.cells.toList fun w'=>k undef w')
 | _=>False
def qs (x:Value) (k:Value→Prop):Prop :=
 match x with
 | .pointer (some a)=>k (.pointer (some a))
 | .func (.func f) a b=>k (.func (.func f) a b)
 | .iface t v=>k (.iface t v)
 | .slice a l c=>k (.slice a l c)
 | _=>False
def fb (off:Option Nat) (x:Value) (k:Value→Prop):Prop :=
 match off,x with
 | some o,.pointer (some a)=>k (.pointer (some (a.add o)))
 | _,_=>False
def ml (P:Program) (t:TypeId) (cs:Array Value) (off:Nat) (k:Value→Prop):Prop :=
 if ym P t then
  match wt P t with
  | some n=>k (.agg (cs.extract off (off+n)))
  | none=>False
 else if iy P t then oA cs[off]? k else False
def ph (P:Program) (s:TypeId) (f:Nat) (x:Value) (k:Value→Prop):Prop :=
 match P.underlying s,x with
 | some (.struct fs),.agg cs=>match fs[f]? with
   | some fd=>ml P fd.type cs fd.offset k
   | none=>False
 | _,_=>False
def eX (P:Program) (t:TypeId) (x i:Value) (k:Value→Prop):Prop :=
 match lS P t,x,i with
 | some n,.slice (some a) len _,.int _ i=>cg (0≤i∧i < len) (k (.pointer (some (a.add (i.toNat * n)))))
 | _,_,_=>False
def kP (P:Program) (t:TypeId) (x i:Value) (k:Value→Prop):Prop :=
 match P.underlying t,x,i with
 | some .string,.string s,.int _ i=>cg (0≤i∧i < s.size) (k (.int .u8 (s[i.toNat]?.getD 0).toNat))
 | _,_,_=>False
def rW (x:Value) (k:Bool→Prop):Prop :=
 match x with
 | .bool b=>k b
 | _=>False
def Lm:Value→Value→Option Bool
 | .bool a,.bool b=>some (a == b)
 | .int k a,.int k' b=>if k=k' then some (a == b) else none
 | .string a,.string b=>some (a.toList == b.toList)
 | .pointer none,.pointer b=>some b.isNone
 | .pointer (some _),.pointer none=>some false
 | .slice none _ _,.slice b _ _=>some b.isNone
 | .slice (some _) _ _,.slice none _ _=>some false
 | .iface _ _,.nilIface=>some false
 | .nilIface,.iface _ _=>some false
 | _,_=>none
def kQ (op:BinOp) (k:IntKind) (a b:Int) (q:Value→Prop):Prop :=
 match op with
 | .add=>q (.int k (k.wrap (a+b)))
 | .sub=>q (.int k (k.wrap (a - b)))
 | .mul=>q (.int k (k.wrap (a * b)))
 | .quo=>cg (b≠0) (q (.int k (k.wrap (a.tdiv b))))
 | .rem=>cg (b≠0) (q (.int k (a.tmod b)))
 | .and=>q (.int k (k.wrap (BitVec.ofInt k.bits a &&& BitVec.ofInt k.bits b).toNat))
 | .or=>q (.int k (k.wrap (BitVec.ofInt k.bits a ||| BitVec.ofInt k.bits b).toNat))
 | .xor=>q (.int k (k.wrap (BitVec.ofInt k.bits a ^^^ BitVec.ofInt k.bits b).toNat))
 | .eql=>q (.bool (a == b))
 | .neq=>q (.bool (a != b))
 | .lss=>q (.bool (a < b))
 | .leq=>q (.bool (a≤b))
 | .gtr=>q (.bool (a > b))
 | .geq=>q (.bool (a ≥ b))
 | _=>False
def kR (op:BinOp) (k:IntKind) (a b:Int) (q:Value→Prop):Prop :=
 match op with
 | .shl=>cg (0≤b) (q (.int k (k.wrap (a * 2 ^ (min b.toNat k.bits)))))
 | .shr=>cg (0≤b) (q (.int k (a.fdiv (2 ^ (min b.toNat k.bits)))))
 | _=>False
def jz (op:BinOp) (a b:ByteArray) (q:Value→Prop):Prop :=
 match op with
 | .eql=>q (.bool (a.toList == b.toList))
 | .neq=>q (.bool (!(a.toList == b.toList)))
 | .lss=>q (.bool (Op.bytesLess a.toList b.toList))
 | .leq=>q (.bool (Op.bytesLess a.toList b.toList || a.toList == b.toList))
 | .gtr=>q (.bool (!(Op.bytesLess a.toList b.toList || a.toList == b.toList)))
 | .geq=>q (.bool (!(Op.bytesLess a.toList b.toList)))
 | _=>False
def fN:BinOp→Bool
 | .shl | .shr=>true
 | _=>false
def lT (P:Program) (t:TypeId):Bool :=
 match P.underlying t with
 | some (.interface _)=>true
 | _=>false
def lU:Operand→Bool
 | .const _=>true
 | _=>false
def wk (P:Program) (neg:Bool) (t:TypeId) (xo yo:Operand) (x y:Value) (q:Value→Prop):Prop :=
 match x,y with
 | .nilIface,.nilIface=>cg ((lU xo || lU yo)=true∧lT P t=true) (q (.bool (xor neg true)))
 | .nilIface,.iface _ _=>cg (lT P t=true) (q (.bool neg))
 | .iface _ _,.nilIface=>cg (lT P t=true) (q (.bool neg))
 | .bool a,.bool b=>cg (P.underlying t=some .bool) (q (.bool (xor neg (a == b))))
 | .pointer none,.pointer b=>cg (P.underlying t matches some (.pointer _)) (q (.bool (xor neg b.isNone)))
 | .pointer (some _),.pointer none=>cg (P.underlying t matches some (.pointer _)) (q (.bool neg))
 | .slice none _ _,.slice b _ _=>cg (P.underlying t matches some (.slice _)) (q (.bool (xor neg b.isNone)))
 | .slice (some _) _ _,.slice none _ _=>cg (P.underlying t matches some (.slice _)) (q (.bool neg))
 | .agg a,.agg b=>∃ r:Bool,(∀ w,(do eqGuard (if neg then .neq else .eql) t xo yo (.agg a) (.agg b); binOp (if neg then .neq else .eql) t (.agg a) (.agg b):Sem Value).run P w = .ok (.bool r) w)∧q (.bool r)
 | _,_=>False
def cx (P:Program) (op:BinOp) (t:TypeId) (xo yo:Operand) (x y:Value) (q:Value→Prop):Prop :=
 match x,y with
 | .int k a,.int k' b=>if fN op then kR op k a b q else if k=k' then kQ op k a b q else False
 | .string a,.string b=>jz op a b q
 | x,y=>match op with
  | .eql=>wk P false t xo yo x y q
  | .neq=>wk P true t xo yo x y q
  | _=>False
def F1 (op:UnOp) (x:Value) (q:Value→Prop):Prop :=
 match op,x with
 | .not,.bool b=>q (.bool !b)
 | .neg,.int k n=>q (.int k (k.wrap (0 - n)))
 | _,_=>False
def wu (P:Program) (t:TypeId) (name:String):Option FuncId :=
 match (P.info? t).bind fun i=>i.methods.find? (·.name == name) with
 | some m=>if m.path.isEmpty then match m.func with
     | some (f,true)=>match P.underlying t with
       | some (.pointer _)=>some f
       | _=>none
     | some (f,false)=>match P.underlying t with
       | some (.pointer _) | none=>none
       | _=>some f
     | none=>none
  else none
 | none=>none
def iX (P:Program) (f:FuncId):Bool :=
 match P.funcs[f]? with
 | some fn => fn.body.isSome && fn.name != "runtime.NumGoroutine"
 | none=>false
def aX (P:Program) (f:FuncId) (args:Array Value) (k:aq) (w:World):Prop :=
 Calls P f args w fun en w'=>∃ v,en = .returned v∧k v w'
def dw (P:Program) (s:Sem Value) (k:aq) (w:World):Prop :=
 match s.run P w with
 | .ok v w'=>k v w'
 | .halt .. => False
def mO (P:Program) (f:FuncId):Option (Array Value→Sem Value) :=
 match P.funcs[f]? with
 | some fn => if fn.name == "runtime.NumGoroutine" || fn.body.isSome then none else
  match Extern.findNext fn with
  | some _=>none
  | none=>Extern.find fn
 | none=>none
def lI (P:Program) (fv:Value) (args:Array Value) (k:aq) (w:World):Prop :=
 match fv with
 | .func (.func f) first cap=>if iX P f then aX P f (first++args++cap) k w else
   match mO P f with
   | some s=>dw P (s (first++args++cap)) k w
   | none=>False
 | _=>False
def bu (P:Program) (recv:Value) (name:String) (args:Array Value) (k:aq) (w:World):Prop :=
 match recv with
 | .iface t v=>match wu P t name with
  | some f=>cg (iX P f=true) (aX P f (#[v]++args) k w)
  | none=>False
 | _=>False
def oC (P:Program) (t:Option TypeId) (x:Option Value) (k:Value→Prop):Prop :=
 match t.bind P.underlying,x with
 | some (.slice _),some (.slice _ n _)=>k (.int .i64 n)
 | some .string,some (.string s)=>k (.int .i64 s.size)
 | _,_=>False
def rX (P:Program) (t:Option TypeId) (x:Option Value) (k:Value→Prop):Prop :=
 match t.bind P.underlying,x with
 | some (.slice _),some (.slice _ _ n)=>k (.int .i64 n)
 | _,_=>False
def gI (o:Option Value) (d:Int) (k:Int→Prop):Prop :=
 match o with
 | none=>k d
 | some (.int _ i)=>k i
 | some _=>False
def dW (P:Program) (t:TypeId) (x:Value) (lo hi mx:Option Value) (k:Value→Prop):Prop :=
 match P.underlying t,x with
 | some (.slice el),.slice a len cap=>match wt P el with
   | some n=>gI mx cap fun m=>gI hi len fun h=>gI lo 0 fun l=>cg ((0≤l∧l≤h)∧(h≤m∧m≤cap)∧(mx.isSome=true→hi.isSome=true))
       (k (.slice (if m=l then a else a.map (·.add (l.toNat * n))) (h.toNat - l.toNat) (m.toNat - l.toNat)))
   | none=>False
 | some (.array len el),.pointer (some a)=>match wt P el with
   | some n=>gI mx len fun m=>gI hi len fun h=>gI lo 0 fun l=>cg ((0≤l∧l≤h)∧(h≤m∧m≤len)∧(mx.isSome=true→hi.isSome=true))
       (k (.slice (some (if m=l then a else a.add (l.toNat * n))) (h.toNat - l.toNat) (m.toNat - l.toNat)))
   | none=>False
 | _,_=>False
def dP (P:Program) (t:TypeId):Option (Array (Nat × Nat)) :=
 match P.underlying t with
 | some (.struct fs)=>fs.mapM fun f=>(wt P f.type).map fun s=>(f.offset,s)
 | _=>none
def cn (P:Program) (t:TypeId) (parts:Array (Nat × Value)) (k:Value→Prop):Prop :=
 match dP P t,(P.info? t).bind (·.zero) with
 | some pl,some z=>match Instr.fill (pl[·]?) z.cells parts.toList with
  | some cells=>k (.agg cells)
  | none=>False
 | _,_=>False
def gV:List Value→Option (List UInt8)
 | []=>some []
 | .int .u8 n :: vs=>(gV vs).map (UInt8.ofNat n.toNat :: ·)
 | _ :: _=>none
def fZ (w:World) (x:Value) (k:Value→Prop):Prop :=
 match x with
 | .slice none _ _=>k (.string .empty)
 | .slice (some a) len _=>jy w a 0 len fun vs=>match gV vs with
   | some l=>k (.string ⟨l.toArray⟩)
   | none=>False
 | _=>False
def fC (P:Program) (s d:TypeId) (x:Value) (k:aq) (w:World):Prop :=
 match P.underlying s,P.underlying d,x with
 | some (.int _),some (.int kd),.int _ n=>k (.int kd (kd.wrap n)) w
 | some (.slice e),some .string,x=>cg (P.underlying e=some (.int .u8)) (fZ w x fun v=>k v w)
 | some .string,some .string,.string s=>k (.string s) w
 | some .string,some (.slice _),.string _=>dw P (convert s d x) k w
 | _,_,_=>False
def gn (P:Program) (b:Builtin) (ats:Array TypeId) (ty:TypeId) (args:Array Value) (k:aq) (w:World):Prop :=
 match b with
 | .len=>oC P ats[0]? args[0]? fun v=>k v w
 | .cap=>rX P ats[0]? args[0]? fun v=>k v w
 | .append=>dw P (Builtin.append_ ats ty args) k w
 | .copy=>dw P (Builtin.copy_ ats ty args) k w
 | .max=>dw P (Builtin.max_ ats ty args) k w
 | .min=>dw P (Builtin.min_ ats ty args) k w
 | _=>False
def ie (x:Value) (i:Nat) (k:Value→Prop):Prop :=
 match x with
 | .tuple vs=>oA vs[i]? k
 | _=>False
def dG (P:Program) (t:TypeId) (x:Value) (k:Value→Prop):Prop :=
 match P.underlying t with
 | some (.interface _) | none=>False
 | some _=>k (.iface t x)
def im (P:Program) (o:Oper) (e:du) (k:aq) (w:World):Prop :=
 match o.op with
 | .move x | .assign x=>k (ev e x) w
 | .pick c a b=>rW (ev e c) fun t=>k (if t then ev e a else ev e b) w
 | .load t a=>gK P t (ev e a) k w
 | .store t a x=>jN P t (ev e a) (ev e x) k w
 | .nilCheck x=>qs (ev e x) fun v=>k v w
 | .fieldAddr s x f=>fb (A7 P s f) (ev e x) fun v=>k v w
 | .field s x f=>ph P s f (ev e x) fun v=>k v w
 | .indexAddr t x i=>eX P t (ev e x) (ev e i) fun v=>k v w
 | .index t x i=>kP P t (ev e x) (ev e i) fun v=>k v w
 | .binOp op t x y _=>cx P op t x y (ev e x) (ev e y) fun v=>k v w
 | .unOp op _ x=>F1 op (ev e x) fun v=>k v w
 | .extract x i=>ie (ev e x) i fun v=>k v w
 | .makeInterface t x=>dG P t (ev e x) fun v=>k v w
 | .makeFunc fn first cap=>k (.func fn (first.map (ev e)) (cap.map (ev e))) w
 | .alloc t=>dw P (Instr.alloc t true (.tuple #[])) k w
 | .box t x=>dw P (Instr.box t (ev e x)) k w
 | .build t parts=>cn P t (parts.map fun (i,x)=>(i,ev e x)) fun v=>k v w
 | .buildSlice t n parts=>dw P (Instr.buildSlice t n (parts.map fun (i,x)=>(i,ev e x))) k w
 | .convert s d x=>fC P s d (ev e x) k w
 | .makeSlice t l c=>dw P (Instr.makeSlice t (ev e l) (ev e c)) k w
 | .slice t x lo hi mx=>dW P t (ev e x) (lo.map (ev e)) (hi.map (ev e)) (mx.map (ev e)) fun v=>k v w
 | .call c=>match c.callee with
  | .value f=>lI P (ev e f) (c.args.map (ev e)) k w
  | .invoke r m=>bu P (ev e r) m (c.args.map (ev e)) k w
  | .builtin b=>gn P b c.argTypes o.type (c.args.map (ev e)) k w
 | _=>False
def yn (ops:Array Oper) (e:du) (g:Option (Nat × Bool)):Bool :=
 match g with
 | none=>true
 | some (j,b)=>match (ops[j]?).bind (·.dst) with
   | some d=>match e d with
    | .bool x=>x == b
    | _=>false
   | none=>false
def vD (P:Program) (ops:Array Oper):List Oper→du→(du→World→Prop)→World→Prop
 | [],e,k,w=>k e w
 | o :: rest,e,k,w=>if yn ops e o.guard then im P o e (fun v w'=>vD P ops rest (put e o.dst v) k w') w else vD P ops rest (put e o.dst undef) k w
section mono
variable {P:Program} {w:World}
theorem mP {o:Option Value} {k k':Value→Prop} (h:∀ v,k v→k' v):oA o k→oA o k':=by
 cases o with
 | none=>exact id
 | some v=>exact h v
theorem eD {c p p':Prop} (h:p→p'):cg c p→cg c p':=And.imp id h
theorem nQ {a:Addr}:∀ (n i:Nat) {k k':List Value→Prop},(∀ v,k v→k' v)→jy w a i n k→jy w a i n k'
 | 0,_,_,_,h=>h _
 | n+1,_,_,_,h=>mP fun _=>nQ n _ fun _=>h _
theorem qO {a:Addr}:∀ (vs:List Value) (w:World) (i:Nat) {k k':World→Prop},(∀ w,k w→k' w)→pf w a i vs k→pf w a i vs k'
 | [],_,_,_,_,h=>h _
 | _ :: vs,_,_,_,_,h=>And.imp id (qO vs _ _ h)
theorem yp {t:TypeId} {x:Value} {k k':aq} (h:∀ v w,k v w→k' v w):gK P t x k w→gK P t x k' w:=by
 unfold gK
 split
 ·split
  ·exact mP fun _=>h _ _
  ·split
   ·split
    ·exact nQ _ _ fun _=>h _ _
    ·exact id
   ·exact id
 ·exact id
theorem wv {t:TypeId} {x v:Value} {k k':aq} (h:∀ v w,k v w→k' v w):jN P t x v k w→jN P t x v k' w:=by
 unfold jN
 split
 ·exact eD (qO _ _ _ fun _=>h _ _)
 ·exact id
theorem A8 {x:Value} {k k':Value→Prop} (h:∀ v,k v→k' v):qs x k→qs x k':=by
 unfold qs
 split <;> first | exact h _ | exact id
theorem qt {o:Option Nat} {x:Value} {k k':Value→Prop} (h:∀ v,k v→k' v):fb o x k→fb o x k':=by
 unfold fb
 split <;> first | exact h _ | exact id
theorem yq {t:TypeId} {cs:Array Value} {off:Nat} {k k':Value→Prop} (h:∀ v,k v→k' v):ml P t cs off k→ml P t cs off k':=by
 unfold ml
 split
 ·split
  ·exact h _
  ·exact id
 ·split
  ·exact mP h
  ·exact id
theorem wx {s:TypeId} {f:Nat} {x:Value} {k k':Value→Prop} (h:∀ v,k v→k' v):ph P s f x k→ph P s f x k':=by
 unfold ph
 split
 ·split
  ·exact yq h
  ·exact id
 ·exact id
theorem qu {t:TypeId} {x i:Value} {k k':Value→Prop} (h:∀ v,k v→k' v):eX P t x i k→eX P t x i k':=by
 unfold eX
 split
 ·exact eD (h _)
 ·exact id
theorem wy {t:TypeId} {x i:Value} {k k':Value→Prop} (h:∀ v,k v→k' v):kP P t x i k→kP P t x i k':=by
 unfold kP
 split
 ·exact eD (h _)
 ·exact id
theorem yr {x:Value} {k k':Bool→Prop} (h:∀ v,k v→k' v):rW x k→rW x k':=by
 unfold rW
 split <;> first | exact h _ | exact id
theorem A9 {op:BinOp} {kd:IntKind} {a b:Int} {k k':Value→Prop} (h:∀ v,k v→k' v):kQ op kd a b k→kQ op kd a b k':=by
 unfold kQ
 split <;> first | exact h _ | exact eD (h _) | exact id
theorem wz {op:BinOp} {kd:IntKind} {a b:Int} {k k':Value→Prop} (h:∀ v,k v→k' v):kR op kd a b k→kR op kd a b k':=by
 unfold kR
 split <;> first | exact eD (h _) | exact id
theorem BA {op:BinOp} {a b:ByteArray} {k k':Value→Prop} (h:∀ v,k v→k' v):jz op a b k→jz op a b k':=by
 unfold jz
 split <;> first | exact h _ | exact id
theorem Cm {neg:Bool} {t:TypeId} {xo yo:Operand} {x y:Value} {k k':Value→Prop} (h:∀ v,k v→k' v):wk P neg t xo yo x y k→wk P neg t xo yo x y k':=by
 unfold wk
 split <;> first | exact eD (h _) | exact id | exact fun ⟨r,h1,h2⟩=>⟨r,h1,h _ h2⟩
theorem BB {op:BinOp} {t:TypeId} {xo yo:Operand} {x y:Value} {k k':Value→Prop} (h:∀ v,k v→k' v):cx P op t xo yo x y k→cx P op t xo yo x y k':=by
 unfold cx
 split
 ·split
  ·exact wz h
  ·split
   ·exact A9 h
   ·exact id
 ·exact BA h
 ·split <;> first | exact Cm h | exact id
theorem Cn {op:UnOp} {x:Value} {k k':Value→Prop} (h:∀ v,k v→k' v):F1 op x k→F1 op x k':=by
 unfold F1
 split <;> first | exact h _ | exact id
theorem rY {f:FuncId} {args:Array Value} {k k':aq} (h:∀ v w,k v w→k' v w):aX P f args k w→aX P f args k' w :=
 fun hc=>hc.mono fun _ _ ⟨v,hv,hk⟩=>⟨v,hv,h _ _ hk⟩
theorem vE {r:Value} {nm:String} {args:Array Value} {k k':aq} (h:∀ v w,k v w→k' v w):bu P r nm args k w→bu P r nm args k' w:=by
 unfold bu
 split
 ·split
  ·exact eD (rY h)
  ·exact id
 ·exact id
theorem mQ {s:Sem Value} {k k':aq} (h:∀ v w,k v w→k' v w):dw P s k w→dw P s k' w:=by
 unfold dw
 split <;> first | exact h _ _ | exact id
theorem yu {fv:Value} {args:Array Value} {k k':aq} (h:∀ v w,k v w→k' v w):lI P fv args k w→lI P fv args k' w:=by
 unfold lI
 split
 ·split
  ·exact rY h
  ·split
   ·exact mQ h
   ·exact id
 ·exact id
theorem BD {t:Option TypeId} {x:Option Value} {k k':Value→Prop} (h:∀ v,k v→k' v):oC P t x k→oC P t x k':=by
 unfold oC
 split <;> first | exact h _ | exact id
theorem BE {t:Option TypeId} {x:Option Value} {k k':Value→Prop} (h:∀ v,k v→k' v):rX P t x k→rX P t x k':=by
 unfold rX
 split <;> first | exact h _ | exact id
theorem gX {o:Option Value} {d:Int} {k k':Int→Prop} (h:∀ v,k v→k' v):gI o d k→gI o d k':=by
 unfold gI
 split <;> first | exact h _ | exact id
theorem xB {t:TypeId} {x:Value} {lo hi mx:Option Value} {k k':Value→Prop} (h:∀ v,k v→k' v):dW P t x lo hi mx k→dW P t x lo hi mx k':=by
 unfold dW
 split
 ·split
  ·exact gX fun _=>gX fun _=>gX fun _=>eD (h _)
  ·exact id
 ·split
  ·exact gX fun _=>gX fun _=>gX fun _=>eD (h _)
  ·exact id
 ·exact id
theorem xC {t:TypeId} {parts:Array (Nat × Value)} {k k':Value→Prop} (h:∀ v,k v→k' v):cn P t parts k→cn P t parts k':=by
 unfold cn
 split
 ·split <;> first | exact h _ | exact id
 ·exact id
theorem vF {x:Value} {k k':Value→Prop} (h:∀ v,k v→k' v):fZ w x k→fZ w x k':=by
 unfold fZ
 split
 ·exact h _
 ·exact nQ _ _ fun vs=>by split <;> first | exact h _ | exact id
 ·exact id
theorem yw {s d:TypeId} {x:Value} {k k':aq} (h:∀ v w,k v w→k' v w):fC P s d x k w→fC P s d x k' w:=by
 unfold fC
 split
 ·exact h _ _
 ·exact eD (vF fun _=>h _ _)
 ·exact h _ _
 ·exact mQ h
 ·exact id
theorem tF {b:Builtin} {ats:Array TypeId} {ty:TypeId} {args:Array Value} {k k':aq} (h:∀ v w,k v w→k' v w):gn P b ats ty args k w→gn P b ats ty args k' w:=by
 unfold gn
 split <;> first | exact mQ h | exact BD fun _=>h _ _ | exact BE fun _=>h _ _ | exact id
theorem tG {x:Value} {i:Nat} {k k':Value→Prop} (h:∀ v,k v→k' v):ie x i k→ie x i k':=by
 unfold ie
 split <;> first | exact mP h | exact id
theorem tH {t:TypeId} {x:Value} {k k':Value→Prop} (h:∀ v,k v→k' v):dG P t x k→dG P t x k':=by
 unfold dG
 split <;> first | exact h _ | exact id
theorem Cp {o:Oper} {e:du} {k k':aq} (h:∀ v w,k v w→k' v w):im P o e k w→im P o e k' w:=by
 unfold im
 split
 case h_23 =>
  split
  ·exact yu h
  ·exact vE h
  ·exact tF h
 all_goals first
  | exact h _ _
  | exact yr fun _=>h _ _
  | exact yp h
  | exact wv h
  | exact A8 fun _=>h _ _
  | exact qt fun _=>h _ _
  | exact wx fun _=>h _ _
  | exact qu fun _=>h _ _
  | exact wy fun _=>h _ _
  | exact BB fun _=>h _ _
  | exact Cn fun _=>h _ _
  | exact tG fun _=>h _ _
  | exact tH fun _=>h _ _
  | exact xB fun _=>h _ _
  | exact xC fun _=>h _ _
  | exact yw h
  | exact mQ h
  | exact id
end mono
def ed (P:Program) (k:aq):Result Next→Prop
 | .ok (.value v) w=>k v w
 | .ok .skip w=>k undef w
 | .ok (.enter f args) w=>aX P f args k w
 | _=>False
section sound
variable {P:Program} {w:World}
theorem oG {o:Option Value} {k:Value→Prop}:oA o k↔∃ v,o=some v∧k v:=by
 cases o <;> simp [oA]
theorem pj {a:Addr}:∀ (n i:Nat) (acc:Array Value) {k:List Value→Prop},jy w a i n k →
    ∃ vs,(loadCellsFrom a i n acc).run P w = .ok (acc++vs.toArray) w∧k vs
 | 0,i,acc,k,h=>⟨[],by simp [loadCellsFrom],h⟩
 | n+1,i,acc,k,h=>by
  obtain ⟨v,hv,h⟩:=oG.1 h
  obtain ⟨vs,hr,hk⟩:=pj n (i+1) (acc.push v) h
  refine ⟨v :: vs,?_,hk⟩
  simp only [loadCellsFrom,Sem.run_bind,run_load,hv,Result.andThen_ok,hr]
  simp
theorem rZ {a:Addr}:∀ (vs:List Value) (w:World) (i:Nat) {k:World→Prop},pf w a i vs k →
    ∃ w',(storeCells a vs i).run P w = .ok () w'∧k w'
 | [],w,i,k,h=>⟨w,by simp [storeCells],h⟩
 | v :: vs,w,i,k,h=>by
  obtain ⟨⟨h1,h2,h3⟩,h⟩:=h
  obtain ⟨x,hx⟩:=eZ.1 h1
  obtain ⟨w',hr,hk⟩:=rZ vs _ (i+1) h
  exact ⟨w',by simp [storeCells,run_store _ _ _ _ _ h3,hx,h2,hr],hk⟩
theorem lV {t:TypeId} (h:iy P t=true):∃ d,P.underlying t=some d∧(∀ fs,d ≠ .struct fs)∧(∀ n e,d ≠ .array n e):=by
 unfold iy at h
 split at h <;> simp_all
theorem mR (t:TypeId):(iy P t=true→(isAgg t).run P w = .ok false w)∧(ym P t=true→(isAgg t).run P w = .ok true w):=by
 constructor
 ·intro h
  obtain ⟨d,hd,h1,h2⟩:=lV h
  simp only [isAgg,Sem.run_bind,run_underlying hd,Result.andThen_ok]
  cases d <;> simp_all
 ·intro h
  unfold ym at h
  split at h <;> simp_all [isAgg,run_underlying]
theorem fh {t:TypeId} {n:Nat} (h:wt P t=some n):(sizeOf t).run P w = .ok n w:=by
 unfold wt at h
 cases hi:P.info? t with
 | none=>simp [hi] at h
 | some i=>simp [hi] at h; simp [sizeOf,typeInfo,hi,h]
theorem tx {t:TypeId} {x:Value} {k:aq} (h:gK P t x k w):∃ v,(Instr.loadAt t x).run P w = .ok v w∧k v w:=by
 unfold gK at h
 split at h
 ·rename_i a
  split at h
  ·rename_i hs
   obtain ⟨v,hv,hk⟩:=oG.1 h
   exact ⟨v,by simp [Instr.loadAt,Instr.sureAddr,loadVar,(mR t).1 hs,hv],hk⟩
  ·split at h
   ·rename_i hs
    split at h
    ·rename_i n hn
     obtain ⟨vs,hr,hk⟩:=pj (P:=P) n 0 #[] h
     exact ⟨_,by simp [Instr.loadAt,Instr.sureAddr,loadVar,(mR t).2 hs,fh hn,loadCells,hr],hk⟩
    ·exact h.elim
   ·exact h.elim
 ·exact h.elim
theorem yx {t:TypeId} {x v:Value} {k:aq} (h:jN P t x v k w):∃ w',(Instr.storeAt t x v).run P w = .ok () w'∧k undef w':=by
 unfold jN at h
 split at h
 ·obtain ⟨hsz,h⟩:=h
  obtain ⟨w',hr,hk⟩:=rZ (P:=P) _ _ _ h
  exact ⟨w',by simp [Instr.storeAt,Instr.sureAddr,storeVar,fh hsz,hr],hk⟩
 ·exact h.elim
theorem Cq {s:TypeId} {f o:Nat} (h:A7 P s f=some o) (a:Addr):(Instr.fieldAt s (.pointer (some a)) f).run P w = .ok (.pointer (some (a.add o))) w:=by
 unfold A7 at h
 split at h
 ·rename_i fs hs
  split at h
  ·rename_i fd hf
   split at h
   ·rename_i n hn
    simp only [aK] at h
    simp [Instr.fieldAt,run_underlying hs,hf,Instr.sureAddr,fieldPlace,fh hn,h]
   ·simp at h
  ·simp at h
 ·simp at h
theorem tz {t:TypeId} {cs:Array Value} {off:Nat} {k:Value→Prop} (h:ml P t cs off k):∃ v,(part t cs off).run P w = .ok v w∧k v:=by
 unfold ml at h
 split at h
 ·rename_i hs
  split at h
  ·rename_i n hn
   exact ⟨_,by simp [part,(mR t).2 hs,fh hn],h⟩
  ·exact h.elim
 ·split at h
  ·rename_i hs
   obtain ⟨v,hv,hk⟩:=oG.1 h
   exact ⟨v,by simp [part,(mR t).1 hs,hv],hk⟩
  ·exact h.elim
theorem AN {t:TypeId} {n:Nat} (h:lS P t=some n):∃ el,P.underlying t=some (.slice el)∧wt P el=some n:=by
 unfold lS at h
 split at h
 ·exact ⟨_,‹_›,h⟩
 ·simp at h
theorem jO {s:Sem Value} {k:aq} (h:dw P s k w):∃ v w',s.run P w = .ok v w'∧k v w':=by
 unfold dw at h
 split at h
 ·exact ⟨_,_,‹_›,h⟩
 ·exact h.elim
theorem oJ {f:FuncId} {args:Array Value} (h:iX P f=true):(callFunc f args).run P w = .ok (.enter f args) w:=by
 unfold iX at h
 split at h
 ·rename_i fn hf
  simp only [bN,bne_iff_ne,ne_eq] at h
  obtain ⟨h1,h2⟩:=h
  have hb:¬ fn.body.isNone=true:=by
   cases hb:fn.body <;> simp_all
  simp only [callFunc,Sem.run_bind,run_program,Result.andThen_ok,hf]
  rw [if_neg (by simpa using h2),if_neg hb]
  rfl
 ·simp at h
theorem eP {s:Sem Value} {v:Value} {w':World} (h:s.run P w = .ok v w'):(do pure (.value (← s)):Sem Next).run P w = .ok (.value v) w':=by
 simp only [Sem.run_bind,h,Result.andThen_ok,Sem.run_pure]
theorem yy {f:FuncId} {args:Array Value} {s:Array Value→Sem Value} {v:Value} {w':World} (h:mO P f=some s) (hr:(s args).run P w = .ok v w'):(callFunc f args).run P w = .ok (.value v) w':=by
 unfold mO at h
 split at h
 ·rename_i fn hf
  split at h
  ·simp at h
  ·rename_i hc
   simp only [Bool.or_eq_true,not_or,Bool.not_eq_true,Option.isSome_eq_false_iff] at hc
   split at h
   ·simp at h
   ·rename_i hn
    simp only [callFunc,Sem.run_bind,run_program,Result.andThen_ok,hf]
    rw [if_neg (by simp [hc.1]),if_pos hc.2]
    simp only [Sem.run_bind,run_mark,Result.andThen_ok,hn,h]
    rw [hr]; rfl
 ·simp at h
theorem BF {t:TypeId} {v:Value} {name:String} {f:FuncId} (h:wu P t name=some f) (n:Nat):(method (n+1) t v name).run P w = .ok (f,v) w:=by
 unfold wu at h
 split at h
 ·rename_i m hm
  split at h
  ·rename_i hp
   cases hi:P.info? t with
   | none=>simp [hi] at hm
   | some i =>
    simp [hi] at hm
    have hpl:m.path.toList=[]:=by simpa using hp
    split at h
    ·rename_i f' hf
     split at h
     ·rename_i el hu
      simp only [aK] at h
      subst h
      simp [method,typeInfo,hi,hm,hpl,follow,hf,receiverAt,run_underlying hu,Place.get]
     ·simp at h
    ·rename_i f' hf
     split at h
     ·simp at h
     ·simp at h
     ·rename_i hu1 hu2
      simp only [aK] at h
      subst h
      cases hu:P.underlying t with
      | none=>exact absurd hu hu2
      | some d =>
       simp only [method,typeInfo,hi,hm,hpl,follow,hf,receiverAt,run_underlying hu,Sem.run_bind,run_program,Result.andThen_ok,Sem.run_pure]
       cases d <;> first | (exact absurd hu (hu1 _)) | simp [Place.get]
    ·simp at h
  ·simp at h
 ·simp at h
end sound
section sound2
variable {P:Program} {w:World}
theorem rb (op:BinOp) (k:IntKind) (a b:Int) (r:BitVec k.bits)
    (h:op = .and∧r=BitVec.ofInt k.bits a &&& BitVec.ofInt k.bits b∨op = .or∧r=BitVec.ofInt k.bits a ||| BitVec.ofInt k.bits b∨op = .xor∧r=BitVec.ofInt k.bits a ^^^ BitVec.ofInt k.bits b) :
    (Op.intBits op k a b).run P w = .ok (.int k (k.wrap r.toNat)) w:=by
 rcases h with ⟨rfl,rfl⟩ | ⟨rfl,rfl⟩ | ⟨rfl,rfl⟩ <;> rfl
theorem Cr {op:BinOp} {t:TypeId} {xo yo:Operand} {kd:IntKind} {a b:Int} {k:Value→Prop} (h:kQ op kd a b k) :
    ∃ v,(do eqGuard op t xo yo (.int kd a) (.int kd b); binOp op t (.int kd a) (.int kd b):Sem Value).run P w = .ok v w∧k v:=by
 have e0:∀ op,eqGuard op t xo yo (.int kd a) (.int kd b)=pure ():=fun op=>eqGuard_at_int ..
 cases op <;> first | exact h.elim | skip
 ·exact ⟨_,by simp only [Sem.run_bind,e0,binOp_add]; rfl,h⟩
 ·exact ⟨_,by simp only [Sem.run_bind,e0,binOp_sub]; rfl,h⟩
 ·exact ⟨_,by simp only [Sem.run_bind,e0,binOp_mul]; rfl,h⟩
 ·exact ⟨_,by simp only [Sem.run_bind,e0,binOp_quo,Op.intDiv,if_neg h.1]; rfl,h.2⟩
 ·exact ⟨_,by simp only [Sem.run_bind,e0,binOp_rem,Op.intDiv,if_neg h.1]; rfl,h.2⟩
 ·exact ⟨_,by simp only [Sem.run_bind,e0,binOp_and]; exact rb _ _ _ _ _ (.inl ⟨rfl,rfl⟩),h⟩
 ·exact ⟨_,by simp only [Sem.run_bind,e0,binOp_or]; exact rb _ _ _ _ _ (.inr (.inl ⟨rfl,rfl⟩)),h⟩
 ·exact ⟨_,by simp only [Sem.run_bind,e0,binOp_xor]; exact rb _ _ _ _ _ (.inr (.inr ⟨rfl,rfl⟩)),h⟩
 ·exact ⟨_,by simp only [Sem.run_bind,e0,binOp_eql]; rfl,h⟩
 ·exact ⟨_,by simp only [Sem.run_bind,e0,binOp_neq]; rfl,h⟩
 ·exact ⟨_,by simp only [Sem.run_bind,e0,binOp_lss]; rfl,h⟩
 ·exact ⟨_,by simp only [Sem.run_bind,e0,binOp_leq]; rfl,h⟩
 ·exact ⟨_,by simp only [Sem.run_bind,e0,binOp_gtr]; rfl,h⟩
 ·exact ⟨_,by simp only [Sem.run_bind,e0,binOp_geq]; rfl,h⟩
theorem GP {neg:Bool} {t:TypeId} {x y:Value} {b:Bool} (h:∀ d,(Op.equalIn (d+1) t x y).run P w = .ok b w)
    (hx:∀ k n,x ≠ .int k n) (hs:∀ s,x ≠ .string s) (hf:∀ k n,x ≠ .float k n) (hc:∀ k n m,x ≠ .complex k n m) :
    (binOp (if neg then .neq else .eql) t x y).run P w = .ok (.bool (xor neg b)) w:=by
 have h':(Op.equal t x y).run P w = .ok b w:=h 9999
 cases neg
 ·cases x <;> first | exact absurd rfl (hx _ _) | exact absurd rfl (hs _) | exact absurd rfl (hf _ _) | exact absurd rfl (hc _ _ _) | simp [binOp,h']
 ·cases x <;> first | exact absurd rfl (hx _ _) | exact absurd rfl (hs _) | exact absurd rfl (hf _ _) | exact absurd rfl (hc _ _ _) | simp [binOp,h']
theorem AO {neg:Bool} {t:TypeId} {xo yo:Operand} {x y:Value} {k:Value→Prop} (h:wk P neg t xo yo x y k) :
    ∃ v,(do eqGuard (if neg then .neq else .eql) t xo yo x y; binOp (if neg then .neq else .eql) t x y:Sem Value).run P w = .ok v w∧k v:=by
 have fin:∀ {b:Bool},(∀ d,(Op.equalIn (d+1) t x y).run P w = .ok b w)→(∀ k n,x ≠ .int k n)→(∀ s,x ≠ .string s)→(∀ k n,x ≠ .float k n)→(∀ k n m,x ≠ .complex k n m) →
     eqGuard (if neg then .neq else .eql) t xo yo x y=pure () →
     (do eqGuard (if neg then .neq else .eql) t xo yo x y; binOp (if neg then .neq else .eql) t x y:Sem Value).run P w = .ok (.bool (xor neg b)) w:=by
  intro b h1 h2 h3 h4 h5 h6
  rw [h6]
  simp only [Sem.run_bind,Sem.run_pure,Result.andThen_ok]
  exact GP h1 h2 h3 h4 h5
 unfold wk at h
 split at h
 ·obtain ⟨⟨hc,hi⟩,h⟩:=h
  unfold lT at hi
  split at hi
  ·rename_i ms hu
   refine ⟨_,fin (b:=true) (fun d=>by simp [Op.equalIn,run_underlying hu]) (by simp) (by simp) (by simp) (by simp) ?_,h⟩
   cases xo <;> first
    | exact eqGuard_nil_constL ..
    | (cases yo <;> first
        | exact eqGuard_nil_constR ..
        | simp [lU] at hc)
  ·simp at hi
 ·obtain ⟨hi,h⟩:=h
  unfold lT at hi
  split at hi
  ·rename_i ms hu
   refine ⟨_,fin (b:=false) (fun d=>by simp [Op.equalIn,run_underlying hu]) (by simp) (by simp) (by simp) (by simp) (eqGuard_nil_iface ..),by simpa using h⟩
  ·simp at hi
 ·obtain ⟨hi,h⟩:=h
  unfold lT at hi
  split at hi
  ·rename_i ms hu
   refine ⟨_,fin (b:=false) (fun d=>by simp [Op.equalIn,run_underlying hu]) (by simp) (by simp) (by simp) (by simp) (eqGuard_at_iface ..),by simpa using h⟩
  ·simp at hi
 ·rename_i a b
  obtain ⟨hi,h⟩:=h
  refine ⟨_,fin (b:=a == b) ?_ (by simp) (by simp) (by simp) (by simp) (eqGuard_at_bool ..),h⟩
  intro d; simp [Op.equalIn,run_underlying hi]
 ·rename_i b
  obtain ⟨hi,h⟩:=h
  split at hi
  ·rename_i hu
   refine ⟨_,fin (b:=b.isNone) ?_ (by simp) (by simp) (by simp) (by simp) (eqGuard_at_pointer ..),h⟩
   intro d; simp [Op.equalIn,run_underlying hu]
  ·simp at hi
 ·rename_i a
  obtain ⟨hi,h⟩:=h
  split at hi
  ·rename_i hu
   refine ⟨_,fin (b:=false) ?_ (by simp) (by simp) (by simp) (by simp) (eqGuard_at_pointer ..),by simpa using h⟩
   intro d; simp [Op.equalIn,run_underlying hu]
  ·simp at hi
 ·rename_i l c b l' c'
  obtain ⟨hi,h⟩:=h
  split at hi
  ·rename_i hu
   refine ⟨_,fin (b:=b.isNone) ?_ (by simp) (by simp) (by simp) (by simp) (eqGuard_at_slice ..),h⟩
   intro d; simp [Op.equalIn,run_underlying hu]
  ·simp at hi
 ·obtain ⟨hi,h⟩:=h
  split at hi
  ·rename_i hu
   refine ⟨_,fin (b:=false) ?_ (by simp) (by simp) (by simp) (by simp) (eqGuard_at_slice ..),by simpa using h⟩
   intro d; simp [Op.equalIn,run_underlying hu]
  ·simp at hi
 ·obtain ⟨r,h1,h2⟩:=h
  exact ⟨_,h1 w,h2⟩
 ·exact h.elim
theorem Cs {op:BinOp} {t:TypeId} {xo yo:Operand} {a b:ByteArray} {k:Value→Prop} (h:jz op a b k) :
    ∃ v,(do eqGuard op t xo yo (.string a) (.string b); binOp op t (.string a) (.string b):Sem Value).run P w = .ok v w∧k v:=by
 have e0:∀ op,eqGuard op t xo yo (.string a) (.string b)=pure ():=fun op=>eqGuard_at_string ..
 cases op <;> first | exact h.elim | skip
 all_goals exact ⟨_,by simp only [Sem.run_bind,e0]; rfl,h⟩
theorem Ct {op:BinOp} {t:TypeId} {xo yo:Operand} {x y:Value} {k:Value→Prop} (h:cx P op t xo yo x y k) :
    ∃ v,(do eqGuard op t xo yo x y; binOp op t x y:Sem Value).run P w = .ok v w∧k v:=by
 unfold cx at h
 split at h
 ·rename_i kd a kd' b
  split at h
  ·unfold kR at h
   split at h
   ·obtain ⟨hb,h⟩:=h
    exact ⟨_,by simp only [Sem.run_bind,eqGuard_shl,binOp_shl,Op.shift,if_neg (Int.not_lt.2 hb)]; rfl,h⟩
   ·obtain ⟨hb,h⟩:=h
    exact ⟨_,by simp only [Sem.run_bind,eqGuard_shr,binOp_shr,Op.shift,if_neg (Int.not_lt.2 hb)]; rfl,h⟩
   ·exact h.elim
  ·split at h
   ·subst_vars
    exact Cr h
   ·exact h.elim
 ·exact Cs h
 ·split at h
  ·exact AO (neg:=false) h
  ·exact AO (neg:=true) h
  ·exact h.elim
theorem xD {x:Operand} {e:du} {o:Oper} (ho:o.op = .nilCheck x) {k:Value→Prop} (h:qs (ev e x) k):∃ v,(execOp (ev e) o).run P w = .ok (.value v) w∧k v:=by
 unfold qs at h
 split at h <;> first
  | exact h.elim
  | (rename_i hx; exact ⟨_,by simp only [execOp,ho,hx]; rfl,h⟩)
theorem Cv {ats:Array TypeId} {ty:TypeId} {args:Array Value} {k:Value→Prop} (h:oC P ats[0]? args[0]? k):∃ v,(Builtin.len_ ats ty args).run P w = .ok v w∧k v:=by
 unfold oC at h
 split at h
 ·rename_i el n c hu hx
  obtain ⟨t,ht,hu⟩:=Option.bind_eq_some_iff.1 hu
  refine ⟨_,?_,h⟩
  simp [Builtin.len_,ht,hx,run_underlying hu,goInt]
 ·rename_i s hu hx
  obtain ⟨t,ht,hu⟩:=Option.bind_eq_some_iff.1 hu
  refine ⟨_,?_,h⟩
  simp [Builtin.len_,ht,hx,run_underlying hu,goInt]
 ·exact h.elim
theorem Cw {ats:Array TypeId} {ty:TypeId} {args:Array Value} {k:Value→Prop} (h:rX P ats[0]? args[0]? k):∃ v,(Builtin.cap_ ats ty args).run P w = .ok v w∧k v:=by
 unfold rX at h
 split at h
 ·rename_i el n c hu hx
  obtain ⟨t,ht,hu⟩:=Option.bind_eq_some_iff.1 hu
  refine ⟨_,?_,h⟩
  simp [Builtin.cap_,ht,hx,run_underlying hu,goInt]
 ·exact h.elim
theorem iK {o:Option Value} {d:Int} {k:Int→Prop} (h:gI o d k):∃ i,k i∧(o=none∧i=d∨∃ kd,o=some (.int kd i)):=by
 unfold gI at h
 split at h
 ·exact ⟨_,h,.inl ⟨rfl,rfl⟩⟩
 ·exact ⟨_,h,.inr ⟨_,rfl⟩⟩
 ·exact h.elim
theorem eh {kd:IntKind} {i:Int} {y:Nat} {code:BoundsCode} (h:0≤i∧i≤y):(Instr.sliceBound (.int kd i) y code).run P w = .ok i.toNat w:=by
 simp [Instr.sliceBound,asIntOf,h]
theorem lJ {b:Bool} {len cap:Nat} {lo hi mx:Option Value} {l h m:Int} (hl:lo=none∧l=0∨∃ kd,lo=some (.int kd l)) (hh:hi=none∧h=len∨∃ kd,hi=some (.int kd h))
    (hm:mx=none∧m=cap∨∃ kd,mx=some (.int kd m)) (h1:0≤l∧l≤h) (h2:h≤m∧m≤cap) (h3:mx.isSome=true→hi.isSome=true) :
    (Instr.sliceBounds b len cap lo hi mx).run P w = .ok (l.toNat,h.toNat,m.toNat) w:=by
 have e1:∀ y:Int,0≤y→((y.toNat:Nat):Int)=y:=fun y hy=>Int.toNat_of_nonneg hy
 rcases hm with ⟨rfl,rfl⟩ | ⟨km,rfl⟩
 ·rcases hh with ⟨rfl,rfl⟩ | ⟨kh,rfl⟩
  ·rcases hl with ⟨rfl,rfl⟩ | ⟨kl,rfl⟩
   ·simp [Instr.sliceBounds]
   ·simp only [Instr.sliceBounds,Sem.run_bind,Sem.run_pure,Result.andThen_ok,eh (P:=P) (w:=w) (kd:=kl) (y:=len) h1]
    simp
  ·have hb:0≤h∧h≤(cap:Int):=⟨by omega,h2.1⟩
   simp only [Instr.sliceBounds,Sem.run_bind,Sem.run_pure,Result.andThen_ok,eh (P:=P) (w:=w) (kd:=kh) (y:=cap) hb]
   rcases hl with ⟨rfl,rfl⟩ | ⟨kl,rfl⟩
   ·simp
   ·have hc:0≤l∧l≤((h.toNat:Nat):Int):=⟨h1.1,by rw [e1 _ hb.1]; exact h1.2⟩
    simp [eh hc]
 ·rcases hh with ⟨rfl,rfl⟩ | ⟨kh,rfl⟩
  ·simp at h3
  ·have ha:0≤m∧m≤(cap:Int):=⟨by omega,h2.2⟩
   have hb:0≤h∧h≤((m.toNat:Nat):Int):=⟨by omega,by rw [e1 _ ha.1]; exact h2.1⟩
   simp only [Instr.sliceBounds,Sem.run_bind,Result.andThen_ok,eh (P:=P) (w:=w) (kd:=km) (y:=cap) ha,eh (P:=P) (w:=w) (kd:=kh) hb]
   rcases hl with ⟨rfl,rfl⟩ | ⟨kl,rfl⟩
   ·simp
   ·have hc:0≤l∧l≤((h.toNat:Nat):Int):=⟨h1.1,by rw [e1 _ hb.1]; exact h1.2⟩
    simp [eh hc]
theorem yz {t:TypeId} {x:Value} {lo hi mx:Option Value} {k:Value→Prop} (h:dW P t x lo hi mx k):∃ v,(Instr.sliceAt t x lo hi mx).run P w = .ok v w∧k v:=by
 unfold dW at h
 split at h
 ·rename_i el a len cap hu
  split at h
  ·rename_i n hn
   obtain ⟨m,h,hm⟩:=iK h
   obtain ⟨hh,h,hhi⟩:=iK h
   obtain ⟨l,h,hl⟩:=iK h
   obtain ⟨⟨h1,h2,h3⟩,h⟩:=h
   refine ⟨_,?_,h⟩
   have e:(m=l)↔(m.toNat=l.toNat):=by omega
   simp only [Instr.sliceAt,Sem.run_bind,run_underlying hu,Result.andThen_ok,Instr.slice,lJ hl hhi hm h1 h2 h3,fh hn,Sem.run_pure,e]
  ·exact h.elim
 ·rename_i len el a hu
  split at h
  ·rename_i n hn
   obtain ⟨m,h,hm⟩:=iK h
   obtain ⟨hh,h,hhi⟩:=iK h
   obtain ⟨l,h,hl⟩:=iK h
   obtain ⟨⟨h1,h2,h3⟩,h⟩:=h
   refine ⟨_,?_,h⟩
   have e:(m=l)↔(m.toNat=l.toNat):=by omega
   simp only [Instr.sliceAt,Instr.sureAddr,Sem.run_bind,run_underlying hu,Result.andThen_ok,Sem.run_pure,lJ hl hhi hm h1 h2 h3,fh hn,e]
  ·exact h.elim
 ·exact h.elim
theorem Cx {fs:List Field} {l:List (Nat × Nat)} (h:(fs.mapM fun f=>(wt P f.type).map fun s=>(f.offset,s))=some l) :
    (fs.mapM fun f=>(do pure (f.offset,← sizeOf f.type):Sem (Nat × Nat))).run P w = .ok l w:=by
 induction fs generalizing l with
 | nil=>simp only [List.mapM_nil,Option.pure_def,aK] at h; subst h; simp
 | cons f fs ih =>
  simp only [List.mapM_cons,Option.bind_eq_bind,Option.pure_def,Option.bind_eq_some_iff] at h
  obtain ⟨x,hx,l',hl',h⟩:=h
  obtain ⟨n,hn,rfl⟩:=Option.map_eq_some_iff.1 hx
  simp only [aK] at h
  subst h
  simp only [List.mapM_cons,Sem.run_bind,fh hn,Result.andThen_ok,Sem.run_pure,ih hl']
theorem y4 {t:TypeId} {parts:Array (Nat × Value)} {k:Value→Prop} (h:cn P t parts k):∃ v,(Instr.build t parts).run P w = .ok v w∧k v:=by
 unfold cn at h
 split at h
 ·rename_i pl z hp hz
  split at h
  ·rename_i cells hf
   refine ⟨_,?_,h⟩
   obtain ⟨i,hi,hz⟩:=Option.bind_eq_some_iff.1 hz
   unfold dP at hp
   split at hp
   ·rename_i fs hu
    have hm:(fs.mapM fun f=>(do pure (f.offset,← sizeOf f.type):Sem (Nat × Nat))).run P w = .ok pl w:=by
     rw [Array.mapM_eq_mapM_toList] at hp ⊢
     simp only [Option.map_eq_map,Option.map_eq_some_iff] at hp
     obtain ⟨l,hl,rfl⟩:=hp
     simp only [Sem.run_map,Cx hl,Result.andThen_ok]
    simp only [Instr.build,Sem.run_bind,zeroValue,typeInfo,run_program,hi,hz,Result.andThen_ok,Sem.run_pure,run_underlying hu,hm,hf]
   ·simp at hp
  ·exact h.elim
 ·exact h.elim
theorem qP:∀ (vs:List Value) (l:List UInt8) (acc:ByteArray),gV vs=some l →
    (forIn vs acc fun c s=>(do
     match c with
     | .int .u8 n=>pure (ForInStep.yield (s.push (UInt8.ofNat n.toNat)))
     | _=>do
      stuck "bytesToString: byte expected"
      pure (ForInStep.yield s):Sem (ForInStep ByteArray))).run P w = .ok ⟨acc.data++l.toArray⟩ w
 | [],l,acc,h=>by simp only [gV,aK] at h; subst h; simp
 | v :: vs,l,acc,h=>by
  obtain ⟨n,rfl⟩:∃ n,v = .int .u8 n:=by
   unfold gV at h
   split at h
   ·simp_all
   ·rename_i heq; exact ⟨_,(List.cons.inj heq).1⟩
   ·simp at h
  simp only [gV] at h
  obtain ⟨l',hl',rfl⟩:=Option.map_eq_some_iff.1 h
  simp only [List.forIn_cons,Sem.run_bind,Sem.run_pure,Result.andThen_ok,qP vs l' _ hl']
  congr 2
  simp [ByteArray.push]
theorem xE {x:Value} {k:Value→Prop} (h:fZ w x k):∃ v,(Conv.bytesToString x).run P w = .ok v w∧k v:=by
 unfold fZ at h
 split at h
 ·exact ⟨_,rfl,h⟩
 ·rename_i a len cap
  obtain ⟨vs,hr,hk⟩:=pj (P:=P) len 0 #[] h
  split at hk
  ·rename_i l hl
   refine ⟨_,?_,hk⟩
   have h2:=qP (P:=P) (w:=w) vs l ByteArray.empty hl
   simp only [Conv.bytesToString,Sem.run_bind,loadCells,hr,Result.andThen_ok]
   simp only [Array.empty_append,List.forIn_toArray]
   have e:(⟨ByteArray.empty.data++l.toArray⟩:ByteArray)=⟨l.toArray⟩:=by
    show (⟨#[]++l.toArray⟩:ByteArray)=_
    rw [Array.empty_append]
   rw [e] at h2
   exact (congrArg (fun r:Result ByteArray=>r.andThen fun a w'=>Sem.run P (pure (Value.string a)) w') h2).trans rfl
  ·exact hk.elim
 ·exact h.elim
theorem xF {s d e:TypeId} {x:Value} {k:Value→Prop} (hs:P.underlying s=some (.slice e)) (hd:P.underlying d=some .string) (he:P.underlying e=some (.int .u8))
    (h:fZ w x k):∃ v,(convert s d x).run P w = .ok v w∧k v:=by
 obtain ⟨v,hr,hk⟩:=xE (P:=P) h
 refine ⟨v,?_,hk⟩
 have hx:(∃ a l c,x = .slice a l c):=by
  unfold fZ at h; split at h <;> first | exact ⟨_,_,_,rfl⟩ | exact h.elim
 obtain ⟨a,l,c,rfl⟩:=hx
 simp [convert,run_underlying hs,run_underlying hd,run_underlying he,hr]
theorem BG {s d:TypeId} {x:Value} {k:aq} (h:fC P s d x k w):∃ v w',(convert s d x).run P w = .ok v w'∧k v w':=by
 unfold fC at h
 split at h
 ·rename_i k1 kd k2 n hs hd
  refine ⟨_,w,?_,h⟩
  simp [convert,run_underlying hs,run_underlying hd,Conv.intToInt]
 ·rename_i e hs hd
  obtain ⟨v,hr,hk⟩:=xF (P:=P) hs hd h.1 h.2
  exact ⟨v,w,hr,hk⟩
 ·rename_i str hs hd
  exact ⟨_,w,by simp [convert,run_underlying hs,run_underlying hd],h⟩
 ·obtain ⟨v,w',hr,hk⟩:=jO h
  exact ⟨v,w',hr,hk⟩
 ·exact h.elim
theorem vG {o:Oper} {e:du} {k:aq} (h:im P o e k w):ed P k ((execOp (ev e) o).run P w):=by
 obtain ⟨dst,op,type,pos,after,guard⟩:=o
 cases op <;> simp only [im] at h <;> first | exact h.elim | skip
 case move x=>exact h
 case assign x=>exact h
 case pick c a b =>
  unfold rW at h
  split at h
  ·rename_i t hc
   simp only [execOp,hc,asBool,Sem.run_bind,Sem.run_pure,Result.andThen_ok,ed]
   exact h
  ·exact h.elim
 case alloc t =>
  obtain ⟨v,w',hr,hk⟩:=jO h
  simp only [execOp,eP hr,ed]; exact hk
 case box t x =>
  obtain ⟨v,w',hr,hk⟩:=jO h
  simp only [execOp,eP hr,ed]; exact hk
 case build t x =>
  obtain ⟨v,hr,hk⟩:=y4 (w:=w) h
  simp only [execOp,eP hr,ed]; exact hk
 case buildSlice t n x =>
  obtain ⟨v,w',hr,hk⟩:=jO h
  simp only [execOp,eP hr,ed]; exact hk
 case load t a =>
  obtain ⟨v,hr,hk⟩:=tx h
  simp only [execOp,eP hr,ed]; exact hk
 case store t a x =>
  obtain ⟨w',hr,hk⟩:=yx h
  simp only [execOp,Sem.run_bind,hr,Result.andThen_ok,Sem.run_pure,ed]; exact hk
 case nilCheck x =>
  obtain ⟨v,hr,hk⟩:=xD (P:=P) (w:=w) (o:={ dst,op := .nilCheck x,type,pos,after,guard }) rfl h
  rw [hr]; exact hk
 case binOp op t x y yt =>
  obtain ⟨v,hr,hk⟩:=Ct (w:=w) h
  simp only [execOp,eP hr,ed]; exact hk
 case unOp op t x =>
  unfold F1 at h
  split at h
  ·rename_i b hb
   simp only [execOp,hb,eP (s:=Op.unary .not (.bool b)) (v := .bool !b) rfl,ed]; exact h
  ·rename_i kd n hb
   simp only [execOp,hb,eP (s:=Op.unary .neg (.int kd n)) (v := .int kd (kd.wrap (0 - n))) rfl,ed]; exact h
  ·exact h.elim
 case convert s d x =>
  obtain ⟨v,w',hr,hk⟩:=BG h
  simp only [execOp,eP hr,ed]; exact hk
 case makeInterface t x =>
  unfold dG at h
  have hr:(Instr.makeInterface t (ev e x)).run P w = .ok (.iface t (ev e x)) w∧k (.iface t (ev e x)) w:=by
   cases hu:P.underlying t with
   | none=>simp [hu] at h
   | some d =>
    simp only [Instr.makeInterface,Sem.run_bind,run_underlying hu,Result.andThen_ok]
    cases d <;> simp_all
  simp only [execOp,eP hr.1,ed]; exact hr.2
 case makeFunc fn a b=>simp only [execOp]; exact h
 case makeSlice t l c =>
  obtain ⟨v,w',hr,hk⟩:=jO h
  simp only [execOp,eP hr,ed]; exact hk
 case slice t x lo hi mx =>
  obtain ⟨v,hr,hk⟩:=yz (w:=w) h
  simp only [execOp,eP hr,ed]; exact hk
 case fieldAddr s x f =>
  unfold fb at h
  split at h
  ·rename_i off a ho hx
   simp only [execOp,hx,eP (Cq ho a),ed]; exact h
  ·exact h.elim
 case field s x f =>
  unfold ph at h
  split at h
  ·rename_i fs cs hu hx
   split at h
   ·rename_i fd hf
    obtain ⟨v,hr,hk⟩:=tz (P:=P) (w:=w) h
    have:(Instr.field s (.agg cs) f).run P w = .ok v w:=by simp [Instr.field,run_underlying hu,hf,asAgg,hr]
    simp only [execOp,hx,eP this,ed]; exact hk
   ·exact h.elim
  ·exact h.elim
 case indexAddr t x i =>
  unfold eX at h
  split at h
  ·rename_i n a len cap kd j hs hx hi
   obtain ⟨hb,hk⟩:=h
   obtain ⟨el,hu,hz⟩:=AN hs
   have:(Instr.indexAt t (.slice (some a) len cap) (.int kd j)).run P w = .ok (.pointer (some (a.add (j.toNat * n)))) w:=by
    simp only [Instr.indexAt,asIntOf,Sem.run_bind,Sem.run_pure,Result.andThen_ok,run_underlying hu]
    simp [hb,fh hz]
   simp only [execOp,hx,hi,eP this,ed]; exact hk
  ·exact h.elim
 case index t x i =>
  unfold kP at h
  split at h
  ·rename_i s kd j hu hx hi
   obtain ⟨⟨h0,h1⟩,hk⟩:=h
   have hlt:j.toNat < s.size:=by omega
   have:(Instr.index t (.string s) (.int kd j)).run P w = .ok (.int .u8 (s[j.toNat]?.getD 0).toNat) w:=by
    simp only [Instr.index,asIntOf,Sem.run_bind,Sem.run_pure,Result.andThen_ok,run_underlying hu]
    rw [if_pos h0]
    cases hg:s[j.toNat]? with
    | none=>simp [hlt] at hg
    | some b=>simp
   simp only [execOp,hx,hi,eP this,ed]; exact hk
  ·exact h.elim
 case extract x i =>
  unfold ie at h
  split at h
  ·rename_i vs hx
   obtain ⟨v,hv,hk⟩:=oG.1 h
   have:(Instr.extract (.tuple vs) i).run P w = .ok v w:=by simp [Instr.extract,hv]
   simp only [execOp,hx,eP this,ed]; exact hk
  ·exact h.elim
 case call c =>
  obtain ⟨callee,args,ats⟩:=c
  cases callee with
  | value f =>
   simp only at h
   unfold lI at h
   split at h
   ·rename_i g first cap hf
    split at h
    ·rename_i he
     simp only [execOp,resolve,hf,Deferred.ofValue,Sem.run_bind,Sem.run_pure,Result.andThen_ok,invoke,oJ he,ed]; exact h
    ·split at h
     ·rename_i s hs
      obtain ⟨v,w',hr,hk⟩:=jO h
      simp only [execOp,resolve,hf,Deferred.ofValue,Sem.run_bind,Sem.run_pure,Result.andThen_ok,invoke,yy hs hr,ed]; exact hk
     ·exact h.elim
   ·exact h.elim
  | invoke r m =>
   simp only at h
   unfold bu at h
   split at h
   ·rename_i t v hr
    split at h
    ·rename_i f hm
     obtain ⟨he,hk⟩:=h
     simp only [execOp,resolve,hr,Sem.run_bind,Sem.run_pure,Result.andThen_ok,invoke,ed]
     have h0:(#[Value.iface t v]++args.map (ev e))[0]? = some (.iface t v):=by
      rw [Array.getElem?_append_left (by simp)]; rfl
     have h1:(#[Value.iface t v]++args.map (ev e)).extract 1 (#[Value.iface t v]++args.map (ev e)).size=args.map (ev e):=by
      apply Array.ext' ; simp [eC]
     obtain ⟨n,hn⟩:∃ n,P.types.size+Made.depth=n+1:=⟨P.types.size+Made.depth - 1,by unfold Made.depth; omega⟩
     simp only [h0,h1,callMethod,Sem.run_bind,run_program,Result.andThen_ok,hn,BF hm,oJ he]
     exact hk
    ·exact h.elim
   ·exact h.elim
  | builtin b =>
   simp only at h
   unfold gn at h
   split at h
   ·obtain ⟨v,hr,hk⟩:=Cv (w:=w) (ty:=type) h
    simp only [execOp,resolve,Sem.run_bind,Sem.run_pure,Result.andThen_ok,invoke,builtin,hr,ed]; exact hk
   ·obtain ⟨v,hr,hk⟩:=Cw (w:=w) (ty:=type) h
    simp only [execOp,resolve,Sem.run_bind,Sem.run_pure,Result.andThen_ok,invoke,builtin,hr,ed]; exact hk
   all_goals first
    | exact h.elim
    | (obtain ⟨v,w',hr,hk⟩:=jO h
       simp only [execOp,resolve,Sem.run_bind,Sem.run_pure,Result.andThen_ok,invoke,builtin,hr,ed]; exact hk)
end sound2
def fF (a:Act):du:=fun i=>a.tmps.getD i undef
def jc (N:Nat) (o:Oper):Bool:=match o.dst with
 | some d=>Nat.blt d N
 | none=>true
def dy (N:Nat):Code→Bool
 | .region _ ops _=>ops.toList.all (jc N)
 | .seq a b=>dy N a && dy N b
 | .cond _ a b=>dy N a && dy N b
 | .block _ a=>dy N a
 | .loop a=>dy N a
 | _=>true
def re (N:Nat) (Q:Exit→du→World→Prop):Exit→Act→World→Prop
 | .panic _,_,_=>False
 | ex,a,w=>a.tmps.size=N∧a.defers=[]∧Q ex (fF a) w
theorem lW (a:Act):ev (fF a)=a.eval:=by
 funext x
 cases x <;> rfl
theorem iL {N:Nat} {a:Act} (o:Oper) (v:Value) (h:jc N o=true) (hs:a.tmps.size=N):fF (a.put o.dst v)=put (fF a) o.dst v:=by
 funext i
 unfold jc at h
 cases hd:o.dst with
 | none=>rfl
 | some d =>
  simp only [hd,Nat.blt_eq] at h
  simp only [fF,Act.put,put]
  by_cases hi:i=d
  ·subst hi; simp [hs,h]
  ·simp only [if_neg hi,Array.getD_eq_getD_getElem?]
   rw [Array.getElem?_setIfInBounds_ne (Ne.symm hi)]
theorem jP {a:Act} (d:Option Tmp) (v:Value):(a.put d v).tmps.size=a.tmps.size:=by cases d <;> simp [Act.put]
theorem gP {a:Act} (d:Option Tmp) (v:Value):(a.put d v).defers=a.defers:=by cases d <;> rfl
theorem gY {N:Nat} {ops:Array Oper} {a:Act} {o:Oper} (hs:a.tmps.size=N) (hops:ops.toList.all (jc N)=true) :
    yn ops (fF a) o.guard=Region.wanted o (yielded ops a.tmps):=by
 unfold yn Region.wanted yielded
 cases o.guard with
 | none=>rfl
 | some g =>
  obtain ⟨j,b⟩:=g
  simp only
  cases hj:ops[j]? with
  | none=>simp
  | some oj =>
   simp only [Option.bind_some]
   cases hd:oj.dst with
   | none=>simp
   | some d =>
    have hmem:oj ∈ ops.toList:=by
     rw [← Array.getElem?_toList] at hj
     exact aJ hj
    have hlt:d < N:=by
     have:=List.all_eq_true.1 hops oj hmem
     simpa [jc,hd] using this
    have hg:a.tmps[d]? = some (fF a d):=by
     simp only [fF,Array.getD_eq_getD_getElem?]
     rw [Array.getElem?_eq_getElem (Nat.lt_of_lt_of_eq hlt hs.symm)]; rfl
    simp only [Option.bind_some,hg]
    cases fF a d <;> simp
section reg
variable {P:Program} {N:Nat}
theorem jQ {ops:Array Oper} (hops:ops.toList.all (jc N)=true) {Q:Exit→du→World→Prop}:∀ (l:List Oper),l.all (jc N)=true →
    ∀ (a:Act) (w:World),a.tmps.size=N→a.defers=[]→vD P ops l (fF a) (fun e w=>Q .normal e w) w→wpList P ops (re N Q) l a w
 | [],_,a,w,hs,hd,h=>⟨hs,hd,h⟩
 | o :: rest,hl,a,w,hs,hd,h=>by
  simp only [List.all_cons,bN] at hl
  unfold vD at h
  unfold wpList
  rw [gY hs hops] at h
  split
  ·rename_i hw
   rw [if_pos hw] at h
   refine .inl ?_
   have h1:=vG h
   rw [lW] at h1
   unfold Oper.wp Oper.upon
   unfold ed at h1
   split at h1
   ·rename_i v w' hr
    rw [hr]
    exact jQ hops rest hl.2 _ _ (by rw [jP,hs]) (by rw [gP,hd]) (by rw [iL o v hl.1 hs]; exact h1)
   ·rename_i w' hr
    rw [hr]
    exact jQ hops rest hl.2 _ _ (by rw [jP,hs]) (by rw [gP,hd]) (by rw [iL o undef hl.1 hs]; exact h1)
   ·rename_i f args w' hr
    rw [hr]
    refine Calls.mono h1 ?_
    rintro en w'' ⟨v,rfl,hk⟩
    exact jQ hops rest hl.2 _ _ (by rw [jP,hs]) (by rw [gP,hd]) (by rw [iL o v hl.1 hs]; exact hk)
   ·exact h1.elim
  ·rename_i hw
   rw [if_neg hw] at h
   exact jQ hops rest hl.2 _ _ (by rw [jP,hs]) (by rw [gP,hd]) (by rw [iL o undef hl.1 hs]; exact h)
end reg
def uA (K:du→World→Prop) (Q:Exit→du→World→Prop):Exit→du→World→Prop
 | .normal,e,w=>K e w
 | x,e,w=>Q x e w
def nR (id:Nat) (Q:Exit→du→World→Prop):Exit→du→World→Prop
 | .exit j,e,w=>if j=id then Q .normal e w else Q (.exit j) e w
 | x,e,w=>Q x e w
def H7 (N:Nat) (P:Program) (c:Code) (Q:Exit→du→World→Prop) (e:du) (w:World):Prop :=
 ∀ a:Act,a.tmps.size=N→a.defers=[]→fF a=e→c.wp P (re N Q) a w
def AP (x:Value) (p q:Prop):Prop :=
 match x with
 | .bool true=>p
 | .bool false=>q
 | _=>False
def WP (N:Nat) (P:Program):Code→(Exit→du→World→Prop)→du→World→Prop
 | .skip,Q,e,w=>Q .normal e w
 | .region _ ops false,Q,e,w=>vD P ops ops.toList e (fun e w=>Q .normal e w) w
 | .region id ops true,Q,e,w=>H7 N P (.region id ops true) Q e w
 | .seq a b,Q,e,w=>WP N P a (uA (fun e w=>WP N P b Q e w) Q) e w
 | .cond c a b,Q,e,w=>AP (ev e c) (WP N P a Q e w) (WP N P b Q e w)
 | .block id a,Q,e,w=>WP N P a (nR id Q) e w
 | .loop a,Q,e,w=>H7 N P (.loop a) Q e w
 | .exit id,Q,e,w=>Q (.exit id) e w
 | .ret,Q,e,w=>Q .ret e w
 | _,_,_,_=>False
theorem uB {N:Nat} {K:du→World→Prop} {Q:Exit→du→World→Prop} {ex:Exit} {a:Act} {w:World} (h:re N (uA K Q) ex a w) :
    Exit.then (fun a w=>a.tmps.size=N∧a.defers=[]∧K (fF a) w) (re N Q) ex a w:=by
 cases ex <;> exact h
theorem y6 {N:Nat} {id:Nat} {Q:Exit→du→World→Prop} {ex:Exit} {a:Act} {w:World} (h:re N (nR id Q) ex a w) :
    Exit.inBlock id (re N Q) ex a w:=by
 cases ex with
 | exit j =>
  obtain ⟨h1,h2,h3⟩:=h
  simp only [Exit.inBlock]
  simp only [nR] at h3
  split
  ·rename_i hj; rw [if_pos hj] at h3; exact ⟨h1,h2,h3⟩
  ·rename_i hj; rw [if_neg hj] at h3; exact ⟨h1,h2,h3⟩
 | _=>exact h
theorem nV {N:Nat} {P:Program}:∀ (c:Code),dy N c=true→∀ (Q:Exit→du→World→Prop) (e:du) (w:World),WP N P c Q e w→H7 N P c Q e w
 | .skip,_,Q,e,w,h=>fun a hs hd he=>wp_skip ⟨hs,hd,he ▸ h⟩
 | .region id ops false,hok,Q,e,w,h=>fun a hs hd he=>by
  subst he
  exact wp_region_list (jQ hok _ hok a w hs hd h)
 | .region id ops true,_,Q,e,w,h=>h
 | .seq x y,hok,Q,e,w,h=>fun a hs hd he=>by
  simp only [dy,bN] at hok
  refine wp_seq (wp_mono (nV x hok.1 _ e w h a hs hd he) fun ex a w hq => ?_)
  have:=uB hq
  cases ex <;> first
   | exact this
   | (obtain ⟨h1,h2,h3⟩:=this; exact nV y hok.2 Q _ _ h3 _ h1 h2 rfl)
 | .cond c x y,hok,Q,e,w,h=>fun a hs hd he=>by
  simp only [dy,bN] at hok
  simp only [WP] at h
  subst he
  rw [lW] at h
  unfold AP at h
  split at h
  ·rename_i hc; exact wp_cond_true hc (nV x hok.1 Q _ _ h _ hs hd rfl)
  ·rename_i hc; exact wp_cond_false hc (nV y hok.2 Q _ _ h _ hs hd rfl)
  ·exact h.elim
 | .block id x,hok,Q,e,w,h=>fun a hs hd he =>
  wp_block (wp_mono (nV x hok _ e w h a hs hd he) fun _ _ _ hq=>y6 hq)
 | .loop x,_,Q,e,w,h=>h
 | .exit id,_,Q,e,w,h=>fun a hs hd he=>wp_exit ⟨hs,hd,he ▸ h⟩
 | .ret,_,Q,e,w,h=>fun a hs hd he=>wp_ret ⟨hs,hd,he ▸ h⟩
 | .rangeFunc ..,_,_,_,_,h=>h.elim
 | .scope ..,_,_,_,_,h=>h.elim
 | .label ..,_,_,_,_,h=>h.elim
 | .goto ..,_,_,_,_,h=>h.elim
 | .refuse ..,_,_,_,_,h=>h.elim
def tJ (P:Program) (rs:List ResultVar) (e:du) (k:aq) (w:World):Prop :=
 match rs with
 | []=>k (.tuple #[]) w
 | [.tmp t]=>k (e t) w
 | [.cell a t]=>gK P t (e a) k w
 | [.tmp t,.tmp u]=>k (.tuple #[e t,e u]) w
 | [.tmp t,.tmp u,.tmp v]=>k (.tuple #[e t,e u,e v]) w
 | _=>False
def H8 (P:Program) (rs:List ResultVar) (k:aq):Exit→du→World→Prop
 | .normal,e,w=>tJ P rs e k w
 | .ret,e,w=>tJ P rs e k w
 | _,_,_=>False
def BH (args:Array Value):du:=fun i=>args.getD i undef
theorem Cy {P:Program} {fn:Func} {a:Act} {k:aq} {w:World} (h:tJ P fn.results.toList (fF a) k w) :
    ∃ v,(results fn a.tmps).run P w = .ok v w∧k v w:=by
 unfold tJ at h
 split at h
 ·rename_i hr; exact ⟨_,results_none (Array.toList_inj.1 hr) ..,h⟩
 ·rename_i t hr; exact ⟨_,results_tmp (Array.toList_inj.1 hr) ..,h⟩
 ·rename_i t u hr
  replace hr:fn.results = #[.cell t u]:=Array.toList_inj.1 hr
  obtain ⟨v,hv,hk⟩:=tx h
  refine ⟨v,?_,hk⟩
  unfold gK at h
  split at h
  ·rename_i ad ha
   simp only [Instr.loadAt,ha,Instr.sureAddr,Sem.run_bind,Sem.run_pure,Result.andThen_ok] at hv
   have ha':a.tmps.getD t undef = .pointer (some ad):=ha
   simp only [results,hr]
   simp only [List.mapM_toArray,List.mapM_cons,List.mapM_nil,ha',asAddr]
   simp [hv]
  ·exact h.elim
 ·rename_i t u hr; exact ⟨_,results_tmp2 (Array.toList_inj.1 hr) ..,h⟩
 ·rename_i t u v hr
  replace hr:fn.results = #[.tmp t,.tmp u,.tmp v]:=Array.toList_inj.1 hr
  refine ⟨_,?_,h⟩
  simp [results,hr,fF]
 ·exact h.elim
theorem xG {P:Program} {f:FuncId} {fn:Func} {c:Code} {args:Array Value} {w:World} {k:aq}
    (hf:P.funcs[f]? = some fn) (hb:fn.body=some c) (hok:dy fn.ntmps c=true) (hn:args.size≤fn.ntmps)
    (h:WP fn.ntmps P c (H8 P fn.results.toList k) (BH args) w):aX P f args k w:=by
 refine calls_of_wp hf hb (wp_mono (nV c hok _ _ _ h _ (by simp; omega) rfl ?_) ?_)
 ·funext i
  simp only [fF,BH,Array.getD_eq_getD_getElem?]
  by_cases hi:i < args.size
  ·rw [Array.getElem?_append_left hi]
  ·rw [Array.getElem?_append_right (by omega),Array.getElem?_eq_none (by omega:args.size≤i)]
   by_cases hj:i - args.size < fn.ntmps - args.size
   ·simp [hj]
   ·rw [Array.getElem?_eq_none (by simp; omega)]
 ·intro ex a w hl
  cases ex <;> first
   | exact hl.elim
   | exact hl.2.2.elim
   | (obtain ⟨hs,hd,hq⟩:=hl
      obtain ⟨v,hr,hk⟩:=Cy hq
      exact ⟨hd,v,hr,v,rfl,hk⟩)
end Go.E
