/- Parts of the proof: E. -/
import Derived.Tactics2
import Derived.LoopTactic
import Derived.KernelRfl
set_option linter.all false
set_option maxRecDepth 10000
def aE := @Nat.le_refl
def aG := @Nat.lt_or_ge
def aC := @List.getElem?_eq_getElem
def aI := @Nat.lt_of_lt_of_le
def aJ := @List.length_append
def aK := @List.mem_of_getElem?
def aL := @Option.some.injEq
def aO := @List.mem_cons_self
def aQ := @List.mem_singleton
def aP := @Nat.zero_le
def aR := @List.getElem?_eq_some_iff
def aV := @List.mem_append
def aS := @List.length_map
def aZ := @List.length_eq_zero_iff
def aY := @List.length_cons
def ag := @List.getElem_mem
def aj := @List.mem_cons_of_mem
def ah := @List.take_length
def ai := @Nat.le_trans
def aq := @List.getElem_of_mem
def ar := @List.length_singleton
def al := @List.mem_cons
def ax := @List.flatMap_cons
def az := @Int.toNat_natCast
def av := @List.append_nil
def bC := @List.getElem?_append_right
def bA := @List.lt_irrefl
def bB := @List.length_take
def bE := @Nat.eq_zero_or_pos
def bF := @Bool.eq_iff_iff
def bH := @List.map_append
def bJ := @List.rel_of_pairwise_cons
def bN := @Nat.mul_le_mul_right
def bP := @List.flatMap_append
def bV := @List.getElem?_append_left
def bZ := @Option.isSome_iff_exists
def bX := @List.append_assoc
def bY := @Bool.and_eq_true
def bn := @Option.some.inj
def br := @List.getElem?_map
def bU := @List.mem_map
def dX := @List.mem_flatMap
def bp := @List.mem_filter
def fT := @Nat.lt_of_le_of_lt
def gM := @Nat.le_of_lt
def dP := @Nat.lt_irrefl
def dB := @Nat.lt_trichotomy
def bz := @List.length_filter_le
def cu := @List.mem_flatten
def bt := @Nat.lt_or_eq_of_le
def cm := @List.take_append_drop
def dR := @List.length_set
def bK := @List.pairwise_iff_getElem
def aU := @decide_eq_true
def aF := @decide_eq_false
def aH := @getElem!_pos
def aW := @Go.Value.slice.injEq
def dH := @Go.Value.int.injEq
def cX := @Go.Value.pointer.injEq
def dI := @List.map_map
def iZ := @List.getElem_map
def fV := @List.take_of_length_le
def cw := @List.drop_eq_getElem_cons
theorem gEl {α : Type} {l : List α} {i : Nat} (h : i < l.length) : ∃ x, l[i]? = some x := ⟨_, List.getElem?_eq_getElem h⟩
theorem sEq {a b : Option Go.Addr} {n m c d : Nat} (h : Go.Value.slice a n c = .slice b m d) : a = b ∧ c = d := by simp at h; exact ⟨h.1, h.2.2⟩
namespace Go.E
open Go
abbrev dy:=Nat→Value
def ev (e:dy):Operand→Value
 | .tmp t=>e t
 | .const v=>v
 | .global g => .pointer (some ⟨g,0,none⟩)
 | .func f => .func (.func f) #[] #[]
def put (e:dy) (d:Option Tmp) (v:Value):dy :=
 match d with
 | some d=>fun i=>if i=d then v else e i
 | none=>e
theorem B6 (e:dy) (d:Nat) (v:Value) (i:Nat):put e (some d) v i=if i=d then v else e i:=rfl
def jK (P:Program) (t:TypeId):Bool :=
 match P.underlying t with
 | some (.struct _) | some (.array ..) | none=>false
 | some _=>true
def xy (P:Program) (t:TypeId):Bool :=
 match P.underlying t with
 | some (.struct _) | some (.array ..)=>true
 | _=>false
def vQ (P:Program) (t:TypeId):Option Nat:=(P.info? t).map (·.size)
def AO (P:Program) (s:TypeId) (f:Nat):Option Nat :=
 match P.underlying s with
 | some (.struct fs)=>match fs[f]? with
   | some fd=>match vQ P fd.type with
    | some (_+1)=>some fd.offset
    | _=>none
   | none=>none
 | _=>none
def B7 (P:Program) (t:TypeId):Option (List Value):=((P.info? t).bind (·.zero)).map (·.cells.toList)
def lV (P:Program) (t:TypeId):Option Nat :=
 match P.underlying t with
 | some (.slice e)=>vQ P e
 | _=>none
def np (o:Option Value) (k:Value→Prop):Prop :=
 match o with
 | some v=>k v
 | none=>False
def cZ (c:Prop) (p:Prop):Prop:=c∧p
def jx (w:World) (a:Addr):(i n:Nat)→(List Value→Prop)→Prop
 | _,0,k=>k []
 | i,n+1,k=>np (w.cell? (a.add i)) fun v=>jx w a (i+1) n fun vs=>k (v :: vs)
def D1 (o:Option Value) (fz:Bool) (v:Value) (p:Prop):Prop:=(o.isSome=true∧fz=false∧v.oneCell'=true)∧p
def pJ:World→Addr→Nat→List Value→(World→Prop)→Prop
 | w,_,_,[],k=>k w
 | w,a,i,v :: vs,k=>D1 (w.cell? (a.add i)) (w.frozen? (a.add i)) v (pJ (w.setCell (a.add i) v) a (i+1) vs k)
abbrev au:=Value→World→Prop
def gQ (P:Program) (t:TypeId) (x:Value) (k:au) (w:World):Prop :=
 match x with
 | .pointer (some a) =>
   if jK P t then np (w.cell? a) fun v=>k v w
   else if xy P t then
    match vQ P t with
    | some n=>jx w a 0 n fun vs=>k (.agg vs.toArray) w
    | none=>False
   else False
 | _=>False
def jS (P:Program) (t:TypeId) (x v:Value) (k:au) (w:World):Prop :=
 match x with
 | .pointer (some a)=>cZ (vQ P t=some v.cells.size) (pJ w a 0 v.cells.toList fun w'=>k undef w')
 | _=>False
def qZ (x:Value) (k:Value→Prop):Prop :=
 match x with
 | .pointer (some a)=>k (.pointer (some a))
 | .func (.func f) a b=>k (.func (.func f) a b)
 | .iface t v=>k (.iface t v)
 | .slice a l c=>k (.slice a l c)
 | _=>False
def fm (off:Option Nat) (x:Value) (k:Value→Prop):Prop :=
 match off,x with
 | some o,.pointer (some a)=>k (.pointer (some (a.add o)))
 | _,_=>False
def ml (P:Program) (t:TypeId) (cs:Array Value) (off:Nat) (k:Value→Prop):Prop :=
 if xy P t then
  match vQ P t with
  | some n=>k (.agg (cs.extract off (off+n)))
  | none=>False
 else if jK P t then np cs[off]? k else False
def pM (P:Program) (s:TypeId) (f:Nat) (x:Value) (k:Value→Prop):Prop :=
 match P.underlying s,x with
 | some (.struct fs),.agg cs=>match fs[f]? with
   | some fd=>ml P fd.type cs fd.offset k
   | none=>False
 | _,_=>False
def eg (P:Program) (t:TypeId) (x i:Value) (k:Value→Prop):Prop :=
 match lV P t,x,i with
 | some n,.slice (some a) len _,.int _ i=>cZ (0≤i∧i < len) (k (.pointer (some (a.add (i.toNat * n)))))
 | _,_,_=>False
def kZ (P:Program) (t:TypeId) (x i:Value) (k:Value→Prop):Prop :=
 match P.underlying t,x,i with
 | some .string,.string s,.int _ i=>cZ (0≤i∧i < s.size) (k (.int .u8 (s[i.toNat]?.getD 0).toNat))
 | _,_,_=>False
def rD (x:Value) (k:Bool→Prop):Prop :=
 match x with
 | .bool b=>k b
 | _=>False
def Jx:Value→Value→Option Bool
 | .bool a,.bool b=>some (a == b)
 | .int k a,.int k' b=>if k=k' then some (a == b) else none
 | .string a,.string b=>some (a.toList == b.toList)
 | .pointer none,.pointer b=>some b.isNone
 | .pointer (some _),.pointer none=>some false
 | .slice none _ _,.slice b _ _=>some b.isNone
 | .slice (some _) _ _,.slice none _ _=>some false
 | .iface _ _,.nilIface=>some false
 | .nilIface,.iface _ _=>some false
 | _,_=>none
def kg (op:BinOp) (k:IntKind) (a b:Int) (q:Value→Prop):Prop :=
 match op with
 | .add=>q (.int k (k.wrap (a+b)))
 | .sub=>q (.int k (k.wrap (a - b)))
 | .mul=>q (.int k (k.wrap (a * b)))
 | .quo=>cZ (b≠0) (q (.int k (k.wrap (a.tdiv b))))
 | .rem=>cZ (b≠0) (q (.int k (a.tmod b)))
 | .and=>q (.int k (k.wrap (BitVec.ofInt k.bits a &&& BitVec.ofInt k.bits b).toNat))
 | .or=>q (.int k (k.wrap (BitVec.ofInt k.bits a ||| BitVec.ofInt k.bits b).toNat))
 | .xor=>q (.int k (k.wrap (BitVec.ofInt k.bits a ^^^ BitVec.ofInt k.bits b).toNat))
 | .eql=>q (.bool (a == b))
 | .neq=>q (.bool (a != b))
 | .lss=>q (.bool (a < b))
 | .leq=>q (.bool (a≤b))
 | .gtr=>q (.bool (a > b))
 | .geq=>q (.bool (a ≥ b))
 | _=>False
def ki (op:BinOp) (k:IntKind) (a b:Int) (q:Value→Prop):Prop :=
 match op with
 | .shl=>cZ (0≤b) (q (.int k (k.wrap (a * 2 ^ (min b.toNat k.bits)))))
 | .shr=>cZ (0≤b) (q (.int k (a.fdiv (2 ^ (min b.toNat k.bits)))))
 | _=>False
def jy (op:BinOp) (a b:ByteArray) (q:Value→Prop):Prop :=
 match op with
 | .eql=>q (.bool (a.toList == b.toList))
 | .neq=>q (.bool (!(a.toList == b.toList)))
 | .lss=>q (.bool (Op.bytesLess a.toList b.toList))
 | .leq=>q (.bool (Op.bytesLess a.toList b.toList || a.toList == b.toList))
 | .gtr=>q (.bool (!(Op.bytesLess a.toList b.toList || a.toList == b.toList)))
 | .geq=>q (.bool (!(Op.bytesLess a.toList b.toList)))
 | _=>False
def fQ:BinOp→Bool
 | .shl | .shr=>true
 | _=>false
def lZ (P:Program) (t:TypeId):Bool :=
 match P.underlying t with
 | some (.interface _)=>true
 | _=>false
def ld:Operand→Bool
 | .const _=>true
 | _=>false
def vR (P:Program) (neg:Bool) (t:TypeId) (xo yo:Operand) (x y:Value) (q:Value→Prop):Prop :=
 match x,y with
 | .nilIface,.nilIface=>cZ ((ld xo || ld yo)=true∧lZ P t=true) (q (.bool (xor neg true)))
 | .nilIface,.iface _ _=>cZ (lZ P t=true) (q (.bool neg))
 | .iface _ _,.nilIface=>cZ (lZ P t=true) (q (.bool neg))
 | .bool a,.bool b=>cZ (P.underlying t=some .bool) (q (.bool (xor neg (a == b))))
 | .pointer none,.pointer b=>cZ (P.underlying t matches some (.pointer _)) (q (.bool (xor neg b.isNone)))
 | .pointer (some _),.pointer none=>cZ (P.underlying t matches some (.pointer _)) (q (.bool neg))
 | .slice none _ _,.slice b _ _=>cZ (P.underlying t matches some (.slice _)) (q (.bool (xor neg b.isNone)))
 | .slice (some _) _ _,.slice none _ _=>cZ (P.underlying t matches some (.slice _)) (q (.bool neg))
 | .agg a,.agg b=>∃ r:Bool,(∀ w,(do eqGuard (if neg then .neq else .eql) t xo yo (.agg a) (.agg b); binOp (if neg then .neq else .eql) t (.agg a) (.agg b):Sem Value).run P w = .ok (.bool r) w)∧q (.bool r)
 | _,_=>False
def dC (P:Program) (op:BinOp) (t:TypeId) (xo yo:Operand) (x y:Value) (q:Value→Prop):Prop :=
 match x,y with
 | .int k a,.int k' b=>if fQ op then ki op k a b q else if k=k' then kg op k a b q else False
 | .string a,.string b=>jy op a b q
 | x,y=>match op with
  | .eql=>vR P false t xo yo x y q
  | .neq=>vR P true t xo yo x y q
  | _=>False
def Ex (op:UnOp) (x:Value) (q:Value→Prop):Prop :=
 match op,x with
 | .not,.bool b=>q (.bool !b)
 | .neg,.int k n=>q (.int k (k.wrap (0 - n)))
 | _,_=>False
def vS (P:Program) (t:TypeId) (name:String):Option FuncId :=
 match (P.info? t).bind fun i=>i.methods.find? (·.name == name) with
 | some m=>if m.path.isEmpty then match m.func with
     | some (f,true)=>match P.underlying t with
       | some (.pointer _)=>some f
       | _=>none
     | some (f,false)=>match P.underlying t with
       | some (.pointer _) | none=>none
       | _=>some f
     | none=>none
  else none
 | none=>none
def ia (P:Program) (f:FuncId):Bool :=
 match P.funcs[f]? with
 | some fn => fn.body.isSome && fn.name != "runtime.NumGoroutine"
 | none=>false
def aX (P:Program) (f:FuncId) (args:Array Value) (k:au) (w:World):Prop :=
 Calls P f args w fun en w'=>∃ v,en = .returned v∧k v w'
def du (P:Program) (s:Sem Value) (k:au) (w:World):Prop :=
 match s.run P w with
 | .ok v w'=>k v w'
 | .halt .. => False
def mL (P:Program) (f:FuncId):Option (Array Value→Sem Value) :=
 match P.funcs[f]? with
 | some fn => if fn.name == "runtime.NumGoroutine" || fn.body.isSome then none else
  match Extern.findNext fn with
  | some _=>none
  | none=>Extern.find fn
 | none=>none
def lL (P:Program) (fv:Value) (args:Array Value) (k:au) (w:World):Prop :=
 match fv with
 | .func (.func f) first cap=>if ia P f then aX P f (first++args++cap) k w else
   match mL P f with
   | some s=>du P (s (first++args++cap)) k w
   | none=>False
 | _=>False
def cn (P:Program) (recv:Value) (name:String) (args:Array Value) (k:au) (w:World):Prop :=
 match recv with
 | .iface t v=>match vS P t name with
  | some f=>cZ (ia P f=true) (aX P f (#[v]++args) k w)
  | none=>False
 | _=>False
def nq (P:Program) (t:Option TypeId) (x:Option Value) (k:Value→Prop):Prop :=
 match t.bind P.underlying,x with
 | some (.slice _),some (.slice _ n _)=>k (.int .i64 n)
 | some .string,some (.string s)=>k (.int .i64 s.size)
 | _,_=>False
def rE (P:Program) (t:Option TypeId) (x:Option Value) (k:Value→Prop):Prop :=
 match t.bind P.underlying,x with
 | some (.slice _),some (.slice _ _ n)=>k (.int .i64 n)
 | _,_=>False
def gO (o:Option Value) (d:Int) (k:Int→Prop):Prop :=
 match o with
 | none=>k d
 | some (.int _ i)=>k i
 | some _=>False
def de (P:Program) (t:TypeId) (x:Value) (lo hi mx:Option Value) (k:Value→Prop):Prop :=
 match P.underlying t,x with
 | some (.slice el),.slice a len cap=>match vQ P el with
   | some n=>gO mx cap fun m=>gO hi len fun h=>gO lo 0 fun l=>cZ ((0≤l∧l≤h)∧(h≤m∧m≤cap)∧(mx.isSome=true→hi.isSome=true))
       (k (.slice (if m=l then a else a.map (·.add (l.toNat * n))) (h.toNat - l.toNat) (m.toNat - l.toNat)))
   | none=>False
 | some (.array len el),.pointer (some a)=>match vQ P el with
   | some n=>gO mx len fun m=>gO hi len fun h=>gO lo 0 fun l=>cZ ((0≤l∧l≤h)∧(h≤m∧m≤len)∧(mx.isSome=true→hi.isSome=true))
       (k (.slice (some (if m=l then a else a.add (l.toNat * n))) (h.toNat - l.toNat) (m.toNat - l.toNat)))
   | none=>False
 | _,_=>False
def dQ (P:Program) (t:TypeId):Option (Array (Nat × Nat)) :=
 match P.underlying t with
 | some (.struct fs)=>fs.mapM fun f=>(vQ P f.type).map fun s=>(f.offset,s)
 | _=>none
def cg (P:Program) (t:TypeId) (parts:Array (Nat × Value)) (k:Value→Prop):Prop :=
 match dQ P t,(P.info? t).bind (·.zero) with
 | some pl,some z=>match Instr.fill (pl[·]?) z.cells parts.toList with
  | some cells=>k (.agg cells)
  | none=>False
 | _,_=>False
def gj:List Value→Option (List UInt8)
 | []=>some []
 | .int .u8 n :: vs=>(gj vs).map (UInt8.ofNat n.toNat :: ·)
 | _ :: _=>none
def fh (w:World) (x:Value) (k:Value→Prop):Prop :=
 match x with
 | .slice none _ _=>k (.string .empty)
 | .slice (some a) len _=>jx w a 0 len fun vs=>match gj vs with
   | some l=>k (.string ⟨l.toArray⟩)
   | none=>False
 | _=>False
def fJ (P:Program) (s d:TypeId) (x:Value) (k:au) (w:World):Prop :=
 match P.underlying s,P.underlying d,x with
 | some (.int _),some (.int kd),.int _ n=>k (.int kd (kd.wrap n)) w
 | some (.slice e),some .string,x=>cZ (P.underlying e=some (.int .u8)) (fh w x fun v=>k v w)
 | some .string,some .string,.string s=>k (.string s) w
 | some .string,some (.slice _),.string _=>du P (convert s d x) k w
 | _,_,_=>False
def hJ (P:Program) (b:Builtin) (ats:Array TypeId) (ty:TypeId) (args:Array Value) (k:au) (w:World):Prop :=
 match b with
 | .len=>nq P ats[0]? args[0]? fun v=>k v w
 | .cap=>rE P ats[0]? args[0]? fun v=>k v w
 | .append=>du P (Builtin.append_ ats ty args) k w
 | .copy=>du P (Builtin.copy_ ats ty args) k w
 | .max=>du P (Builtin.max_ ats ty args) k w
 | .min=>du P (Builtin.min_ ats ty args) k w
 | _=>False
def il (x:Value) (i:Nat) (k:Value→Prop):Prop :=
 match x with
 | .tuple vs=>np vs[i]? k
 | _=>False
def dL (P:Program) (t:TypeId) (x:Value) (k:Value→Prop):Prop :=
 match P.underlying t with
 | some (.interface _) | none=>False
 | some _=>k (.iface t x)
def jA (P:Program) (o:Oper) (e:dy) (k:au) (w:World):Prop :=
 match o.op with
 | .move x | .assign x=>k (ev e x) w
 | .pick c a b=>rD (ev e c) fun t=>k (if t then ev e a else ev e b) w
 | .load t a=>gQ P t (ev e a) k w
 | .store t a x=>jS P t (ev e a) (ev e x) k w
 | .nilCheck x=>qZ (ev e x) fun v=>k v w
 | .fieldAddr s x f=>fm (AO P s f) (ev e x) fun v=>k v w
 | .field s x f=>pM P s f (ev e x) fun v=>k v w
 | .indexAddr t x i=>eg P t (ev e x) (ev e i) fun v=>k v w
 | .index t x i=>kZ P t (ev e x) (ev e i) fun v=>k v w
 | .binOp op t x y _=>dC P op t x y (ev e x) (ev e y) fun v=>k v w
 | .unOp op _ x=>Ex op (ev e x) fun v=>k v w
 | .extract x i=>il (ev e x) i fun v=>k v w
 | .makeInterface t x=>dL P t (ev e x) fun v=>k v w
 | .makeFunc fn first cap=>k (.func fn (first.map (ev e)) (cap.map (ev e))) w
 | .alloc t=>du P (Instr.alloc t true (.tuple #[])) k w
 | .box t x=>du P (Instr.box t (ev e x)) k w
 | .build t parts=>cg P t (parts.map fun (i,x)=>(i,ev e x)) fun v=>k v w
 | .buildSlice t n parts=>du P (Instr.buildSlice t n (parts.map fun (i,x)=>(i,ev e x))) k w
 | .convert s d x=>fJ P s d (ev e x) k w
 | .makeSlice t l c=>du P (Instr.makeSlice t (ev e l) (ev e c)) k w
 | .slice t x lo hi mx=>de P t (ev e x) (lo.map (ev e)) (hi.map (ev e)) (mx.map (ev e)) fun v=>k v w
 | .call c=>match c.callee with
  | .value f=>lL P (ev e f) (c.args.map (ev e)) k w
  | .invoke r m=>cn P (ev e r) m (c.args.map (ev e)) k w
  | .builtin b=>hJ P b c.argTypes o.type (c.args.map (ev e)) k w
 | _=>False
def xz (ops:Array Oper) (e:dy) (g:Option (Nat × Bool)):Bool :=
 match g with
 | none=>true
 | some (j,b)=>match (ops[j]?).bind (·.dst) with
   | some d=>match e d with
    | .bool x=>x == b
    | _=>false
   | none=>false
def uH (P:Program) (ops:Array Oper):List Oper→dy→(dy→World→Prop)→World→Prop
 | [],e,k,w=>k e w
 | o :: rest,e,k,w=>if xz ops e o.guard then jA P o e (fun v w'=>uH P ops rest (put e o.dst v) k w') w else uH P ops rest (put e o.dst undef) k w
section mono
variable {P:Program} {w:World}
theorem mM {o:Option Value} {k k':Value→Prop} (h:∀ v,k v→k' v):np o k→np o k':=by
 cases o with
 | none=>exact id
 | some v=>exact h v
theorem eH {c p p':Prop} (h:p→p'):cZ c p→cZ c p':=And.imp id h
theorem nN {a:Addr}:∀ (n i:Nat) {k k':List Value→Prop},(∀ v,k v→k' v)→jx w a i n k→jx w a i n k'
 | 0,_,_,_,h=>h _
 | n+1,_,_,_,h=>mM fun _=>nN n _ fun _=>h _
theorem qA {a:Addr}:∀ (vs:List Value) (w:World) (i:Nat) {k k':World→Prop},(∀ w,k w→k' w)→pJ w a i vs k→pJ w a i vs k'
 | [],_,_,_,_,h=>h _
 | _ :: vs,_,_,_,_,h=>And.imp id (qA vs _ _ h)
theorem yA {t:TypeId} {x:Value} {k k':au} (h:∀ v w,k v w→k' v w):gQ P t x k w→gQ P t x k' w:=by
 unfold gQ
 split
 ·split
  ·exact mM fun _=>h _ _
  ·split
   ·split
    ·exact nN _ _ fun _=>h _ _
    ·exact id
   ·exact id
 ·exact id
theorem vT {t:TypeId} {x v:Value} {k k':au} (h:∀ v w,k v w→k' v w):jS P t x v k w→jS P t x v k' w:=by
 unfold jS
 split
 ·exact eH (qA _ _ _ fun _=>h _ _)
 ·exact id
theorem AP {x:Value} {k k':Value→Prop} (h:∀ v,k v→k' v):qZ x k→qZ x k':=by
 unfold qZ
 split <;> first | exact h _ | exact id
theorem qd {o:Option Nat} {x:Value} {k k':Value→Prop} (h:∀ v,k v→k' v):fm o x k→fm o x k':=by
 unfold fm
 split <;> first | exact h _ | exact id
theorem yB {t:TypeId} {cs:Array Value} {off:Nat} {k k':Value→Prop} (h:∀ v,k v→k' v):ml P t cs off k→ml P t cs off k':=by
 unfold ml
 split
 ·split
  ·exact h _
  ·exact id
 ·split
  ·exact mM h
  ·exact id
theorem vV {s:TypeId} {f:Nat} {x:Value} {k k':Value→Prop} (h:∀ v,k v→k' v):pM P s f x k→pM P s f x k':=by
 unfold pM
 split
 ·split
  ·exact yB h
  ·exact id
 ·exact id
theorem qh {t:TypeId} {x i:Value} {k k':Value→Prop} (h:∀ v,k v→k' v):eg P t x i k→eg P t x i k':=by
 unfold eg
 split
 ·exact eH (h _)
 ·exact id
theorem vW {t:TypeId} {x i:Value} {k k':Value→Prop} (h:∀ v,k v→k' v):kZ P t x i k→kZ P t x i k':=by
 unfold kZ
 split
 ·exact eH (h _)
 ·exact id
theorem yC {x:Value} {k k':Bool→Prop} (h:∀ v,k v→k' v):rD x k→rD x k':=by
 unfold rD
 split <;> first | exact h _ | exact id
theorem AQ {op:BinOp} {kd:IntKind} {a b:Int} {k k':Value→Prop} (h:∀ v,k v→k' v):kg op kd a b k→kg op kd a b k':=by
 unfold kg
 split <;> first | exact h _ | exact eH (h _) | exact id
theorem vX {op:BinOp} {kd:IntKind} {a b:Int} {k k':Value→Prop} (h:∀ v,k v→k' v):ki op kd a b k→ki op kd a b k':=by
 unfold ki
 split <;> first | exact eH (h _) | exact id
theorem AR {op:BinOp} {a b:ByteArray} {k k':Value→Prop} (h:∀ v,k v→k' v):jy op a b k→jy op a b k':=by
 unfold jy
 split <;> first | exact h _ | exact id
theorem B8 {neg:Bool} {t:TypeId} {xo yo:Operand} {x y:Value} {k k':Value→Prop} (h:∀ v,k v→k' v):vR P neg t xo yo x y k→vR P neg t xo yo x y k':=by
 unfold vR
 split <;> first | exact eH (h _) | exact id | exact fun ⟨r,h1,h2⟩=>⟨r,h1,h _ h2⟩
theorem AS {op:BinOp} {t:TypeId} {xo yo:Operand} {x y:Value} {k k':Value→Prop} (h:∀ v,k v→k' v):dC P op t xo yo x y k→dC P op t xo yo x y k':=by
 unfold dC
 split
 ·split
  ·exact vX h
  ·split
   ·exact AQ h
   ·exact id
 ·exact AR h
 ·split <;> first | exact B8 h | exact id
theorem B9 {op:UnOp} {x:Value} {k k':Value→Prop} (h:∀ v,k v→k' v):Ex op x k→Ex op x k':=by
 unfold Ex
 split <;> first | exact h _ | exact id
theorem rF {f:FuncId} {args:Array Value} {k k':au} (h:∀ v w,k v w→k' v w):aX P f args k w→aX P f args k' w :=
 fun hc=>hc.mono fun _ _ ⟨v,hv,hk⟩=>⟨v,hv,h _ _ hk⟩
theorem uI {r:Value} {nm:String} {args:Array Value} {k k':au} (h:∀ v w,k v w→k' v w):cn P r nm args k w→cn P r nm args k' w:=by
 unfold cn
 split
 ·split
  ·exact eH (rF h)
  ·exact id
 ·exact id
theorem mN {s:Sem Value} {k k':au} (h:∀ v w,k v w→k' v w):du P s k w→du P s k' w:=by
 unfold du
 split <;> first | exact h _ _ | exact id
theorem yD {fv:Value} {args:Array Value} {k k':au} (h:∀ v w,k v w→k' v w):lL P fv args k w→lL P fv args k' w:=by
 unfold lL
 split
 ·split
  ·exact rF h
  ·split
   ·exact mN h
   ·exact id
 ·exact id
theorem AT {t:Option TypeId} {x:Option Value} {k k':Value→Prop} (h:∀ v,k v→k' v):nq P t x k→nq P t x k':=by
 unfold nq
 split <;> first | exact h _ | exact id
theorem AU {t:Option TypeId} {x:Option Value} {k k':Value→Prop} (h:∀ v,k v→k' v):rE P t x k→rE P t x k':=by
 unfold rE
 split <;> first | exact h _ | exact id
theorem gl {o:Option Value} {d:Int} {k k':Int→Prop} (h:∀ v,k v→k' v):gO o d k→gO o d k':=by
 unfold gO
 split <;> first | exact h _ | exact id
theorem vY {t:TypeId} {x:Value} {lo hi mx:Option Value} {k k':Value→Prop} (h:∀ v,k v→k' v):de P t x lo hi mx k→de P t x lo hi mx k':=by
 unfold de
 split
 ·split
  ·exact gl fun _=>gl fun _=>gl fun _=>eH (h _)
  ·exact id
 ·split
  ·exact gl fun _=>gl fun _=>gl fun _=>eH (h _)
  ·exact id
 ·exact id
theorem vZ {t:TypeId} {parts:Array (Nat × Value)} {k k':Value→Prop} (h:∀ v,k v→k' v):cg P t parts k→cg P t parts k':=by
 unfold cg
 split
 ·split <;> first | exact h _ | exact id
 ·exact id
theorem uJ {x:Value} {k k':Value→Prop} (h:∀ v,k v→k' v):fh w x k→fh w x k':=by
 unfold fh
 split
 ·exact h _
 ·exact nN _ _ fun vs=>by split <;> first | exact h _ | exact id
 ·exact id
theorem yE {s d:TypeId} {x:Value} {k k':au} (h:∀ v w,k v w→k' v w):fJ P s d x k w→fJ P s d x k' w:=by
 unfold fJ
 split
 ·exact h _ _
 ·exact eH (uJ fun _=>h _ _)
 ·exact h _ _
 ·exact mN h
 ·exact id
theorem sd {b:Builtin} {ats:Array TypeId} {ty:TypeId} {args:Array Value} {k k':au} (h:∀ v w,k v w→k' v w):hJ P b ats ty args k w→hJ P b ats ty args k' w:=by
 unfold hJ
 split <;> first | exact mN h | exact AT fun _=>h _ _ | exact AU fun _=>h _ _ | exact id
theorem sf {x:Value} {i:Nat} {k k':Value→Prop} (h:∀ v,k v→k' v):il x i k→il x i k':=by
 unfold il
 split <;> first | exact mM h | exact id
theorem sg {t:TypeId} {x:Value} {k k':Value→Prop} (h:∀ v,k v→k' v):dL P t x k→dL P t x k':=by
 unfold dL
 split <;> first | exact h _ | exact id
theorem CA {o:Oper} {e:dy} {k k':au} (h:∀ v w,k v w→k' v w):jA P o e k w→jA P o e k' w:=by
 unfold jA
 split
 case h_23 =>
  split
  ·exact yD h
  ·exact uI h
  ·exact sd h
 all_goals first
  | exact h _ _
  | exact yC fun _=>h _ _
  | exact yA h
  | exact vT h
  | exact AP fun _=>h _ _
  | exact qd fun _=>h _ _
  | exact vV fun _=>h _ _
  | exact qh fun _=>h _ _
  | exact vW fun _=>h _ _
  | exact AS fun _=>h _ _
  | exact B9 fun _=>h _ _
  | exact sf fun _=>h _ _
  | exact sg fun _=>h _ _
  | exact vY fun _=>h _ _
  | exact vZ fun _=>h _ _
  | exact yE h
  | exact mN h
  | exact id
end mono
def eo (P:Program) (k:au):Result Next→Prop
 | .ok (.value v) w=>k v w
 | .ok .skip w=>k undef w
 | .ok (.enter f args) w=>aX P f args k w
 | _=>False
section sound
variable {P:Program} {w:World}
theorem nt {o:Option Value} {k:Value→Prop}:np o k↔∃ v,o=some v∧k v:=by
 cases o <;> simp [np]
theorem pN {a:Addr}:∀ (n i:Nat) (acc:Array Value) {k:List Value→Prop},jx w a i n k →
    ∃ vs,(loadCellsFrom a i n acc).run P w = .ok (acc++vs.toArray) w∧k vs
 | 0,i,acc,k,h=>⟨[],by simp [loadCellsFrom],h⟩
 | n+1,i,acc,k,h=>by
  obtain ⟨v,hv,h⟩:=nt.1 h
  obtain ⟨vs,hr,hk⟩:=pN n (i+1) (acc.push v) h
  refine ⟨v :: vs,?_,hk⟩
  simp only [loadCellsFrom,Sem.run_bind,run_load,hv,Result.andThen_ok,hr]
  simp
theorem rG {a:Addr}:∀ (vs:List Value) (w:World) (i:Nat) {k:World→Prop},pJ w a i vs k →
    ∃ w',(storeCells a vs i).run P w = .ok () w'∧k w'
 | [],w,i,k,h=>⟨w,by simp [storeCells],h⟩
 | v :: vs,w,i,k,h=>by
  obtain ⟨⟨h1,h2,h3⟩,h⟩:=h
  obtain ⟨x,hx⟩:=bZ.1 h1
  obtain ⟨w',hr,hk⟩:=rG vs _ (i+1) h
  exact ⟨w',by simp [storeCells,run_store _ _ _ _ _ h3,hx,h2,hr],hk⟩
theorem lg {t:TypeId} (h:jK P t=true):∃ d,P.underlying t=some d∧(∀ fs,d ≠ .struct fs)∧(∀ n e,d ≠ .array n e):=by
 unfold jK at h
 split at h <;> simp_all
theorem mO (t:TypeId):(jK P t=true→(isAgg t).run P w = .ok false w)∧(xy P t=true→(isAgg t).run P w = .ok true w):=by
 constructor
 ·intro h
  obtain ⟨d,hd,h1,h2⟩:=lg h
  simp only [isAgg,Sem.run_bind,run_underlying hd,Result.andThen_ok]
  cases d <;> simp_all
 ·intro h
  unfold xy at h
  split at h <;> simp_all [isAgg,run_underlying]
theorem fq {t:TypeId} {n:Nat} (h:vQ P t=some n):(sizeOf t).run P w = .ok n w:=by
 unfold vQ at h
 cases hi:P.info? t with
 | none=>simp [hi] at h
 | some i=>simp [hi] at h; simp [sizeOf,typeInfo,hi,h]
theorem tQ {t:TypeId} {x:Value} {k:au} (h:gQ P t x k w):∃ v,(Instr.loadAt t x).run P w = .ok v w∧k v w:=by
 unfold gQ at h
 split at h
 ·rename_i a
  split at h
  ·rename_i hs
   obtain ⟨v,hv,hk⟩:=nt.1 h
   exact ⟨v,by simp [Instr.loadAt,Instr.sureAddr,loadVar,(mO t).1 hs,hv],hk⟩
  ·split at h
   ·rename_i hs
    split at h
    ·rename_i n hn
     obtain ⟨vs,hr,hk⟩:=pN (P:=P) n 0 #[] h
     exact ⟨_,by simp [Instr.loadAt,Instr.sureAddr,loadVar,(mO t).2 hs,fq hn,loadCells,hr],hk⟩
    ·exact h.elim
   ·exact h.elim
 ·exact h.elim
theorem yF {t:TypeId} {x v:Value} {k:au} (h:jS P t x v k w):∃ w',(Instr.storeAt t x v).run P w = .ok () w'∧k undef w':=by
 unfold jS at h
 split at h
 ·obtain ⟨hsz,h⟩:=h
  obtain ⟨w',hr,hk⟩:=rG (P:=P) _ _ _ h
  exact ⟨w',by simp [Instr.storeAt,Instr.sureAddr,storeVar,fq hsz,hr],hk⟩
 ·exact h.elim
theorem CB {s:TypeId} {f o:Nat} (h:AO P s f=some o) (a:Addr):(Instr.fieldAt s (.pointer (some a)) f).run P w = .ok (.pointer (some (a.add o))) w:=by
 unfold AO at h
 split at h
 ·rename_i fs hs
  split at h
  ·rename_i fd hf
   split at h
   ·rename_i n hn
    simp only [aL] at h
    simp [Instr.fieldAt,run_underlying hs,hf,Instr.sureAddr,fieldPlace,fq hn,h]
   ·simp at h
  ·simp at h
 ·simp at h
theorem tR {t:TypeId} {cs:Array Value} {off:Nat} {k:Value→Prop} (h:ml P t cs off k):∃ v,(part t cs off).run P w = .ok v w∧k v:=by
 unfold ml at h
 split at h
 ·rename_i hs
  split at h
  ·rename_i n hn
   exact ⟨_,by simp [part,(mO t).2 hs,fq hn],h⟩
  ·exact h.elim
 ·split at h
  ·rename_i hs
   obtain ⟨v,hv,hk⟩:=nt.1 h
   exact ⟨v,by simp [part,(mO t).1 hs,hv],hk⟩
  ·exact h.elim
theorem zQ {t:TypeId} {n:Nat} (h:lV P t=some n):∃ el,P.underlying t=some (.slice el)∧vQ P el=some n:=by
 unfold lV at h
 split at h
 ·exact ⟨_,‹_›,h⟩
 ·simp at h
theorem jT {s:Sem Value} {k:au} (h:du P s k w):∃ v w',s.run P w = .ok v w'∧k v w':=by
 unfold du at h
 split at h
 ·exact ⟨_,_,‹_›,h⟩
 ·exact h.elim
theorem nu {f:FuncId} {args:Array Value} (h:ia P f=true):(callFunc f args).run P w = .ok (.enter f args) w:=by
 unfold ia at h
 split at h
 ·rename_i fn hf
  simp only [bY,bne_iff_ne,ne_eq] at h
  obtain ⟨h1,h2⟩:=h
  have hb:¬ fn.body.isNone=true:=by
   cases hb:fn.body <;> simp_all
  simp only [callFunc,Sem.run_bind,run_program,Result.andThen_ok,hf]
  rw [if_neg (by simpa using h2),if_neg hb]
  rfl
 ·simp at h
theorem eX {s:Sem Value} {v:Value} {w':World} (h:s.run P w = .ok v w'):(do pure (.value (← s)):Sem Next).run P w = .ok (.value v) w':=by
 simp only [Sem.run_bind,h,Result.andThen_ok,Sem.run_pure]
theorem yG {f:FuncId} {args:Array Value} {s:Array Value→Sem Value} {v:Value} {w':World} (h:mL P f=some s) (hr:(s args).run P w = .ok v w'):(callFunc f args).run P w = .ok (.value v) w':=by
 unfold mL at h
 split at h
 ·rename_i fn hf
  split at h
  ·simp at h
  ·rename_i hc
   simp only [Bool.or_eq_true,not_or,Bool.not_eq_true,Option.isSome_eq_false_iff] at hc
   split at h
   ·simp at h
   ·rename_i hn
    simp only [callFunc,Sem.run_bind,run_program,Result.andThen_ok,hf]
    rw [if_neg (by simp [hc.1]),if_pos hc.2]
    simp only [Sem.run_bind,run_mark,Result.andThen_ok,hn,h]
    rw [hr]; rfl
 ·simp at h
theorem AV {t:TypeId} {v:Value} {name:String} {f:FuncId} (h:vS P t name=some f) (n:Nat):(method (n+1) t v name).run P w = .ok (f,v) w:=by
 unfold vS at h
 split at h
 ·rename_i m hm
  split at h
  ·rename_i hp
   cases hi:P.info? t with
   | none=>simp [hi] at hm
   | some i =>
    simp [hi] at hm
    have hpl:m.path.toList=[]:=by simpa using hp
    split at h
    ·rename_i f' hf
     split at h
     ·rename_i el hu
      simp only [aL] at h
      subst h
      simp [method,typeInfo,hi,hm,hpl,follow,hf,receiverAt,run_underlying hu,Place.get]
     ·simp at h
    ·rename_i f' hf
     split at h
     ·simp at h
     ·simp at h
     ·rename_i hu1 hu2
      simp only [aL] at h
      subst h
      cases hu:P.underlying t with
      | none=>exact absurd hu hu2
      | some d =>
       simp only [method,typeInfo,hi,hm,hpl,follow,hf,receiverAt,run_underlying hu,Sem.run_bind,run_program,Result.andThen_ok,Sem.run_pure]
       cases d <;> first | (exact absurd hu (hu1 _)) | simp [Place.get]
    ·simp at h
  ·simp at h
 ·simp at h
end sound
section sound2
variable {P:Program} {w:World}
theorem rH (op:BinOp) (k:IntKind) (a b:Int) (r:BitVec k.bits)
    (h:op = .and∧r=BitVec.ofInt k.bits a &&& BitVec.ofInt k.bits b∨op = .or∧r=BitVec.ofInt k.bits a ||| BitVec.ofInt k.bits b∨op = .xor∧r=BitVec.ofInt k.bits a ^^^ BitVec.ofInt k.bits b) :
    (Op.intBits op k a b).run P w = .ok (.int k (k.wrap r.toNat)) w:=by
 rcases h with ⟨rfl,rfl⟩ | ⟨rfl,rfl⟩ | ⟨rfl,rfl⟩ <;> rfl
theorem CC {op:BinOp} {t:TypeId} {xo yo:Operand} {kd:IntKind} {a b:Int} {k:Value→Prop} (h:kg op kd a b k) :
    ∃ v,(do eqGuard op t xo yo (.int kd a) (.int kd b); binOp op t (.int kd a) (.int kd b):Sem Value).run P w = .ok v w∧k v:=by
 have e0:∀ op,eqGuard op t xo yo (.int kd a) (.int kd b)=pure ():=fun op=>eqGuard_at_int ..
 cases op <;> first | exact h.elim | skip
 ·exact ⟨_,by simp only [Sem.run_bind,e0,binOp_add]; rfl,h⟩
 ·exact ⟨_,by simp only [Sem.run_bind,e0,binOp_sub]; rfl,h⟩
 ·exact ⟨_,by simp only [Sem.run_bind,e0,binOp_mul]; rfl,h⟩
 ·exact ⟨_,by simp only [Sem.run_bind,e0,binOp_quo,Op.intDiv,if_neg h.1]; rfl,h.2⟩
 ·exact ⟨_,by simp only [Sem.run_bind,e0,binOp_rem,Op.intDiv,if_neg h.1]; rfl,h.2⟩
 ·exact ⟨_,by simp only [Sem.run_bind,e0,binOp_and]; exact rH _ _ _ _ _ (.inl ⟨rfl,rfl⟩),h⟩
 ·exact ⟨_,by simp only [Sem.run_bind,e0,binOp_or]; exact rH _ _ _ _ _ (.inr (.inl ⟨rfl,rfl⟩)),h⟩
 ·exact ⟨_,by simp only [Sem.run_bind,e0,binOp_xor]; exact rH _ _ _ _ _ (.inr (.inr ⟨rfl,rfl⟩)),h⟩
 ·exact ⟨_,by simp only [Sem.run_bind,e0,binOp_eql]; rfl,h⟩
 ·exact ⟨_,by simp only [Sem.run_bind,e0,binOp_neq]; rfl,h⟩
 ·exact ⟨_,by simp only [Sem.run_bind,e0,binOp_lss]; rfl,h⟩
 ·exact ⟨_,by simp only [Sem.run_bind,e0,binOp_leq]; rfl,h⟩
 ·exact ⟨_,by simp only [Sem.run_bind,e0,binOp_gtr]; rfl,h⟩
 ·exact ⟨_,by simp only [Sem.run_bind,e0,binOp_geq]; rfl,h⟩
theorem FP {neg:Bool} {t:TypeId} {x y:Value} {b:Bool} (h:∀ d,(Op.equalIn (d+1) t x y).run P w = .ok b w)
    (hx:∀ k n,x ≠ .int k n) (hs:∀ s,x ≠ .string s) (hf:∀ k n,x ≠ .float k n) (hc:∀ k n m,x ≠ .complex k n m) :
    (binOp (if neg then .neq else .eql) t x y).run P w = .ok (.bool (xor neg b)) w:=by
 have h':(Op.equal t x y).run P w = .ok b w:=h 9999
 cases neg
 ·cases x <;> first | exact absurd rfl (hx _ _) | exact absurd rfl (hs _) | exact absurd rfl (hf _ _) | exact absurd rfl (hc _ _ _) | simp [binOp,h']
 ·cases x <;> first | exact absurd rfl (hx _ _) | exact absurd rfl (hs _) | exact absurd rfl (hf _ _) | exact absurd rfl (hc _ _ _) | simp [binOp,h']
theorem zR {neg:Bool} {t:TypeId} {xo yo:Operand} {x y:Value} {k:Value→Prop} (h:vR P neg t xo yo x y k) :
    ∃ v,(do eqGuard (if neg then .neq else .eql) t xo yo x y; binOp (if neg then .neq else .eql) t x y:Sem Value).run P w = .ok v w∧k v:=by
 have fin:∀ {b:Bool},(∀ d,(Op.equalIn (d+1) t x y).run P w = .ok b w)→(∀ k n,x ≠ .int k n)→(∀ s,x ≠ .string s)→(∀ k n,x ≠ .float k n)→(∀ k n m,x ≠ .complex k n m) →
     eqGuard (if neg then .neq else .eql) t xo yo x y=pure () →
     (do eqGuard (if neg then .neq else .eql) t xo yo x y; binOp (if neg then .neq else .eql) t x y:Sem Value).run P w = .ok (.bool (xor neg b)) w:=by
  intro b h1 h2 h3 h4 h5 h6
  rw [h6]
  simp only [Sem.run_bind,Sem.run_pure,Result.andThen_ok]
  exact FP h1 h2 h3 h4 h5
 unfold vR at h
 split at h
 ·obtain ⟨⟨hc,hi⟩,h⟩:=h
  unfold lZ at hi
  split at hi
  ·rename_i ms hu
   refine ⟨_,fin (b:=true) (fun d=>by simp [Op.equalIn,run_underlying hu]) (by simp) (by simp) (by simp) (by simp) ?_,h⟩
   cases xo <;> first
    | exact eqGuard_nil_constL ..
    | (cases yo <;> first
        | exact eqGuard_nil_constR ..
        | simp [ld] at hc)
  ·simp at hi
 ·obtain ⟨hi,h⟩:=h
  unfold lZ at hi
  split at hi
  ·rename_i ms hu
   refine ⟨_,fin (b:=false) (fun d=>by simp [Op.equalIn,run_underlying hu]) (by simp) (by simp) (by simp) (by simp) (eqGuard_nil_iface ..),by simpa using h⟩
  ·simp at hi
 ·obtain ⟨hi,h⟩:=h
  unfold lZ at hi
  split at hi
  ·rename_i ms hu
   refine ⟨_,fin (b:=false) (fun d=>by simp [Op.equalIn,run_underlying hu]) (by simp) (by simp) (by simp) (by simp) (eqGuard_at_iface ..),by simpa using h⟩
  ·simp at hi
 ·rename_i a b
  obtain ⟨hi,h⟩:=h
  refine ⟨_,fin (b:=a == b) ?_ (by simp) (by simp) (by simp) (by simp) (eqGuard_at_bool ..),h⟩
  intro d; simp [Op.equalIn,run_underlying hi]
 ·rename_i b
  obtain ⟨hi,h⟩:=h
  split at hi
  ·rename_i hu
   refine ⟨_,fin (b:=b.isNone) ?_ (by simp) (by simp) (by simp) (by simp) (eqGuard_at_pointer ..),h⟩
   intro d; simp [Op.equalIn,run_underlying hu]
  ·simp at hi
 ·rename_i a
  obtain ⟨hi,h⟩:=h
  split at hi
  ·rename_i hu
   refine ⟨_,fin (b:=false) ?_ (by simp) (by simp) (by simp) (by simp) (eqGuard_at_pointer ..),by simpa using h⟩
   intro d; simp [Op.equalIn,run_underlying hu]
  ·simp at hi
 ·rename_i l c b l' c'
  obtain ⟨hi,h⟩:=h
  split at hi
  ·rename_i hu
   refine ⟨_,fin (b:=b.isNone) ?_ (by simp) (by simp) (by simp) (by simp) (eqGuard_at_slice ..),h⟩
   intro d; simp [Op.equalIn,run_underlying hu]
  ·simp at hi
 ·obtain ⟨hi,h⟩:=h
  split at hi
  ·rename_i hu
   refine ⟨_,fin (b:=false) ?_ (by simp) (by simp) (by simp) (by simp) (eqGuard_at_slice ..),by simpa using h⟩
   intro d; simp [Op.equalIn,run_underlying hu]
  ·simp at hi
 ·obtain ⟨r,h1,h2⟩:=h
  exact ⟨_,h1 w,h2⟩
 ·exact h.elim
theorem CD {op:BinOp} {t:TypeId} {xo yo:Operand} {a b:ByteArray} {k:Value→Prop} (h:jy op a b k) :
    ∃ v,(do eqGuard op t xo yo (.string a) (.string b); binOp op t (.string a) (.string b):Sem Value).run P w = .ok v w∧k v:=by
 have e0:∀ op,eqGuard op t xo yo (.string a) (.string b)=pure ():=fun op=>eqGuard_at_string ..
 cases op <;> first | exact h.elim | skip
 all_goals exact ⟨_,by simp only [Sem.run_bind,e0]; rfl,h⟩
theorem CE {op:BinOp} {t:TypeId} {xo yo:Operand} {x y:Value} {k:Value→Prop} (h:dC P op t xo yo x y k) :
    ∃ v,(do eqGuard op t xo yo x y; binOp op t x y:Sem Value).run P w = .ok v w∧k v:=by
 unfold dC at h
 split at h
 ·rename_i kd a kd' b
  split at h
  ·unfold ki at h
   split at h
   ·obtain ⟨hb,h⟩:=h
    exact ⟨_,by simp only [Sem.run_bind,eqGuard_shl,binOp_shl,Op.shift,if_neg (Int.not_lt.2 hb)]; rfl,h⟩
   ·obtain ⟨hb,h⟩:=h
    exact ⟨_,by simp only [Sem.run_bind,eqGuard_shr,binOp_shr,Op.shift,if_neg (Int.not_lt.2 hb)]; rfl,h⟩
   ·exact h.elim
  ·split at h
   ·subst_vars
    exact CC h
   ·exact h.elim
 ·exact CD h
 ·split at h
  ·exact zR (neg:=false) h
  ·exact zR (neg:=true) h
  ·exact h.elim
theorem vg {x:Operand} {e:dy} {o:Oper} (ho:o.op = .nilCheck x) {k:Value→Prop} (h:qZ (ev e x) k):∃ v,(execOp (ev e) o).run P w = .ok (.value v) w∧k v:=by
 unfold qZ at h
 split at h <;> first
  | exact h.elim
  | (rename_i hx; exact ⟨_,by simp only [execOp,ho,hx]; rfl,h⟩)
theorem CF {ats:Array TypeId} {ty:TypeId} {args:Array Value} {k:Value→Prop} (h:nq P ats[0]? args[0]? k):∃ v,(Builtin.len_ ats ty args).run P w = .ok v w∧k v:=by
 unfold nq at h
 split at h
 ·rename_i el n c hu hx
  obtain ⟨t,ht,hu⟩:=Option.bind_eq_some_iff.1 hu
  refine ⟨_,?_,h⟩
  simp [Builtin.len_,ht,hx,run_underlying hu,goInt]
 ·rename_i s hu hx
  obtain ⟨t,ht,hu⟩:=Option.bind_eq_some_iff.1 hu
  refine ⟨_,?_,h⟩
  simp [Builtin.len_,ht,hx,run_underlying hu,goInt]
 ·exact h.elim
theorem CG {ats:Array TypeId} {ty:TypeId} {args:Array Value} {k:Value→Prop} (h:rE P ats[0]? args[0]? k):∃ v,(Builtin.cap_ ats ty args).run P w = .ok v w∧k v:=by
 unfold rE at h
 split at h
 ·rename_i el n c hu hx
  obtain ⟨t,ht,hu⟩:=Option.bind_eq_some_iff.1 hu
  refine ⟨_,?_,h⟩
  simp [Builtin.cap_,ht,hx,run_underlying hu,goInt]
 ·exact h.elim
theorem iQ {o:Option Value} {d:Int} {k:Int→Prop} (h:gO o d k):∃ i,k i∧(o=none∧i=d∨∃ kd,o=some (.int kd i)):=by
 unfold gO at h
 split at h
 ·exact ⟨_,h,.inl ⟨rfl,rfl⟩⟩
 ·exact ⟨_,h,.inr ⟨_,rfl⟩⟩
 ·exact h.elim
theorem fA {kd:IntKind} {i:Int} {y:Nat} {code:BoundsCode} (h:0≤i∧i≤y):(Instr.sliceBound (.int kd i) y code).run P w = .ok i.toNat w:=by
 simp [Instr.sliceBound,asIntOf,h]
theorem lM {b:Bool} {len cap:Nat} {lo hi mx:Option Value} {l h m:Int} (hl:lo=none∧l=0∨∃ kd,lo=some (.int kd l)) (hh:hi=none∧h=len∨∃ kd,hi=some (.int kd h))
    (hm:mx=none∧m=cap∨∃ kd,mx=some (.int kd m)) (h1:0≤l∧l≤h) (h2:h≤m∧m≤cap) (h3:mx.isSome=true→hi.isSome=true) :
    (Instr.sliceBounds b len cap lo hi mx).run P w = .ok (l.toNat,h.toNat,m.toNat) w:=by
 have e1:∀ y:Int,0≤y→((y.toNat:Nat):Int)=y:=fun y hy=>Int.toNat_of_nonneg hy
 rcases hm with ⟨rfl,rfl⟩ | ⟨km,rfl⟩
 ·rcases hh with ⟨rfl,rfl⟩ | ⟨kh,rfl⟩
  ·rcases hl with ⟨rfl,rfl⟩ | ⟨kl,rfl⟩
   ·simp [Instr.sliceBounds]
   ·simp only [Instr.sliceBounds,Sem.run_bind,Sem.run_pure,Result.andThen_ok,fA (P:=P) (w:=w) (kd:=kl) (y:=len) h1]
    simp
  ·have hb:0≤h∧h≤(cap:Int):=⟨by omega,h2.1⟩
   simp only [Instr.sliceBounds,Sem.run_bind,Sem.run_pure,Result.andThen_ok,fA (P:=P) (w:=w) (kd:=kh) (y:=cap) hb]
   rcases hl with ⟨rfl,rfl⟩ | ⟨kl,rfl⟩
   ·simp
   ·have hc:0≤l∧l≤((h.toNat:Nat):Int):=⟨h1.1,by rw [e1 _ hb.1]; exact h1.2⟩
    simp [fA hc]
 ·rcases hh with ⟨rfl,rfl⟩ | ⟨kh,rfl⟩
  ·simp at h3
  ·have ha:0≤m∧m≤(cap:Int):=⟨by omega,h2.2⟩
   have hb:0≤h∧h≤((m.toNat:Nat):Int):=⟨by omega,by rw [e1 _ ha.1]; exact h2.1⟩
   simp only [Instr.sliceBounds,Sem.run_bind,Result.andThen_ok,fA (P:=P) (w:=w) (kd:=km) (y:=cap) ha,fA (P:=P) (w:=w) (kd:=kh) hb]
   rcases hl with ⟨rfl,rfl⟩ | ⟨kl,rfl⟩
   ·simp
   ·have hc:0≤l∧l≤((h.toNat:Nat):Int):=⟨h1.1,by rw [e1 _ hb.1]; exact h1.2⟩
    simp [fA hc]
theorem yH {t:TypeId} {x:Value} {lo hi mx:Option Value} {k:Value→Prop} (h:de P t x lo hi mx k):∃ v,(Instr.sliceAt t x lo hi mx).run P w = .ok v w∧k v:=by
 unfold de at h
 split at h
 ·rename_i el a len cap hu
  split at h
  ·rename_i n hn
   obtain ⟨m,h,hm⟩:=iQ h
   obtain ⟨hh,h,hhi⟩:=iQ h
   obtain ⟨l,h,hl⟩:=iQ h
   obtain ⟨⟨h1,h2,h3⟩,h⟩:=h
   refine ⟨_,?_,h⟩
   have e:(m=l)↔(m.toNat=l.toNat):=by omega
   simp only [Instr.sliceAt,Sem.run_bind,run_underlying hu,Result.andThen_ok,Instr.slice,lM hl hhi hm h1 h2 h3,fq hn,Sem.run_pure,e]
  ·exact h.elim
 ·rename_i len el a hu
  split at h
  ·rename_i n hn
   obtain ⟨m,h,hm⟩:=iQ h
   obtain ⟨hh,h,hhi⟩:=iQ h
   obtain ⟨l,h,hl⟩:=iQ h
   obtain ⟨⟨h1,h2,h3⟩,h⟩:=h
   refine ⟨_,?_,h⟩
   have e:(m=l)↔(m.toNat=l.toNat):=by omega
   simp only [Instr.sliceAt,Instr.sureAddr,Sem.run_bind,run_underlying hu,Result.andThen_ok,Sem.run_pure,lM hl hhi hm h1 h2 h3,fq hn,e]
  ·exact h.elim
 ·exact h.elim
theorem CH {fs:List Field} {l:List (Nat × Nat)} (h:(fs.mapM fun f=>(vQ P f.type).map fun s=>(f.offset,s))=some l) :
    (fs.mapM fun f=>(do pure (f.offset,← sizeOf f.type):Sem (Nat × Nat))).run P w = .ok l w:=by
 induction fs generalizing l with
 | nil=>simp only [List.mapM_nil,Option.pure_def,aL] at h; subst h; simp
 | cons f fs ih =>
  simp only [List.mapM_cons,Option.bind_eq_bind,Option.pure_def,Option.bind_eq_some_iff] at h
  obtain ⟨x,hx,l',hl',h⟩:=h
  obtain ⟨n,hn,rfl⟩:=Option.map_eq_some_iff.1 hx
  simp only [aL] at h
  subst h
  simp only [List.mapM_cons,Sem.run_bind,fq hn,Result.andThen_ok,Sem.run_pure,ih hl']
theorem yI {t:TypeId} {parts:Array (Nat × Value)} {k:Value→Prop} (h:cg P t parts k):∃ v,(Instr.build t parts).run P w = .ok v w∧k v:=by
 unfold cg at h
 split at h
 ·rename_i pl z hp hz
  split at h
  ·rename_i cells hf
   refine ⟨_,?_,h⟩
   obtain ⟨i,hi,hz⟩:=Option.bind_eq_some_iff.1 hz
   unfold dQ at hp
   split at hp
   ·rename_i fs hu
    have hm:(fs.mapM fun f=>(do pure (f.offset,← sizeOf f.type):Sem (Nat × Nat))).run P w = .ok pl w:=by
     rw [Array.mapM_eq_mapM_toList] at hp ⊢
     simp only [Option.map_eq_map,Option.map_eq_some_iff] at hp
     obtain ⟨l,hl,rfl⟩:=hp
     simp only [Sem.run_map,CH hl,Result.andThen_ok]
    simp only [Instr.build,Sem.run_bind,zeroValue,typeInfo,run_program,hi,hz,Result.andThen_ok,Sem.run_pure,run_underlying hu,hm,hf]
   ·simp at hp
  ·exact h.elim
 ·exact h.elim
theorem qB:∀ (vs:List Value) (l:List UInt8) (acc:ByteArray),gj vs=some l →
    (forIn vs acc fun c s=>(do
     match c with
     | .int .u8 n=>pure (ForInStep.yield (s.push (UInt8.ofNat n.toNat)))
     | _=>do
      stuck "bytesToString: byte expected"
      pure (ForInStep.yield s):Sem (ForInStep ByteArray))).run P w = .ok ⟨acc.data++l.toArray⟩ w
 | [],l,acc,h=>by simp only [gj,aL] at h; subst h; simp
 | v :: vs,l,acc,h=>by
  obtain ⟨n,rfl⟩:∃ n,v = .int .u8 n:=by
   unfold gj at h
   split at h
   ·simp_all
   ·rename_i heq; exact ⟨_,(List.cons.inj heq).1⟩
   ·simp at h
  simp only [gj] at h
  obtain ⟨l',hl',rfl⟩:=Option.map_eq_some_iff.1 h
  simp only [List.forIn_cons,Sem.run_bind,Sem.run_pure,Result.andThen_ok,qB vs l' _ hl']
  congr 2
  simp [ByteArray.push]
theorem vh {x:Value} {k:Value→Prop} (h:fh w x k):∃ v,(Conv.bytesToString x).run P w = .ok v w∧k v:=by
 unfold fh at h
 split at h
 ·exact ⟨_,rfl,h⟩
 ·rename_i a len cap
  obtain ⟨vs,hr,hk⟩:=pN (P:=P) len 0 #[] h
  split at hk
  ·rename_i l hl
   refine ⟨_,?_,hk⟩
   have h2:=qB (P:=P) (w:=w) vs l ByteArray.empty hl
   simp only [Conv.bytesToString,Sem.run_bind,loadCells,hr,Result.andThen_ok]
   simp only [Array.empty_append,List.forIn_toArray]
   have e:(⟨ByteArray.empty.data++l.toArray⟩:ByteArray)=⟨l.toArray⟩:=by
    show (⟨#[]++l.toArray⟩:ByteArray)=_
    rw [Array.empty_append]
   rw [e] at h2
   exact (congrArg (fun r:Result ByteArray=>r.andThen fun a w'=>Sem.run P (pure (Value.string a)) w') h2).trans rfl
  ·exact hk.elim
 ·exact h.elim
theorem vi {s d e:TypeId} {x:Value} {k:Value→Prop} (hs:P.underlying s=some (.slice e)) (hd:P.underlying d=some .string) (he:P.underlying e=some (.int .u8))
    (h:fh w x k):∃ v,(convert s d x).run P w = .ok v w∧k v:=by
 obtain ⟨v,hr,hk⟩:=vh (P:=P) h
 refine ⟨v,?_,hk⟩
 have hx:(∃ a l c,x = .slice a l c):=by
  unfold fh at h; split at h <;> first | exact ⟨_,_,_,rfl⟩ | exact h.elim
 obtain ⟨a,l,c,rfl⟩:=hx
 simp [convert,run_underlying hs,run_underlying hd,run_underlying he,hr]
theorem AW {s d:TypeId} {x:Value} {k:au} (h:fJ P s d x k w):∃ v w',(convert s d x).run P w = .ok v w'∧k v w':=by
 unfold fJ at h
 split at h
 ·rename_i k1 kd k2 n hs hd
  refine ⟨_,w,?_,h⟩
  simp [convert,run_underlying hs,run_underlying hd,Conv.intToInt]
 ·rename_i e hs hd
  obtain ⟨v,hr,hk⟩:=vi (P:=P) hs hd h.1 h.2
  exact ⟨v,w,hr,hk⟩
 ·rename_i str hs hd
  exact ⟨_,w,by simp [convert,run_underlying hs,run_underlying hd],h⟩
 ·obtain ⟨v,w',hr,hk⟩:=jT h
  exact ⟨v,w',hr,hk⟩
 ·exact h.elim
theorem uK {o:Oper} {e:dy} {k:au} (h:jA P o e k w):eo P k ((execOp (ev e) o).run P w):=by
 obtain ⟨dst,op,type,pos,after,guard⟩:=o
 cases op <;> simp only [jA] at h <;> first | exact h.elim | skip
 case move x=>exact h
 case assign x=>exact h
 case pick c a b =>
  unfold rD at h
  split at h
  ·rename_i t hc
   simp only [execOp,hc,asBool,Sem.run_bind,Sem.run_pure,Result.andThen_ok,eo]
   exact h
  ·exact h.elim
 case alloc t =>
  obtain ⟨v,w',hr,hk⟩:=jT h
  simp only [execOp,eX hr,eo]; exact hk
 case box t x =>
  obtain ⟨v,w',hr,hk⟩:=jT h
  simp only [execOp,eX hr,eo]; exact hk
 case build t x =>
  obtain ⟨v,hr,hk⟩:=yI (w:=w) h
  simp only [execOp,eX hr,eo]; exact hk
 case buildSlice t n x =>
  obtain ⟨v,w',hr,hk⟩:=jT h
  simp only [execOp,eX hr,eo]; exact hk
 case load t a =>
  obtain ⟨v,hr,hk⟩:=tQ h
  simp only [execOp,eX hr,eo]; exact hk
 case store t a x =>
  obtain ⟨w',hr,hk⟩:=yF h
  simp only [execOp,Sem.run_bind,hr,Result.andThen_ok,Sem.run_pure,eo]; exact hk
 case nilCheck x =>
  obtain ⟨v,hr,hk⟩:=vg (P:=P) (w:=w) (o:={ dst,op := .nilCheck x,type,pos,after,guard }) rfl h
  rw [hr]; exact hk
 case binOp op t x y yt =>
  obtain ⟨v,hr,hk⟩:=CE (w:=w) h
  simp only [execOp,eX hr,eo]; exact hk
 case unOp op t x =>
  unfold Ex at h
  split at h
  ·rename_i b hb
   simp only [execOp,hb,eX (s:=Op.unary .not (.bool b)) (v := .bool !b) rfl,eo]; exact h
  ·rename_i kd n hb
   simp only [execOp,hb,eX (s:=Op.unary .neg (.int kd n)) (v := .int kd (kd.wrap (0 - n))) rfl,eo]; exact h
  ·exact h.elim
 case convert s d x =>
  obtain ⟨v,w',hr,hk⟩:=AW h
  simp only [execOp,eX hr,eo]; exact hk
 case makeInterface t x =>
  unfold dL at h
  have hr:(Instr.makeInterface t (ev e x)).run P w = .ok (.iface t (ev e x)) w∧k (.iface t (ev e x)) w:=by
   cases hu:P.underlying t with
   | none=>simp [hu] at h
   | some d =>
    simp only [Instr.makeInterface,Sem.run_bind,run_underlying hu,Result.andThen_ok]
    cases d <;> simp_all
  simp only [execOp,eX hr.1,eo]; exact hr.2
 case makeFunc fn a b=>simp only [execOp]; exact h
 case makeSlice t l c =>
  obtain ⟨v,w',hr,hk⟩:=jT h
  simp only [execOp,eX hr,eo]; exact hk
 case slice t x lo hi mx =>
  obtain ⟨v,hr,hk⟩:=yH (w:=w) h
  simp only [execOp,eX hr,eo]; exact hk
 case fieldAddr s x f =>
  unfold fm at h
  split at h
  ·rename_i off a ho hx
   simp only [execOp,hx,eX (CB ho a),eo]; exact h
  ·exact h.elim
 case field s x f =>
  unfold pM at h
  split at h
  ·rename_i fs cs hu hx
   split at h
   ·rename_i fd hf
    obtain ⟨v,hr,hk⟩:=tR (P:=P) (w:=w) h
    have:(Instr.field s (.agg cs) f).run P w = .ok v w:=by simp [Instr.field,run_underlying hu,hf,asAgg,hr]
    simp only [execOp,hx,eX this,eo]; exact hk
   ·exact h.elim
  ·exact h.elim
 case indexAddr t x i =>
  unfold eg at h
  split at h
  ·rename_i n a len cap kd j hs hx hi
   obtain ⟨hb,hk⟩:=h
   obtain ⟨el,hu,hz⟩:=zQ hs
   have:(Instr.indexAt t (.slice (some a) len cap) (.int kd j)).run P w = .ok (.pointer (some (a.add (j.toNat * n)))) w:=by
    simp only [Instr.indexAt,asIntOf,Sem.run_bind,Sem.run_pure,Result.andThen_ok,run_underlying hu]
    simp [hb,fq hz]
   simp only [execOp,hx,hi,eX this,eo]; exact hk
  ·exact h.elim
 case index t x i =>
  unfold kZ at h
  split at h
  ·rename_i s kd j hu hx hi
   obtain ⟨⟨h0,h1⟩,hk⟩:=h
   have hlt:j.toNat < s.size:=by omega
   have:(Instr.index t (.string s) (.int kd j)).run P w = .ok (.int .u8 (s[j.toNat]?.getD 0).toNat) w:=by
    simp only [Instr.index,asIntOf,Sem.run_bind,Sem.run_pure,Result.andThen_ok,run_underlying hu]
    rw [if_pos h0]
    cases hg:s[j.toNat]? with
    | none=>simp [hlt] at hg
    | some b=>simp
   simp only [execOp,hx,hi,eX this,eo]; exact hk
  ·exact h.elim
 case extract x i =>
  unfold il at h
  split at h
  ·rename_i vs hx
   obtain ⟨v,hv,hk⟩:=nt.1 h
   have:(Instr.extract (.tuple vs) i).run P w = .ok v w:=by simp [Instr.extract,hv]
   simp only [execOp,hx,eX this,eo]; exact hk
  ·exact h.elim
 case call c =>
  obtain ⟨callee,args,ats⟩:=c
  cases callee with
  | value f =>
   simp only at h
   unfold lL at h
   split at h
   ·rename_i g first cap hf
    split at h
    ·rename_i he
     simp only [execOp,resolve,hf,Deferred.ofValue,Sem.run_bind,Sem.run_pure,Result.andThen_ok,invoke,nu he,eo]; exact h
    ·split at h
     ·rename_i s hs
      obtain ⟨v,w',hr,hk⟩:=jT h
      simp only [execOp,resolve,hf,Deferred.ofValue,Sem.run_bind,Sem.run_pure,Result.andThen_ok,invoke,yG hs hr,eo]; exact hk
     ·exact h.elim
   ·exact h.elim
  | invoke r m =>
   simp only at h
   unfold cn at h
   split at h
   ·rename_i t v hr
    split at h
    ·rename_i f hm
     obtain ⟨he,hk⟩:=h
     simp only [execOp,resolve,hr,Sem.run_bind,Sem.run_pure,Result.andThen_ok,invoke,eo]
     have h0:(#[Value.iface t v]++args.map (ev e))[0]? = some (.iface t v):=by
      rw [Array.getElem?_append_left (by simp)]; rfl
     have h1:(#[Value.iface t v]++args.map (ev e)).extract 1 (#[Value.iface t v]++args.map (ev e)).size=args.map (ev e):=by
      apply Array.ext' ; simp [fV]
     obtain ⟨n,hn⟩:∃ n,P.types.size+Made.depth=n+1:=⟨P.types.size+Made.depth - 1,by unfold Made.depth; omega⟩
     simp only [h0,h1,callMethod,Sem.run_bind,run_program,Result.andThen_ok,hn,AV hm,nu he]
     exact hk
    ·exact h.elim
   ·exact h.elim
  | builtin b =>
   simp only at h
   unfold hJ at h
   split at h
   ·obtain ⟨v,hr,hk⟩:=CF (w:=w) (ty:=type) h
    simp only [execOp,resolve,Sem.run_bind,Sem.run_pure,Result.andThen_ok,invoke,builtin,hr,eo]; exact hk
   ·obtain ⟨v,hr,hk⟩:=CG (w:=w) (ty:=type) h
    simp only [execOp,resolve,Sem.run_bind,Sem.run_pure,Result.andThen_ok,invoke,builtin,hr,eo]; exact hk
   all_goals first
    | exact h.elim
    | (obtain ⟨v,w',hr,hk⟩:=jT h
       simp only [execOp,resolve,Sem.run_bind,Sem.run_pure,Result.andThen_ok,invoke,builtin,hr,eo]; exact hk)
end sound2
def fK (a:Act):dy:=fun i=>a.tmps.getD i undef
def jf (N:Nat) (o:Oper):Bool:=match o.dst with
 | some d=>Nat.blt d N
 | none=>true
def eC (N:Nat):Code→Bool
 | .region _ ops _=>ops.toList.all (jf N)
 | .seq a b=>eC N a && eC N b
 | .cond _ a b=>eC N a && eC N b
 | .block _ a=>eC N a
 | .loop a=>eC N a
 | _=>true
def rI (N:Nat) (Q:Exit→dy→World→Prop):Exit→Act→World→Prop
 | .panic _,_,_=>False
 | ex,a,w=>a.tmps.size=N∧a.defers=[]∧Q ex (fK a) w
theorem lh (a:Act):ev (fK a)=a.eval:=by
 funext x
 cases x <;> rfl
theorem iR {N:Nat} {a:Act} (o:Oper) (v:Value) (h:jf N o=true) (hs:a.tmps.size=N):fK (a.put o.dst v)=put (fK a) o.dst v:=by
 funext i
 unfold jf at h
 cases hd:o.dst with
 | none=>rfl
 | some d =>
  simp only [hd,Nat.blt_eq] at h
  simp only [fK,Act.put,put]
  by_cases hi:i=d
  ·subst hi; simp [hs,h]
  ·simp only [if_neg hi,Array.getD_eq_getD_getElem?]
   rw [Array.getElem?_setIfInBounds_ne (Ne.symm hi)]
theorem jU {a:Act} (d:Option Tmp) (v:Value):(a.put d v).tmps.size=a.tmps.size:=by cases d <;> simp [Act.put]
theorem gh {a:Act} (d:Option Tmp) (v:Value):(a.put d v).defers=a.defers:=by cases d <;> rfl
theorem gm {N:Nat} {ops:Array Oper} {a:Act} {o:Oper} (hs:a.tmps.size=N) (hops:ops.toList.all (jf N)=true) :
    xz ops (fK a) o.guard=Region.wanted o (yielded ops a.tmps):=by
 unfold xz Region.wanted yielded
 cases o.guard with
 | none=>rfl
 | some g =>
  obtain ⟨j,b⟩:=g
  simp only
  cases hj:ops[j]? with
  | none=>simp
  | some oj =>
   simp only [Option.bind_some]
   cases hd:oj.dst with
   | none=>simp
   | some d =>
    have hmem:oj ∈ ops.toList:=by
     rw [← Array.getElem?_toList] at hj
     exact aK hj
    have hlt:d < N:=by
     have:=List.all_eq_true.1 hops oj hmem
     simpa [jf,hd] using this
    have hg:a.tmps[d]? = some (fK a d):=by
     simp only [fK,Array.getD_eq_getD_getElem?]
     rw [Array.getElem?_eq_getElem (Nat.lt_of_lt_of_eq hlt hs.symm)]; rfl
    simp only [Option.bind_some,hg]
    cases fK a d <;> simp
section reg
variable {P:Program} {N:Nat}
theorem jV {ops:Array Oper} (hops:ops.toList.all (jf N)=true) {Q:Exit→dy→World→Prop}:∀ (l:List Oper),l.all (jf N)=true →
    ∀ (a:Act) (w:World),a.tmps.size=N→a.defers=[]→uH P ops l (fK a) (fun e w=>Q .normal e w) w→wpList P ops (rI N Q) l a w
 | [],_,a,w,hs,hd,h=>⟨hs,hd,h⟩
 | o :: rest,hl,a,w,hs,hd,h=>by
  simp only [List.all_cons,bY] at hl
  unfold uH at h
  unfold wpList
  rw [gm hs hops] at h
  split
  ·rename_i hw
   rw [if_pos hw] at h
   refine .inl ?_
   have h1:=uK h
   rw [lh] at h1
   unfold Oper.wp Oper.upon
   unfold eo at h1
   split at h1
   ·rename_i v w' hr
    rw [hr]
    exact jV hops rest hl.2 _ _ (by rw [jU,hs]) (by rw [gh,hd]) (by rw [iR o v hl.1 hs]; exact h1)
   ·rename_i w' hr
    rw [hr]
    exact jV hops rest hl.2 _ _ (by rw [jU,hs]) (by rw [gh,hd]) (by rw [iR o undef hl.1 hs]; exact h1)
   ·rename_i f args w' hr
    rw [hr]
    refine Calls.mono h1 ?_
    rintro en w'' ⟨v,rfl,hk⟩
    exact jV hops rest hl.2 _ _ (by rw [jU,hs]) (by rw [gh,hd]) (by rw [iR o v hl.1 hs]; exact hk)
   ·exact h1.elim
  ·rename_i hw
   rw [if_neg hw] at h
   exact jV hops rest hl.2 _ _ (by rw [jU,hs]) (by rw [gh,hd]) (by rw [iR o undef hl.1 hs]; exact h)
end reg
def tS (K:dy→World→Prop) (Q:Exit→dy→World→Prop):Exit→dy→World→Prop
 | .normal,e,w=>K e w
 | x,e,w=>Q x e w
def nP (id:Nat) (Q:Exit→dy→World→Prop):Exit→dy→World→Prop
 | .exit j,e,w=>if j=id then Q .normal e w else Q (.exit j) e w
 | x,e,w=>Q x e w
def HD (N:Nat) (P:Program) (c:Code) (Q:Exit→dy→World→Prop) (e:dy) (w:World):Prop :=
 ∀ a:Act,a.tmps.size=N→a.defers=[]→fK a=e→c.wp P (rI N Q) a w
def zS (x:Value) (p q:Prop):Prop :=
 match x with
 | .bool true=>p
 | .bool false=>q
 | _=>False
def WP (N:Nat) (P:Program):Code→(Exit→dy→World→Prop)→dy→World→Prop
 | .skip,Q,e,w=>Q .normal e w
 | .region _ ops false,Q,e,w=>uH P ops ops.toList e (fun e w=>Q .normal e w) w
 | .region id ops true,Q,e,w=>HD N P (.region id ops true) Q e w
 | .seq a b,Q,e,w=>WP N P a (tS (fun e w=>WP N P b Q e w) Q) e w
 | .cond c a b,Q,e,w=>zS (ev e c) (WP N P a Q e w) (WP N P b Q e w)
 | .block id a,Q,e,w=>WP N P a (nP id Q) e w
 | .loop a,Q,e,w=>HD N P (.loop a) Q e w
 | .exit id,Q,e,w=>Q (.exit id) e w
 | .ret,Q,e,w=>Q .ret e w
 | _,_,_,_=>False
theorem tT {N:Nat} {K:dy→World→Prop} {Q:Exit→dy→World→Prop} {ex:Exit} {a:Act} {w:World} (h:rI N (tS K Q) ex a w) :
    Exit.then (fun a w=>a.tmps.size=N∧a.defers=[]∧K (fK a) w) (rI N Q) ex a w:=by
 cases ex <;> exact h
theorem yJ {N:Nat} {id:Nat} {Q:Exit→dy→World→Prop} {ex:Exit} {a:Act} {w:World} (h:rI N (nP id Q) ex a w) :
    Exit.inBlock id (rI N Q) ex a w:=by
 cases ex with
 | exit j =>
  obtain ⟨h1,h2,h3⟩:=h
  simp only [Exit.inBlock]
  simp only [nP] at h3
  split
  ·rename_i hj; rw [if_pos hj] at h3; exact ⟨h1,h2,h3⟩
  ·rename_i hj; rw [if_neg hj] at h3; exact ⟨h1,h2,h3⟩
 | _=>exact h
theorem nQ {N:Nat} {P:Program}:∀ (c:Code),eC N c=true→∀ (Q:Exit→dy→World→Prop) (e:dy) (w:World),WP N P c Q e w→HD N P c Q e w
 | .skip,_,Q,e,w,h=>fun a hs hd he=>wp_skip ⟨hs,hd,he ▸ h⟩
 | .region id ops false,hok,Q,e,w,h=>fun a hs hd he=>by
  subst he
  exact wp_region_list (jV hok _ hok a w hs hd h)
 | .region id ops true,_,Q,e,w,h=>h
 | .seq x y,hok,Q,e,w,h=>fun a hs hd he=>by
  simp only [eC,bY] at hok
  refine wp_seq (wp_mono (nQ x hok.1 _ e w h a hs hd he) fun ex a w hq => ?_)
  have:=tT hq
  cases ex <;> first
   | exact this
   | (obtain ⟨h1,h2,h3⟩:=this; exact nQ y hok.2 Q _ _ h3 _ h1 h2 rfl)
 | .cond c x y,hok,Q,e,w,h=>fun a hs hd he=>by
  simp only [eC,bY] at hok
  simp only [WP] at h
  subst he
  rw [lh] at h
  unfold zS at h
  split at h
  ·rename_i hc; exact wp_cond_true hc (nQ x hok.1 Q _ _ h _ hs hd rfl)
  ·rename_i hc; exact wp_cond_false hc (nQ y hok.2 Q _ _ h _ hs hd rfl)
  ·exact h.elim
 | .block id x,hok,Q,e,w,h=>fun a hs hd he =>
  wp_block (wp_mono (nQ x hok _ e w h a hs hd he) fun _ _ _ hq=>yJ hq)
 | .loop x,_,Q,e,w,h=>h
 | .exit id,_,Q,e,w,h=>fun a hs hd he=>wp_exit ⟨hs,hd,he ▸ h⟩
 | .ret,_,Q,e,w,h=>fun a hs hd he=>wp_ret ⟨hs,hd,he ▸ h⟩
 | .rangeFunc ..,_,_,_,_,h=>h.elim
 | .scope ..,_,_,_,_,h=>h.elim
 | .label ..,_,_,_,_,h=>h.elim
 | .goto ..,_,_,_,_,h=>h.elim
 | .refuse ..,_,_,_,_,h=>h.elim
def si (P:Program) (rs:List ResultVar) (e:dy) (k:au) (w:World):Prop :=
 match rs with
 | []=>k (.tuple #[]) w
 | [.tmp t]=>k (e t) w
 | [.cell a t]=>gQ P t (e a) k w
 | [.tmp t,.tmp u]=>k (.tuple #[e t,e u]) w
 | [.tmp t,.tmp u,.tmp v]=>k (.tuple #[e t,e u,e v]) w
 | _=>False
def HE (P:Program) (rs:List ResultVar) (k:au):Exit→dy→World→Prop
 | .normal,e,w=>si P rs e k w
 | .ret,e,w=>si P rs e k w
 | _,_,_=>False
def AX (args:Array Value):dy:=fun i=>args.getD i undef
theorem CI {P:Program} {fn:Func} {a:Act} {k:au} {w:World} (h:si P fn.results.toList (fK a) k w) :
    ∃ v,(results fn a.tmps).run P w = .ok v w∧k v w:=by
 unfold si at h
 split at h
 ·rename_i hr; exact ⟨_,results_none (Array.toList_inj.1 hr) ..,h⟩
 ·rename_i t hr; exact ⟨_,results_tmp (Array.toList_inj.1 hr) ..,h⟩
 ·rename_i t u hr
  replace hr:fn.results = #[.cell t u]:=Array.toList_inj.1 hr
  obtain ⟨v,hv,hk⟩:=tQ h
  refine ⟨v,?_,hk⟩
  unfold gQ at h
  split at h
  ·rename_i ad ha
   simp only [Instr.loadAt,ha,Instr.sureAddr,Sem.run_bind,Sem.run_pure,Result.andThen_ok] at hv
   have ha':a.tmps.getD t undef = .pointer (some ad):=ha
   simp only [results,hr]
   simp only [List.mapM_toArray,List.mapM_cons,List.mapM_nil,ha',asAddr]
   simp [hv]
  ·exact h.elim
 ·rename_i t u hr; exact ⟨_,results_tmp2 (Array.toList_inj.1 hr) ..,h⟩
 ·rename_i t u v hr
  replace hr:fn.results = #[.tmp t,.tmp u,.tmp v]:=Array.toList_inj.1 hr
  refine ⟨_,?_,h⟩
  simp [results,hr,fK]
 ·exact h.elim
theorem vj {P:Program} {f:FuncId} {fn:Func} {c:Code} {args:Array Value} {w:World} {k:au}
    (hf:P.funcs[f]? = some fn) (hb:fn.body=some c) (hok:eC fn.ntmps c=true) (hn:args.size≤fn.ntmps)
    (h:WP fn.ntmps P c (HE P fn.results.toList k) (AX args) w):aX P f args k w:=by
 refine calls_of_wp hf hb (wp_mono (nQ c hok _ _ _ h _ (by simp; omega) rfl ?_) ?_)
 ·funext i
  simp only [fK,AX,Array.getD_eq_getD_getElem?]
  by_cases hi:i < args.size
  ·rw [Array.getElem?_append_left hi]
  ·rw [Array.getElem?_append_right (by omega),Array.getElem?_eq_none (by omega:args.size≤i)]
   by_cases hj:i - args.size < fn.ntmps - args.size
   ·simp [hj]
   ·rw [Array.getElem?_eq_none (by simp; omega)]
 ·intro ex a w hl
  cases ex <;> first
   | exact hl.elim
   | exact hl.2.2.elim
   | (obtain ⟨hs,hd,hq⟩:=hl
      obtain ⟨v,hr,hk⟩:=CI hq
      exact ⟨hd,v,hr,v,rfl,hk⟩)
end Go.E
