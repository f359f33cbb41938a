/- Parts of the proof: E. -/
import Derived.Tactics2
import Derived.LoopTactic
import Derived.KernelRfl
set_option linter.all false
set_option maxRecDepth 10000
def aD := @Nat.le_refl
def aH := @Nat.lt_or_ge
def aC := @List.getElem?_eq_getElem
def aG := @Nat.lt_of_lt_of_le
def aO := @List.length_append
def aL := @List.mem_of_getElem?
def aJ := @Option.some.injEq
def aR := @List.mem_cons_self
def aT := @List.mem_singleton
def aM := @Nat.zero_le
def aN := @List.getElem?_eq_some_iff
def aq := @List.mem_append
def bK := @List.length_map
def ah := @List.length_eq_zero_iff
def aX := @List.length_cons
def aS := @List.getElem_mem
def aZ := @List.mem_cons_of_mem
def ai := @List.take_length
def aP := @Nat.le_trans
def aj := @List.getElem_of_mem
def ak := @List.length_singleton
def aa := @List.mem_cons
def bW := @List.flatMap_cons
def an := @Int.toNat_natCast
def bB := @List.append_nil
def bJ := @List.getElem?_append_right
def bj := @List.lt_irrefl
def bH := @List.length_take
def ay := @Nat.eq_zero_or_pos
def au := @Bool.eq_iff_iff
def cF := @List.map_append
def bb := @List.rel_of_pairwise_cons
def bE := @Nat.mul_le_mul_right
def cA := @List.flatMap_append
def ax := @List.getElem?_append_left
def eE := @List.append_assoc
def az := @Bool.and_eq_true
def bq := @Option.some.inj
def bX := @List.getElem?_map
def cM := @List.mem_map
def dF := @List.mem_flatMap
def bC := @List.mem_filter
def fS := @Nat.le_of_lt
def cx := @Nat.lt_irrefl
def cg := @Nat.lt_trichotomy
def bz := @List.length_filter_le
def dG := @List.mem_flatten
def bO := @Nat.lt_or_eq_of_le
def br := @List.length_set
def bL := @List.pairwise_iff_getElem
def aQ := @decide_eq_true
def aF := @decide_eq_false
def aI := @getElem!_pos
def aV := @Go.Value.slice.injEq
def cm := @Go.Value.int.injEq
def cC := @Go.Value.pointer.injEq
def eF := @List.map_map
def gU := @List.take_of_length_le
def cY := @List.drop_eq_getElem_cons
theorem gEl {α : Type} {l : List α} {i : Nat} (h : i < l.length) : ∃ x, l[i]? = some x := ⟨_, List.getElem?_eq_getElem h⟩
theorem sEq {a b : Option Go.Addr} {n m c d : Nat} (h : Go.Value.slice a n c = .slice b m d) : a = b ∧ c = d := by simp at h; exact ⟨h.1, h.2.2⟩
namespace Go.E
open Go
abbrev dS:=Nat→Value
def ev (e:dS):Operand→Value
 | .tmp t=>e t
 | .const v=>v
 | .global g => .pointer (some ⟨g,0,none⟩)
 | .func f => .func (.func f) #[] #[]
def put (e:dS) (d:Option Tmp) (v:Value):dS :=
 match d with
 | some d=>fun i=>if i=d then v else e i
 | none=>e
theorem z7 (e:dS) (d:Nat) (v:Value) (i:Nat):put e (some d) v i=if i=d then v else e i:=rfl
def gw (P:Program) (t:TypeId):Bool :=
 match P.underlying t with
 | some (.struct _) | some (.array ..) | none=>false
 | some _=>true
def te (P:Program) (t:TypeId):Bool :=
 match P.underlying t with
 | some (.struct _) | some (.array ..)=>true
 | _=>false
def tf (P:Program) (t:TypeId):Option Nat:=(P.info? t).map (·.size)
def yL (P:Program) (s:TypeId) (f:Nat):Option Nat :=
 match P.underlying s with
 | some (.struct fs)=>match fs[f]? with
   | some fd=>match tf P fd.type with
    | some (_+1)=>some fd.offset
    | _=>none
   | none=>none
 | _=>none
def z8 (P:Program) (t:TypeId):Option (List Value):=((P.info? t).bind (·.zero)).map (·.cells.toList)
def kP (P:Program) (t:TypeId):Option Nat :=
 match P.underlying t with
 | some (.slice e)=>tf P e
 | _=>none
def ly (o:Option Value) (k:Value→Prop):Prop :=
 match o with
 | some v=>k v
 | none=>False
def cN (c:Prop) (p:Prop):Prop:=c∧p
def jW (w:World) (a:Addr):(i n:Nat)→(List Value→Prop)→Prop
 | _,0,k=>k []
 | i,n+1,k=>ly (w.cell? (a.add i)) fun v=>jW w a (i+1) n fun vs=>k (v :: vs)
def Bp (o:Option Value) (fz:Bool) (v:Value) (p:Prop):Prop:=(o.isSome=true∧fz=false∧v.oneCell'=true)∧p
def nj:World→Addr→Nat→List Value→(World→Prop)→Prop
 | w,_,_,[],k=>k w
 | w,a,i,v :: vs,k=>Bp (w.cell? (a.add i)) (w.frozen? (a.add i)) v (nj (w.setCell (a.add i) v) a (i+1) vs k)
abbrev ae:=Value→World→Prop
def fW (P:Program) (t:TypeId) (x:Value) (k:ae) (w:World):Prop :=
 match x with
 | .pointer (some a) =>
   if gw P t then ly (w.cell? a) fun v=>k v w
   else if te P t then
    match tf P t with
    | some n=>jW w a 0 n fun vs=>k (.agg vs.toArray) w
    | none=>False
   else False
 | _=>False
def ij (P:Program) (t:TypeId) (x v:Value) (k:ae) (w:World):Prop :=
 match x with
 | .pointer (some a)=>cN (tf P t=some v.cells.size) (nj w a 0 v.cells.toList fun w'=>k undef w')
 | _=>False
def pD (x:Value) (k:Value→Prop):Prop :=
 match x with
 | .pointer (some a)=>k (.pointer (some a))
 | .func (.func f) a b=>k (.func (.func f) a b)
 | .iface t v=>k (.iface t v)
 | .slice a l c=>k (.slice a l c)
 | _=>False
def fF (off:Option Nat) (x:Value) (k:Value→Prop):Prop :=
 match off,x with
 | some o,.pointer (some a)=>k (.pointer (some (a.add o)))
 | _,_=>False
def kU (P:Program) (t:TypeId) (cs:Array Value) (off:Nat) (k:Value→Prop):Prop :=
 if te P t then
  match tf P t with
  | some n=>k (.agg (cs.extract off (off+n)))
  | none=>False
 else if gw P t then ly cs[off]? k else False
def jq (P:Program) (s:TypeId) (f:Nat) (x:Value) (k:Value→Prop):Prop :=
 match P.underlying s,x with
 | some (.struct fs),.agg cs=>match fs[f]? with
   | some fd=>kU P fd.type cs fd.offset k
   | none=>False
 | _,_=>False
def eH (P:Program) (t:TypeId) (x i:Value) (k:Value→Prop):Prop :=
 match kP P t,x,i with
 | some n,.slice (some a) len _,.int _ i=>cN (0≤i∧i < len) (k (.pointer (some (a.add (i.toNat * n)))))
 | _,_,_=>False
def jr (P:Program) (t:TypeId) (x i:Value) (k:Value→Prop):Prop :=
 match P.underlying t,x,i with
 | some .string,.string s,.int _ i=>cN (0≤i∧i < s.size) (k (.int .u8 (s[i.toNat]?.getD 0).toNat))
 | _,_,_=>False
def pX (x:Value) (k:Bool→Prop):Prop :=
 match x with
 | .bool b=>k b
 | _=>False
def H9:Value→Value→Option Bool
 | .bool a,.bool b=>some (a == b)
 | .int k a,.int k' b=>if k=k' then some (a == b) else none
 | .string a,.string b=>some (a.toList == b.toList)
 | .pointer none,.pointer b=>some b.isNone
 | .pointer (some _),.pointer none=>some false
 | .slice none _ _,.slice b _ _=>some b.isNone
 | .slice (some _) _ _,.slice none _ _=>some false
 | .iface _ _,.nilIface=>some false
 | .nilIface,.iface _ _=>some false
 | _,_=>none
def js (op:BinOp) (k:IntKind) (a b:Int) (q:Value→Prop):Prop :=
 match op with
 | .add=>q (.int k (k.wrap (a+b)))
 | .sub=>q (.int k (k.wrap (a - b)))
 | .mul=>q (.int k (k.wrap (a * b)))
 | .quo=>cN (b≠0) (q (.int k (k.wrap (a.tdiv b))))
 | .rem=>cN (b≠0) (q (.int k (a.tmod b)))
 | .and=>q (.int k (k.wrap (BitVec.ofInt k.bits a &&& BitVec.ofInt k.bits b).toNat))
 | .or=>q (.int k (k.wrap (BitVec.ofInt k.bits a ||| BitVec.ofInt k.bits b).toNat))
 | .xor=>q (.int k (k.wrap (BitVec.ofInt k.bits a ^^^ BitVec.ofInt k.bits b).toNat))
 | .eql=>q (.bool (a == b))
 | .neq=>q (.bool (a != b))
 | .lss=>q (.bool (a < b))
 | .leq=>q (.bool (a≤b))
 | .gtr=>q (.bool (a > b))
 | .geq=>q (.bool (a ≥ b))
 | _=>False
def jt (op:BinOp) (k:IntKind) (a b:Int) (q:Value→Prop):Prop :=
 match op with
 | .shl=>cN (0≤b) (q (.int k (k.wrap (a * 2 ^ (min b.toNat k.bits)))))
 | .shr=>cN (0≤b) (q (.int k (a.fdiv (2 ^ (min b.toNat k.bits)))))
 | _=>False
def jX (op:BinOp) (a b:ByteArray) (q:Value→Prop):Prop :=
 match op with
 | .eql=>q (.bool (a.toList == b.toList))
 | .neq=>q (.bool (!(a.toList == b.toList)))
 | .lss=>q (.bool (Op.bytesLess a.toList b.toList))
 | .leq=>q (.bool (Op.bytesLess a.toList b.toList || a.toList == b.toList))
 | .gtr=>q (.bool (!(Op.bytesLess a.toList b.toList || a.toList == b.toList)))
 | .geq=>q (.bool (!(Op.bytesLess a.toList b.toList)))
 | _=>False
def ee:BinOp→Bool
 | .shl | .shr=>true
 | _=>false
def kV (P:Program) (t:TypeId):Bool :=
 match P.underlying t with
 | some (.interface _)=>true
 | _=>false
def kW:Operand→Bool
 | .const _=>true
 | _=>false
def tg (P:Program) (neg:Bool) (t:TypeId) (xo yo:Operand) (x y:Value) (q:Value→Prop):Prop :=
 match x,y with
 | .nilIface,.nilIface=>cN ((kW xo || kW yo)=true∧kV P t=true) (q (.bool (xor neg true)))
 | .nilIface,.iface _ _=>cN (kV P t=true) (q (.bool neg))
 | .iface _ _,.nilIface=>cN (kV P t=true) (q (.bool neg))
 | .bool a,.bool b=>cN (P.underlying t=some .bool) (q (.bool (xor neg (a == b))))
 | .pointer none,.pointer b=>cN (P.underlying t matches some (.pointer _)) (q (.bool (xor neg b.isNone)))
 | .pointer (some _),.pointer none=>cN (P.underlying t matches some (.pointer _)) (q (.bool neg))
 | .slice none _ _,.slice b _ _=>cN (P.underlying t matches some (.slice _)) (q (.bool (xor neg b.isNone)))
 | .slice (some _) _ _,.slice none _ _=>cN (P.underlying t matches some (.slice _)) (q (.bool neg))
 | .agg a,.agg b=>∃ r:Bool,(∀ w,(do eqGuard (if neg then .neq else .eql) t xo yo (.agg a) (.agg b); binOp (if neg then .neq else .eql) t (.agg a) (.agg b):Sem Value).run P w = .ok (.bool r) w)∧q (.bool r)
 | _,_=>False
def cZ (P:Program) (op:BinOp) (t:TypeId) (xo yo:Operand) (x y:Value) (q:Value→Prop):Prop :=
 match x,y with
 | .int k a,.int k' b=>if ee op then jt op k a b q else if k=k' then js op k a b q else False
 | .string a,.string b=>jX op a b q
 | x,y=>match op with
  | .eql=>tg P false t xo yo x y q
  | .neq=>tg P true t xo yo x y q
  | _=>False
def C3 (op:UnOp) (x:Value) (q:Value→Prop):Prop :=
 match op,x with
 | .not,.bool b=>q (.bool !b)
 | .neg,.int k n=>q (.int k (k.wrap (0 - n)))
 | _,_=>False
def th (P:Program) (t:TypeId) (name:String):Option FuncId :=
 match (P.info? t).bind fun i=>i.methods.find? (·.name == name) with
 | some m=>if m.path.isEmpty then match m.func with
     | some (f,true)=>match P.underlying t with
       | some (.pointer _)=>some f
       | _=>none
     | some (f,false)=>match P.underlying t with
       | some (.pointer _) | none=>none
       | _=>some f
     | none=>none
  else none
 | none=>none
def gx (P:Program) (f:FuncId):Bool :=
 match P.funcs[f]? with
 | some fn => fn.body.isSome && fn.name != "runtime.NumGoroutine"
 | none=>false
def aU (P:Program) (f:FuncId) (args:Array Value) (k:ae) (w:World):Prop :=
 Calls P f args w fun en w'=>∃ v,en = .returned v∧k v w'
def dW (P:Program) (s:Sem Value) (k:ae) (w:World):Prop :=
 match s.run P w with
 | .ok v w'=>k v w'
 | .halt .. => False
def lK (P:Program) (f:FuncId):Option (Array Value→Sem Value) :=
 match P.funcs[f]? with
 | some fn => if fn.name == "runtime.NumGoroutine" || fn.body.isSome then none else
  match Extern.findNext fn with
  | some _=>none
  | none=>Extern.find fn
 | none=>none
def kG (P:Program) (fv:Value) (args:Array Value) (k:ae) (w:World):Prop :=
 match fv with
 | .func (.func f) first cap=>if gx P f then aU P f (first++args++cap) k w else
   match lK P f with
   | some s=>dW P (s (first++args++cap)) k w
   | none=>False
 | _=>False
def bm (P:Program) (recv:Value) (name:String) (args:Array Value) (k:ae) (w:World):Prop :=
 match recv with
 | .iface t v=>match th P t name with
  | some f=>cN (gx P f=true) (aU P f (#[v]++args) k w)
  | none=>False
 | _=>False
def mP (P:Program) (t:Option TypeId) (x:Option Value) (k:Value→Prop):Prop :=
 match t.bind P.underlying,x with
 | some (.slice _),some (.slice _ n _)=>k (.int .i64 n)
 | some .string,some (.string s)=>k (.int .i64 s.size)
 | _,_=>False
def pY (P:Program) (t:Option TypeId) (x:Option Value) (k:Value→Prop):Prop :=
 match t.bind P.underlying,x with
 | some (.slice _),some (.slice _ _ n)=>k (.int .i64 n)
 | _,_=>False
def fV (o:Option Value) (d:Int) (k:Int→Prop):Prop :=
 match o with
 | none=>k d
 | some (.int _ i)=>k i
 | some _=>False
def dR (P:Program) (t:TypeId) (x:Value) (lo hi mx:Option Value) (k:Value→Prop):Prop :=
 match P.underlying t,x with
 | some (.slice el),.slice a len cap=>match tf P el with
   | some n=>fV mx cap fun m=>fV hi len fun h=>fV lo 0 fun l=>cN ((0≤l∧l≤h)∧(h≤m∧m≤cap)∧(mx.isSome=true→hi.isSome=true))
       (k (.slice (if m=l then a else a.map (·.add (l.toNat * n))) (h.toNat - l.toNat) (m.toNat - l.toNat)))
   | none=>False
 | some (.array len el),.pointer (some a)=>match tf P el with
   | some n=>fV mx len fun m=>fV hi len fun h=>fV lo 0 fun l=>cN ((0≤l∧l≤h)∧(h≤m∧m≤len)∧(mx.isSome=true→hi.isSome=true))
       (k (.slice (some (if m=l then a else a.add (l.toNat * n))) (h.toNat - l.toNat) (m.toNat - l.toNat)))
   | none=>False
 | _,_=>False
def dI (P:Program) (t:TypeId):Option (Array (Nat × Nat)) :=
 match P.underlying t with
 | some (.struct fs)=>fs.mapM fun f=>(tf P f.type).map fun s=>(f.offset,s)
 | _=>none
def cO (P:Program) (t:TypeId) (parts:Array (Nat × Value)) (k:Value→Prop):Prop :=
 match dI P t,(P.info? t).bind (·.zero) with
 | some pl,some z=>match Instr.fill (pl[·]?) z.cells parts.toList with
  | some cells=>k (.agg cells)
  | none=>False
 | _,_=>False
def fq:List Value→Option (List UInt8)
 | []=>some []
 | .int .u8 n :: vs=>(fq vs).map (UInt8.ofNat n.toNat :: ·)
 | _ :: _=>none
def fA (w:World) (x:Value) (k:Value→Prop):Prop :=
 match x with
 | .slice none _ _=>k (.string .empty)
 | .slice (some a) len _=>jW w a 0 len fun vs=>match fq vs with
   | some l=>k (.string ⟨l.toArray⟩)
   | none=>False
 | _=>False
def eW (P:Program) (s d:TypeId) (x:Value) (k:ae) (w:World):Prop :=
 match P.underlying s,P.underlying d,x with
 | some (.int _),some (.int kd),.int _ n=>k (.int kd (kd.wrap n)) w
 | some (.slice e),some .string,x=>cN (P.underlying e=some (.int .u8)) (fA w x fun v=>k v w)
 | some .string,some .string,.string s=>k (.string s) w
 | some .string,some (.slice _),.string _=>dW P (convert s d x) k w
 | _,_,_=>False
def gD (P:Program) (b:Builtin) (ats:Array TypeId) (ty:TypeId) (args:Array Value) (k:ae) (w:World):Prop :=
 match b with
 | .len=>mP P ats[0]? args[0]? fun v=>k v w
 | .cap=>pY P ats[0]? args[0]? fun v=>k v w
 | .append=>dW P (Builtin.append_ ats ty args) k w
 | .copy=>dW P (Builtin.copy_ ats ty args) k w
 | .max=>dW P (Builtin.max_ ats ty args) k w
 | .min=>dW P (Builtin.min_ ats ty args) k w
 | _=>False
def iE (x:Value) (i:Nat) (k:Value→Prop):Prop :=
 match x with
 | .tuple vs=>ly vs[i]? k
 | _=>False
def cr (P:Program) (t:TypeId) (x:Value) (k:Value→Prop):Prop :=
 match P.underlying t with
 | some (.interface _) | none=>False
 | some _=>k (.iface t x)
def iF (P:Program) (o:Oper) (e:dS) (k:ae) (w:World):Prop :=
 match o.op with
 | .move x | .assign x=>k (ev e x) w
 | .pick c a b=>pX (ev e c) fun t=>k (if t then ev e a else ev e b) w
 | .load t a=>fW P t (ev e a) k w
 | .store t a x=>ij P t (ev e a) (ev e x) k w
 | .nilCheck x=>pD (ev e x) fun v=>k v w
 | .fieldAddr s x f=>fF (yL P s f) (ev e x) fun v=>k v w
 | .field s x f=>jq P s f (ev e x) fun v=>k v w
 | .indexAddr t x i=>eH P t (ev e x) (ev e i) fun v=>k v w
 | .index t x i=>jr P t (ev e x) (ev e i) fun v=>k v w
 | .binOp op t x y _=>cZ P op t x y (ev e x) (ev e y) fun v=>k v w
 | .unOp op _ x=>C3 op (ev e x) fun v=>k v w
 | .extract x i=>iE (ev e x) i fun v=>k v w
 | .makeInterface t x=>cr P t (ev e x) fun v=>k v w
 | .makeFunc fn first cap=>k (.func fn (first.map (ev e)) (cap.map (ev e))) w
 | .alloc t=>dW P (Instr.alloc t true (.tuple #[])) k w
 | .box t x=>dW P (Instr.box t (ev e x)) k w
 | .build t parts=>cO P t (parts.map fun (i,x)=>(i,ev e x)) fun v=>k v w
 | .buildSlice t n parts=>dW P (Instr.buildSlice t n (parts.map fun (i,x)=>(i,ev e x))) k w
 | .convert s d x=>eW P s d (ev e x) k w
 | .makeSlice t l c=>dW P (Instr.makeSlice t (ev e l) (ev e c)) k w
 | .slice t x lo hi mx=>dR P t (ev e x) (lo.map (ev e)) (hi.map (ev e)) (mx.map (ev e)) fun v=>k v w
 | .call c=>match c.callee with
  | .value f=>kG P (ev e f) (c.args.map (ev e)) k w
  | .invoke r m=>bm P (ev e r) m (c.args.map (ev e)) k w
  | .builtin b=>gD P b c.argTypes o.type (c.args.map (ev e)) k w
 | _=>False
def vy (ops:Array Oper) (e:dS) (g:Option (Nat × Bool)):Bool :=
 match g with
 | none=>true
 | some (j,b)=>match (ops[j]?).bind (·.dst) with
   | some d=>match e d with
    | .bool x=>x == b
    | _=>false
   | none=>false
def sO (P:Program) (ops:Array Oper):List Oper→dS→(dS→World→Prop)→World→Prop
 | [],e,k,w=>k e w
 | o :: rest,e,k,w=>if vy ops e o.guard then iF P o e (fun v w'=>sO P ops rest (put e o.dst v) k w') w else sO P ops rest (put e o.dst undef) k w
section mono
variable {P:Program} {w:World}
theorem lL {o:Option Value} {k k':Value→Prop} (h:∀ v,k v→k' v):ly o k→ly o k':=by
 cases o with
 | none=>exact id
 | some v=>exact h v
theorem dY {c p p':Prop} (h:p→p'):cN c p→cN c p':=And.imp id h
theorem lz {a:Addr}:∀ (n i:Nat) {k k':List Value→Prop},(∀ v,k v→k' v)→jW w a i n k→jW w a i n k'
 | 0,_,_,_,h=>h _
 | n+1,_,_,_,h=>lL fun _=>lz n _ fun _=>h _
theorem oK {a:Addr}:∀ (vs:List Value) (w:World) (i:Nat) {k k':World→Prop},(∀ w,k w→k' w)→nj w a i vs k→nj w a i vs k'
 | [],_,_,_,_,h=>h _
 | _ :: vs,_,_,_,_,h=>And.imp id (oK vs _ _ h)
theorem vz {t:TypeId} {x:Value} {k k':ae} (h:∀ v w,k v w→k' v w):fW P t x k w→fW P t x k' w:=by
 unfold fW
 split
 ·split
  ·exact lL fun _=>h _ _
  ·split
   ·split
    ·exact lz _ _ fun _=>h _ _
    ·exact id
   ·exact id
 ·exact id
theorem tj {t:TypeId} {x v:Value} {k k':ae} (h:∀ v w,k v w→k' v w):ij P t x v k w→ij P t x v k' w:=by
 unfold ij
 split
 ·exact dY (oK _ _ _ fun _=>h _ _)
 ·exact id
theorem yM {x:Value} {k k':Value→Prop} (h:∀ v,k v→k' v):pD x k→pD x k':=by
 unfold pD
 split <;> first | exact h _ | exact id
theorem pE {o:Option Nat} {x:Value} {k k':Value→Prop} (h:∀ v,k v→k' v):fF o x k→fF o x k':=by
 unfold fF
 split <;> first | exact h _ | exact id
theorem wA {t:TypeId} {cs:Array Value} {off:Nat} {k k':Value→Prop} (h:∀ v,k v→k' v):kU P t cs off k→kU P t cs off k':=by
 unfold kU
 split
 ·split
  ·exact h _
  ·exact id
 ·split
  ·exact lL h
  ·exact id
theorem tk {s:TypeId} {f:Nat} {x:Value} {k k':Value→Prop} (h:∀ v,k v→k' v):jq P s f x k→jq P s f x k':=by
 unfold jq
 split
 ·split
  ·exact wA h
  ·exact id
 ·exact id
theorem pG {t:TypeId} {x i:Value} {k k':Value→Prop} (h:∀ v,k v→k' v):eH P t x i k→eH P t x i k':=by
 unfold eH
 split
 ·exact dY (h _)
 ·exact id
theorem tm {t:TypeId} {x i:Value} {k k':Value→Prop} (h:∀ v,k v→k' v):jr P t x i k→jr P t x i k':=by
 unfold jr
 split
 ·exact dY (h _)
 ·exact id
theorem wB {x:Value} {k k':Bool→Prop} (h:∀ v,k v→k' v):pX x k→pX x k':=by
 unfold pX
 split <;> first | exact h _ | exact id
theorem yN {op:BinOp} {kd:IntKind} {a b:Int} {k k':Value→Prop} (h:∀ v,k v→k' v):js op kd a b k→js op kd a b k':=by
 unfold js
 split <;> first | exact h _ | exact dY (h _) | exact id
theorem tq {op:BinOp} {kd:IntKind} {a b:Int} {k k':Value→Prop} (h:∀ v,k v→k' v):jt op kd a b k→jt op kd a b k':=by
 unfold jt
 split <;> first | exact dY (h _) | exact id
theorem yO {op:BinOp} {a b:ByteArray} {k k':Value→Prop} (h:∀ v,k v→k' v):jX op a b k→jX op a b k':=by
 unfold jX
 split <;> first | exact h _ | exact id
theorem z9 {neg:Bool} {t:TypeId} {xo yo:Operand} {x y:Value} {k k':Value→Prop} (h:∀ v,k v→k' v):tg P neg t xo yo x y k→tg P neg t xo yo x y k':=by
 unfold tg
 split <;> first | exact dY (h _) | exact id | exact fun ⟨r,h1,h2⟩=>⟨r,h1,h _ h2⟩
theorem yP {op:BinOp} {t:TypeId} {xo yo:Operand} {x y:Value} {k k':Value→Prop} (h:∀ v,k v→k' v):cZ P op t xo yo x y k→cZ P op t xo yo x y k':=by
 unfold cZ
 split
 ·split
  ·exact tq h
  ·split
   ·exact yN h
   ·exact id
 ·exact yO h
 ·split <;> first | exact z9 h | exact id
theorem AA {op:UnOp} {x:Value} {k k':Value→Prop} (h:∀ v,k v→k' v):C3 op x k→C3 op x k':=by
 unfold C3
 split <;> first | exact h _ | exact id
theorem pZ {f:FuncId} {args:Array Value} {k k':ae} (h:∀ v w,k v w→k' v w):aU P f args k w→aU P f args k' w :=
 fun hc=>hc.mono fun _ _ ⟨v,hv,hk⟩=>⟨v,hv,h _ _ hk⟩
theorem sP {r:Value} {nm:String} {args:Array Value} {k k':ae} (h:∀ v w,k v w→k' v w):bm P r nm args k w→bm P r nm args k' w:=by
 unfold bm
 split
 ·split
  ·exact dY (pZ h)
  ·exact id
 ·exact id
theorem lM {s:Sem Value} {k k':ae} (h:∀ v w,k v w→k' v w):dW P s k w→dW P s k' w:=by
 unfold dW
 split <;> first | exact h _ _ | exact id
theorem wC {fv:Value} {args:Array Value} {k k':ae} (h:∀ v w,k v w→k' v w):kG P fv args k w→kG P fv args k' w:=by
 unfold kG
 split
 ·split
  ·exact pZ h
  ·split
   ·exact lM h
   ·exact id
 ·exact id
theorem yQ {t:Option TypeId} {x:Option Value} {k k':Value→Prop} (h:∀ v,k v→k' v):mP P t x k→mP P t x k':=by
 unfold mP
 split <;> first | exact h _ | exact id
theorem yR {t:Option TypeId} {x:Option Value} {k k':Value→Prop} (h:∀ v,k v→k' v):pY P t x k→pY P t x k':=by
 unfold pY
 split <;> first | exact h _ | exact id
theorem fu {o:Option Value} {d:Int} {k k':Int→Prop} (h:∀ v,k v→k' v):fV o d k→fV o d k':=by
 unfold fV
 split <;> first | exact h _ | exact id
theorem ts {t:TypeId} {x:Value} {lo hi mx:Option Value} {k k':Value→Prop} (h:∀ v,k v→k' v):dR P t x lo hi mx k→dR P t x lo hi mx k':=by
 unfold dR
 split
 ·split
  ·exact fu fun _=>fu fun _=>fu fun _=>dY (h _)
  ·exact id
 ·split
  ·exact fu fun _=>fu fun _=>fu fun _=>dY (h _)
  ·exact id
 ·exact id
theorem tu {t:TypeId} {parts:Array (Nat × Value)} {k k':Value→Prop} (h:∀ v,k v→k' v):cO P t parts k→cO P t parts k':=by
 unfold cO
 split
 ·split <;> first | exact h _ | exact id
 ·exact id
theorem sQ {x:Value} {k k':Value→Prop} (h:∀ v,k v→k' v):fA w x k→fA w x k':=by
 unfold fA
 split
 ·exact h _
 ·exact lz _ _ fun vs=>by split <;> first | exact h _ | exact id
 ·exact id
theorem wD {s d:TypeId} {x:Value} {k k':ae} (h:∀ v w,k v w→k' v w):eW P s d x k w→eW P s d x k' w:=by
 unfold eW
 split
 ·exact h _ _
 ·exact dY (sQ fun _=>h _ _)
 ·exact h _ _
 ·exact lM h
 ·exact id
theorem qt {b:Builtin} {ats:Array TypeId} {ty:TypeId} {args:Array Value} {k k':ae} (h:∀ v w,k v w→k' v w):gD P b ats ty args k w→gD P b ats ty args k' w:=by
 unfold gD
 split <;> first | exact lM h | exact yQ fun _=>h _ _ | exact yR fun _=>h _ _ | exact id
theorem qu {x:Value} {i:Nat} {k k':Value→Prop} (h:∀ v,k v→k' v):iE x i k→iE x i k':=by
 unfold iE
 split <;> first | exact lL h | exact id
theorem qv {t:TypeId} {x:Value} {k k':Value→Prop} (h:∀ v,k v→k' v):cr P t x k→cr P t x k':=by
 unfold cr
 split <;> first | exact h _ | exact id
theorem AB {o:Oper} {e:dS} {k k':ae} (h:∀ v w,k v w→k' v w):iF P o e k w→iF P o e k' w:=by
 unfold iF
 split
 case h_23 =>
  split
  ·exact wC h
  ·exact sP h
  ·exact qt h
 all_goals first
  | exact h _ _
  | exact wB fun _=>h _ _
  | exact vz h
  | exact tj h
  | exact yM fun _=>h _ _
  | exact pE fun _=>h _ _
  | exact tk fun _=>h _ _
  | exact pG fun _=>h _ _
  | exact tm fun _=>h _ _
  | exact yP fun _=>h _ _
  | exact AA fun _=>h _ _
  | exact qu fun _=>h _ _
  | exact qv fun _=>h _ _
  | exact ts fun _=>h _ _
  | exact tu fun _=>h _ _
  | exact wD h
  | exact lM h
  | exact id
end mono
def eK (P:Program) (k:ae):Result Next→Prop
 | .ok (.value v) w=>k v w
 | .ok .skip w=>k undef w
 | .ok (.enter f args) w=>aU P f args k w
 | _=>False
section sound
variable {P:Program} {w:World}
theorem mQ {o:Option Value} {k:Value→Prop}:ly o k↔∃ v,o=some v∧k v:=by
 cases o <;> simp [ly]
theorem np {a:Addr}:∀ (n i:Nat) (acc:Array Value) {k:List Value→Prop},jW w a i n k →
    ∃ vs,(loadCellsFrom a i n acc).run P w = .ok (acc++vs.toArray) w∧k vs
 | 0,i,acc,k,h=>⟨[],by simp [loadCellsFrom],h⟩
 | n+1,i,acc,k,h=>by
  obtain ⟨v,hv,h⟩:=mQ.1 h
  obtain ⟨vs,hr,hk⟩:=np n (i+1) (acc.push v) h
  refine ⟨v :: vs,?_,hk⟩
  simp only [loadCellsFrom,Sem.run_bind,run_load,hv,Result.andThen_ok,hr]
  simp
theorem pd {a:Addr}:∀ (vs:List Value) (w:World) (i:Nat) {k:World→Prop},nj w a i vs k →
    ∃ w',(storeCells a vs i).run P w = .ok () w'∧k w'
 | [],w,i,k,h=>⟨w,by simp [storeCells],h⟩
 | v :: vs,w,i,k,h=>by
  obtain ⟨⟨h1,h2,h3⟩,h⟩:=h
  obtain ⟨x,hx⟩:=Option.isSome_iff_exists.1 h1
  obtain ⟨w',hr,hk⟩:=pd vs _ (i+1) h
  exact ⟨w',by simp [storeCells,run_store _ _ _ _ _ h3,hx,h2,hr],hk⟩
theorem kX {t:TypeId} (h:gw P t=true):∃ d,P.underlying t=some d∧(∀ fs,d ≠ .struct fs)∧(∀ n e,d ≠ .array n e):=by
 unfold gw at h
 split at h <;> simp_all
theorem lN (t:TypeId):(gw P t=true→(isAgg t).run P w = .ok false w)∧(te P t=true→(isAgg t).run P w = .ok true w):=by
 constructor
 ·intro h
  obtain ⟨d,hd,h1,h2⟩:=kX h
  simp only [isAgg,Sem.run_bind,run_underlying hd,Result.andThen_ok]
  cases d <;> simp_all
 ·intro h
  unfold te at h
  split at h <;> simp_all [isAgg,run_underlying]
theorem fG {t:TypeId} {n:Nat} (h:tf P t=some n):(sizeOf t).run P w = .ok n w:=by
 unfold tf at h
 cases hi:P.info? t with
 | none=>simp [hi] at h
 | some i=>simp [hi] at h; simp [sizeOf,typeInfo,hi,h]
theorem rT {t:TypeId} {x:Value} {k:ae} (h:fW P t x k w):∃ v,(Instr.loadAt t x).run P w = .ok v w∧k v w:=by
 unfold fW at h
 split at h
 ·rename_i a
  split at h
  ·rename_i hs
   obtain ⟨v,hv,hk⟩:=mQ.1 h
   exact ⟨v,by simp [Instr.loadAt,Instr.sureAddr,loadVar,(lN t).1 hs,hv],hk⟩
  ·split at h
   ·rename_i hs
    split at h
    ·rename_i n hn
     obtain ⟨vs,hr,hk⟩:=np (P:=P) n 0 #[] h
     exact ⟨_,by simp [Instr.loadAt,Instr.sureAddr,loadVar,(lN t).2 hs,fG hn,loadCells,hr],hk⟩
    ·exact h.elim
   ·exact h.elim
 ·exact h.elim
theorem wE {t:TypeId} {x v:Value} {k:ae} (h:ij P t x v k w):∃ w',(Instr.storeAt t x v).run P w = .ok () w'∧k undef w':=by
 unfold ij at h
 split at h
 ·obtain ⟨hsz,h⟩:=h
  obtain ⟨w',hr,hk⟩:=pd (P:=P) _ _ _ h
  exact ⟨w',by simp [Instr.storeAt,Instr.sureAddr,storeVar,fG hsz,hr],hk⟩
 ·exact h.elim
theorem AC {s:TypeId} {f o:Nat} (h:yL P s f=some o) (a:Addr):(Instr.fieldAt s (.pointer (some a)) f).run P w = .ok (.pointer (some (a.add o))) w:=by
 unfold yL at h
 split at h
 ·rename_i fs hs
  split at h
  ·rename_i fd hf
   split at h
   ·rename_i n hn
    simp only [aJ] at h
    simp [Instr.fieldAt,run_underlying hs,hf,Instr.sureAddr,fieldPlace,fG hn,h]
   ·simp at h
  ·simp at h
 ·simp at h
theorem rW {t:TypeId} {cs:Array Value} {off:Nat} {k:Value→Prop} (h:kU P t cs off k):∃ v,(part t cs off).run P w = .ok v w∧k v:=by
 unfold kU at h
 split at h
 ·rename_i hs
  split at h
  ·rename_i n hn
   exact ⟨_,by simp [part,(lN t).2 hs,fG hn],h⟩
  ·exact h.elim
 ·split at h
  ·rename_i hs
   obtain ⟨v,hv,hk⟩:=mQ.1 h
   exact ⟨v,by simp [part,(lN t).1 hs,hv],hk⟩
  ·exact h.elim
theorem xY {t:TypeId} {n:Nat} (h:kP P t=some n):∃ el,P.underlying t=some (.slice el)∧tf P el=some n:=by
 unfold kP at h
 split at h
 ·exact ⟨_,‹_›,h⟩
 ·simp at h
theorem ik {s:Sem Value} {k:ae} (h:dW P s k w):∃ v w',s.run P w = .ok v w'∧k v w':=by
 unfold dW at h
 split at h
 ·exact ⟨_,_,‹_›,h⟩
 ·exact h.elim
theorem mR {f:FuncId} {args:Array Value} (h:gx P f=true):(callFunc f args).run P w = .ok (.enter f args) w:=by
 unfold gx at h
 split at h
 ·rename_i fn hf
  simp only [az,bne_iff_ne,ne_eq] at h
  obtain ⟨h1,h2⟩:=h
  have hb:¬ fn.body.isNone=true:=by
   cases hb:fn.body <;> simp_all
  simp only [callFunc,Sem.run_bind,run_program,Result.andThen_ok,hf]
  rw [if_neg (by simpa using h2),if_neg hb]
  rfl
 ·simp at h
theorem du {s:Sem Value} {v:Value} {w':World} (h:s.run P w = .ok v w'):(do pure (.value (← s)):Sem Next).run P w = .ok (.value v) w':=by
 simp only [Sem.run_bind,h,Result.andThen_ok,Sem.run_pure]
theorem wF {f:FuncId} {args:Array Value} {s:Array Value→Sem Value} {v:Value} {w':World} (h:lK P f=some s) (hr:(s args).run P w = .ok v w'):(callFunc f args).run P w = .ok (.value v) w':=by
 unfold lK at h
 split at h
 ·rename_i fn hf
  split at h
  ·simp at h
  ·rename_i hc
   simp only [Bool.or_eq_true,not_or,Bool.not_eq_true,Option.isSome_eq_false_iff] at hc
   split at h
   ·simp at h
   ·rename_i hn
    simp only [callFunc,Sem.run_bind,run_program,Result.andThen_ok,hf]
    rw [if_neg (by simp [hc.1]),if_pos hc.2]
    simp only [Sem.run_bind,run_mark,Result.andThen_ok,hn,h]
    rw [hr]; rfl
 ·simp at h
theorem yS {t:TypeId} {v:Value} {name:String} {f:FuncId} (h:th P t name=some f) (n:Nat):(method (n+1) t v name).run P w = .ok (f,v) w:=by
 unfold th at h
 split at h
 ·rename_i m hm
  split at h
  ·rename_i hp
   cases hi:P.info? t with
   | none=>simp [hi] at hm
   | some i =>
    simp [hi] at hm
    have hpl:m.path.toList=[]:=by simpa using hp
    split at h
    ·rename_i f' hf
     split at h
     ·rename_i el hu
      simp only [aJ] at h
      subst h
      simp [method,typeInfo,hi,hm,hpl,follow,hf,receiverAt,run_underlying hu,Place.get]
     ·simp at h
    ·rename_i f' hf
     split at h
     ·simp at h
     ·simp at h
     ·rename_i hu1 hu2
      simp only [aJ] at h
      subst h
      cases hu:P.underlying t with
      | none=>exact absurd hu hu2
      | some d =>
       simp only [method,typeInfo,hi,hm,hpl,follow,hf,receiverAt,run_underlying hu,Sem.run_bind,run_program,Result.andThen_ok,Sem.run_pure]
       cases d <;> first | (exact absurd hu (hu1 _)) | simp [Place.get]
    ·simp at h
  ·simp at h
 ·simp at h
end sound
section sound2
variable {P:Program} {w:World}
theorem pe (op:BinOp) (k:IntKind) (a b:Int) (r:BitVec k.bits)
    (h:op = .and∧r=BitVec.ofInt k.bits a &&& BitVec.ofInt k.bits b∨op = .or∧r=BitVec.ofInt k.bits a ||| BitVec.ofInt k.bits b∨op = .xor∧r=BitVec.ofInt k.bits a ^^^ BitVec.ofInt k.bits b) :
    (Op.intBits op k a b).run P w = .ok (.int k (k.wrap r.toNat)) w:=by
 rcases h with ⟨rfl,rfl⟩ | ⟨rfl,rfl⟩ | ⟨rfl,rfl⟩ <;> rfl
theorem AD {op:BinOp} {t:TypeId} {xo yo:Operand} {kd:IntKind} {a b:Int} {k:Value→Prop} (h:js op kd a b k) :
    ∃ v,(do eqGuard op t xo yo (.int kd a) (.int kd b); binOp op t (.int kd a) (.int kd b):Sem Value).run P w = .ok v w∧k v:=by
 have e0:∀ op,eqGuard op t xo yo (.int kd a) (.int kd b)=pure ():=fun op=>eqGuard_at_int ..
 cases op <;> first | exact h.elim | skip
 ·exact ⟨_,by simp only [Sem.run_bind,e0,binOp_add]; rfl,h⟩
 ·exact ⟨_,by simp only [Sem.run_bind,e0,binOp_sub]; rfl,h⟩
 ·exact ⟨_,by simp only [Sem.run_bind,e0,binOp_mul]; rfl,h⟩
 ·exact ⟨_,by simp only [Sem.run_bind,e0,binOp_quo,Op.intDiv,if_neg h.1]; rfl,h.2⟩
 ·exact ⟨_,by simp only [Sem.run_bind,e0,binOp_rem,Op.intDiv,if_neg h.1]; rfl,h.2⟩
 ·exact ⟨_,by simp only [Sem.run_bind,e0,binOp_and]; exact pe _ _ _ _ _ (.inl ⟨rfl,rfl⟩),h⟩
 ·exact ⟨_,by simp only [Sem.run_bind,e0,binOp_or]; exact pe _ _ _ _ _ (.inr (.inl ⟨rfl,rfl⟩)),h⟩
 ·exact ⟨_,by simp only [Sem.run_bind,e0,binOp_xor]; exact pe _ _ _ _ _ (.inr (.inr ⟨rfl,rfl⟩)),h⟩
 ·exact ⟨_,by simp only [Sem.run_bind,e0,binOp_eql]; rfl,h⟩
 ·exact ⟨_,by simp only [Sem.run_bind,e0,binOp_neq]; rfl,h⟩
 ·exact ⟨_,by simp only [Sem.run_bind,e0,binOp_lss]; rfl,h⟩
 ·exact ⟨_,by simp only [Sem.run_bind,e0,binOp_leq]; rfl,h⟩
 ·exact ⟨_,by simp only [Sem.run_bind,e0,binOp_gtr]; rfl,h⟩
 ·exact ⟨_,by simp only [Sem.run_bind,e0,binOp_geq]; rfl,h⟩
theorem Db {neg:Bool} {t:TypeId} {x y:Value} {b:Bool} (h:∀ d,(Op.equalIn (d+1) t x y).run P w = .ok b w)
    (hx:∀ k n,x ≠ .int k n) (hs:∀ s,x ≠ .string s) (hf:∀ k n,x ≠ .float k n) (hc:∀ k n m,x ≠ .complex k n m) :
    (binOp (if neg then .neq else .eql) t x y).run P w = .ok (.bool (xor neg b)) w:=by
 have h':(Op.equal t x y).run P w = .ok b w:=h 9999
 cases neg
 ·cases x <;> first | exact absurd rfl (hx _ _) | exact absurd rfl (hs _) | exact absurd rfl (hf _ _) | exact absurd rfl (hc _ _ _) | simp [binOp,h']
 ·cases x <;> first | exact absurd rfl (hx _ _) | exact absurd rfl (hs _) | exact absurd rfl (hf _ _) | exact absurd rfl (hc _ _ _) | simp [binOp,h']
theorem xZ {neg:Bool} {t:TypeId} {xo yo:Operand} {x y:Value} {k:Value→Prop} (h:tg P neg t xo yo x y k) :
    ∃ v,(do eqGuard (if neg then .neq else .eql) t xo yo x y; binOp (if neg then .neq else .eql) t x y:Sem Value).run P w = .ok v w∧k v:=by
 have fin:∀ {b:Bool},(∀ d,(Op.equalIn (d+1) t x y).run P w = .ok b w)→(∀ k n,x ≠ .int k n)→(∀ s,x ≠ .string s)→(∀ k n,x ≠ .float k n)→(∀ k n m,x ≠ .complex k n m) →
     eqGuard (if neg then .neq else .eql) t xo yo x y=pure () →
     (do eqGuard (if neg then .neq else .eql) t xo yo x y; binOp (if neg then .neq else .eql) t x y:Sem Value).run P w = .ok (.bool (xor neg b)) w:=by
  intro b h1 h2 h3 h4 h5 h6
  rw [h6]
  simp only [Sem.run_bind,Sem.run_pure,Result.andThen_ok]
  exact Db h1 h2 h3 h4 h5
 unfold tg at h
 split at h
 ·obtain ⟨⟨hc,hi⟩,h⟩:=h
  unfold kV at hi
  split at hi
  ·rename_i ms hu
   refine ⟨_,fin (b:=true) (fun d=>by simp [Op.equalIn,run_underlying hu]) (by simp) (by simp) (by simp) (by simp) ?_,h⟩
   cases xo <;> first
    | exact eqGuard_nil_constL ..
    | (cases yo <;> first
        | exact eqGuard_nil_constR ..
        | simp [kW] at hc)
  ·simp at hi
 ·obtain ⟨hi,h⟩:=h
  unfold kV at hi
  split at hi
  ·rename_i ms hu
   refine ⟨_,fin (b:=false) (fun d=>by simp [Op.equalIn,run_underlying hu]) (by simp) (by simp) (by simp) (by simp) (eqGuard_nil_iface ..),by simpa using h⟩
  ·simp at hi
 ·obtain ⟨hi,h⟩:=h
  unfold kV at hi
  split at hi
  ·rename_i ms hu
   refine ⟨_,fin (b:=false) (fun d=>by simp [Op.equalIn,run_underlying hu]) (by simp) (by simp) (by simp) (by simp) (eqGuard_at_iface ..),by simpa using h⟩
  ·simp at hi
 ·rename_i a b
  obtain ⟨hi,h⟩:=h
  refine ⟨_,fin (b:=a == b) ?_ (by simp) (by simp) (by simp) (by simp) (eqGuard_at_bool ..),h⟩
  intro d; simp [Op.equalIn,run_underlying hi]
 ·rename_i b
  obtain ⟨hi,h⟩:=h
  split at hi
  ·rename_i hu
   refine ⟨_,fin (b:=b.isNone) ?_ (by simp) (by simp) (by simp) (by simp) (eqGuard_at_pointer ..),h⟩
   intro d; simp [Op.equalIn,run_underlying hu]
  ·simp at hi
 ·rename_i a
  obtain ⟨hi,h⟩:=h
  split at hi
  ·rename_i hu
   refine ⟨_,fin (b:=false) ?_ (by simp) (by simp) (by simp) (by simp) (eqGuard_at_pointer ..),by simpa using h⟩
   intro d; simp [Op.equalIn,run_underlying hu]
  ·simp at hi
 ·rename_i l c b l' c'
  obtain ⟨hi,h⟩:=h
  split at hi
  ·rename_i hu
   refine ⟨_,fin (b:=b.isNone) ?_ (by simp) (by simp) (by simp) (by simp) (eqGuard_at_slice ..),h⟩
   intro d; simp [Op.equalIn,run_underlying hu]
  ·simp at hi
 ·obtain ⟨hi,h⟩:=h
  split at hi
  ·rename_i hu
   refine ⟨_,fin (b:=false) ?_ (by simp) (by simp) (by simp) (by simp) (eqGuard_at_slice ..),by simpa using h⟩
   intro d; simp [Op.equalIn,run_underlying hu]
  ·simp at hi
 ·obtain ⟨r,h1,h2⟩:=h
  exact ⟨_,h1 w,h2⟩
 ·exact h.elim
theorem AE {op:BinOp} {t:TypeId} {xo yo:Operand} {a b:ByteArray} {k:Value→Prop} (h:jX op a b k) :
    ∃ v,(do eqGuard op t xo yo (.string a) (.string b); binOp op t (.string a) (.string b):Sem Value).run P w = .ok v w∧k v:=by
 have e0:∀ op,eqGuard op t xo yo (.string a) (.string b)=pure ():=fun op=>eqGuard_at_string ..
 cases op <;> first | exact h.elim | skip
 all_goals exact ⟨_,by simp only [Sem.run_bind,e0]; rfl,h⟩
theorem AF {op:BinOp} {t:TypeId} {xo yo:Operand} {x y:Value} {k:Value→Prop} (h:cZ P op t xo yo x y k) :
    ∃ v,(do eqGuard op t xo yo x y; binOp op t x y:Sem Value).run P w = .ok v w∧k v:=by
 unfold cZ at h
 split at h
 ·rename_i kd a kd' b
  split at h
  ·unfold jt at h
   split at h
   ·obtain ⟨hb,h⟩:=h
    exact ⟨_,by simp only [Sem.run_bind,eqGuard_shl,binOp_shl,Op.shift,if_neg (Int.not_lt.2 hb)]; rfl,h⟩
   ·obtain ⟨hb,h⟩:=h
    exact ⟨_,by simp only [Sem.run_bind,eqGuard_shr,binOp_shr,Op.shift,if_neg (Int.not_lt.2 hb)]; rfl,h⟩
   ·exact h.elim
  ·split at h
   ·subst_vars
    exact AD h
   ·exact h.elim
 ·exact AE h
 ·split at h
  ·exact xZ (neg:=false) h
  ·exact xZ (neg:=true) h
  ·exact h.elim
theorem tw {x:Operand} {e:dS} {o:Oper} (ho:o.op = .nilCheck x) {k:Value→Prop} (h:pD (ev e x) k):∃ v,(execOp (ev e) o).run P w = .ok (.value v) w∧k v:=by
 unfold pD at h
 split at h <;> first
  | exact h.elim
  | (rename_i hx; exact ⟨_,by simp only [execOp,ho,hx]; rfl,h⟩)
theorem AG {ats:Array TypeId} {ty:TypeId} {args:Array Value} {k:Value→Prop} (h:mP P ats[0]? args[0]? k):∃ v,(Builtin.len_ ats ty args).run P w = .ok v w∧k v:=by
 unfold mP at h
 split at h
 ·rename_i el n c hu hx
  obtain ⟨t,ht,hu⟩:=Option.bind_eq_some_iff.1 hu
  refine ⟨_,?_,h⟩
  simp [Builtin.len_,ht,hx,run_underlying hu,goInt]
 ·rename_i s hu hx
  obtain ⟨t,ht,hu⟩:=Option.bind_eq_some_iff.1 hu
  refine ⟨_,?_,h⟩
  simp [Builtin.len_,ht,hx,run_underlying hu,goInt]
 ·exact h.elim
theorem AH {ats:Array TypeId} {ty:TypeId} {args:Array Value} {k:Value→Prop} (h:pY P ats[0]? args[0]? k):∃ v,(Builtin.cap_ ats ty args).run P w = .ok v w∧k v:=by
 unfold pY at h
 split at h
 ·rename_i el n c hu hx
  obtain ⟨t,ht,hu⟩:=Option.bind_eq_some_iff.1 hu
  refine ⟨_,?_,h⟩
  simp [Builtin.cap_,ht,hx,run_underlying hu,goInt]
 ·exact h.elim
theorem gf {o:Option Value} {d:Int} {k:Int→Prop} (h:fV o d k):∃ i,k i∧(o=none∧i=d∨∃ kd,o=some (.int kd i)):=by
 unfold fV at h
 split at h
 ·exact ⟨_,h,.inl ⟨rfl,rfl⟩⟩
 ·exact ⟨_,h,.inr ⟨_,rfl⟩⟩
 ·exact h.elim
theorem eQ {kd:IntKind} {i:Int} {y:Nat} {code:BoundsCode} (h:0≤i∧i≤y):(Instr.sliceBound (.int kd i) y code).run P w = .ok i.toNat w:=by
 simp [Instr.sliceBound,asIntOf,h]
theorem kH {b:Bool} {len cap:Nat} {lo hi mx:Option Value} {l h m:Int} (hl:lo=none∧l=0∨∃ kd,lo=some (.int kd l)) (hh:hi=none∧h=len∨∃ kd,hi=some (.int kd h))
    (hm:mx=none∧m=cap∨∃ kd,mx=some (.int kd m)) (h1:0≤l∧l≤h) (h2:h≤m∧m≤cap) (h3:mx.isSome=true→hi.isSome=true) :
    (Instr.sliceBounds b len cap lo hi mx).run P w = .ok (l.toNat,h.toNat,m.toNat) w:=by
 have e1:∀ y:Int,0≤y→((y.toNat:Nat):Int)=y:=fun y hy=>Int.toNat_of_nonneg hy
 rcases hm with ⟨rfl,rfl⟩ | ⟨km,rfl⟩
 ·rcases hh with ⟨rfl,rfl⟩ | ⟨kh,rfl⟩
  ·rcases hl with ⟨rfl,rfl⟩ | ⟨kl,rfl⟩
   ·simp [Instr.sliceBounds]
   ·simp only [Instr.sliceBounds,Sem.run_bind,Sem.run_pure,Result.andThen_ok,eQ (P:=P) (w:=w) (kd:=kl) (y:=len) h1]
    simp
  ·have hb:0≤h∧h≤(cap:Int):=⟨by omega,h2.1⟩
   simp only [Instr.sliceBounds,Sem.run_bind,Sem.run_pure,Result.andThen_ok,eQ (P:=P) (w:=w) (kd:=kh) (y:=cap) hb]
   rcases hl with ⟨rfl,rfl⟩ | ⟨kl,rfl⟩
   ·simp
   ·have hc:0≤l∧l≤((h.toNat:Nat):Int):=⟨h1.1,by rw [e1 _ hb.1]; exact h1.2⟩
    simp [eQ hc]
 ·rcases hh with ⟨rfl,rfl⟩ | ⟨kh,rfl⟩
  ·simp at h3
  ·have ha:0≤m∧m≤(cap:Int):=⟨by omega,h2.2⟩
   have hb:0≤h∧h≤((m.toNat:Nat):Int):=⟨by omega,by rw [e1 _ ha.1]; exact h2.1⟩
   simp only [Instr.sliceBounds,Sem.run_bind,Result.andThen_ok,eQ (P:=P) (w:=w) (kd:=km) (y:=cap) ha,eQ (P:=P) (w:=w) (kd:=kh) hb]
   rcases hl with ⟨rfl,rfl⟩ | ⟨kl,rfl⟩
   ·simp
   ·have hc:0≤l∧l≤((h.toNat:Nat):Int):=⟨h1.1,by rw [e1 _ hb.1]; exact h1.2⟩
    simp [eQ hc]
theorem wG {t:TypeId} {x:Value} {lo hi mx:Option Value} {k:Value→Prop} (h:dR P t x lo hi mx k):∃ v,(Instr.sliceAt t x lo hi mx).run P w = .ok v w∧k v:=by
 unfold dR at h
 split at h
 ·rename_i el a len cap hu
  split at h
  ·rename_i n hn
   obtain ⟨m,h,hm⟩:=gf h
   obtain ⟨hh,h,hhi⟩:=gf h
   obtain ⟨l,h,hl⟩:=gf h
   obtain ⟨⟨h1,h2,h3⟩,h⟩:=h
   refine ⟨_,?_,h⟩
   have e:(m=l)↔(m.toNat=l.toNat):=by omega
   simp only [Instr.sliceAt,Sem.run_bind,run_underlying hu,Result.andThen_ok,Instr.slice,kH hl hhi hm h1 h2 h3,fG hn,Sem.run_pure,e]
  ·exact h.elim
 ·rename_i len el a hu
  split at h
  ·rename_i n hn
   obtain ⟨m,h,hm⟩:=gf h
   obtain ⟨hh,h,hhi⟩:=gf h
   obtain ⟨l,h,hl⟩:=gf h
   obtain ⟨⟨h1,h2,h3⟩,h⟩:=h
   refine ⟨_,?_,h⟩
   have e:(m=l)↔(m.toNat=l.toNat):=by omega
   simp only [Instr.sliceAt,Instr.sureAddr,Sem.run_bind,run_underlying hu,Result.andThen_ok,Sem.run_pure,kH hl hhi hm h1 h2 h3,fG hn,e]
  ·exact h.elim
 ·exact h.elim
theorem AI {fs:List Field} {l:List (Nat × Nat)} (h:(fs.mapM fun f=>(tf P f.type).map fun s=>(f.offset,s))=some l) :
    (fs.mapM fun f=>(do pure (f.offset,← sizeOf f.type):Sem (Nat × Nat))).run P w = .ok l w:=by
 induction fs generalizing l with
 | nil=>simp only [List.mapM_nil,Option.pure_def,aJ] at h; subst h; simp
 | cons f fs ih =>
  simp only [List.mapM_cons,Option.bind_eq_bind,Option.pure_def,Option.bind_eq_some_iff] at h
  obtain ⟨x,hx,l',hl',h⟩:=h
  obtain ⟨n,hn,rfl⟩:=Option.map_eq_some_iff.1 hx
  simp only [aJ] at h
  subst h
  simp only [List.mapM_cons,Sem.run_bind,fG hn,Result.andThen_ok,Sem.run_pure,ih hl']
theorem wH {t:TypeId} {parts:Array (Nat × Value)} {k:Value→Prop} (h:cO P t parts k):∃ v,(Instr.build t parts).run P w = .ok v w∧k v:=by
 unfold cO at h
 split at h
 ·rename_i pl z hp hz
  split at h
  ·rename_i cells hf
   refine ⟨_,?_,h⟩
   obtain ⟨i,hi,hz⟩:=Option.bind_eq_some_iff.1 hz
   unfold dI at hp
   split at hp
   ·rename_i fs hu
    have hm:(fs.mapM fun f=>(do pure (f.offset,← sizeOf f.type):Sem (Nat × Nat))).run P w = .ok pl w:=by
     rw [Array.mapM_eq_mapM_toList] at hp ⊢
     simp only [Option.map_eq_map,Option.map_eq_some_iff] at hp
     obtain ⟨l,hl,rfl⟩:=hp
     simp only [Sem.run_map,AI hl,Result.andThen_ok]
    simp only [Instr.build,Sem.run_bind,zeroValue,typeInfo,run_program,hi,hz,Result.andThen_ok,Sem.run_pure,run_underlying hu,hm,hf]
   ·simp at hp
  ·exact h.elim
 ·exact h.elim
theorem oL:∀ (vs:List Value) (l:List UInt8) (acc:ByteArray),fq vs=some l →
    (forIn vs acc fun c s=>(do
     match c with
     | .int .u8 n=>pure (ForInStep.yield (s.push (UInt8.ofNat n.toNat)))
     | _=>do
      stuck "bytesToString: byte expected"
      pure (ForInStep.yield s):Sem (ForInStep ByteArray))).run P w = .ok ⟨acc.data++l.toArray⟩ w
 | [],l,acc,h=>by simp only [fq,aJ] at h; subst h; simp
 | v :: vs,l,acc,h=>by
  obtain ⟨n,rfl⟩:∃ n,v = .int .u8 n:=by
   unfold fq at h
   split at h
   ·simp_all
   ·rename_i heq; exact ⟨_,(List.cons.inj heq).1⟩
   ·simp at h
  simp only [fq] at h
  obtain ⟨l',hl',rfl⟩:=Option.map_eq_some_iff.1 h
  simp only [List.forIn_cons,Sem.run_bind,Sem.run_pure,Result.andThen_ok,oL vs l' _ hl']
  congr 2
  simp [ByteArray.push]
theorem tx {x:Value} {k:Value→Prop} (h:fA w x k):∃ v,(Conv.bytesToString x).run P w = .ok v w∧k v:=by
 unfold fA at h
 split at h
 ·exact ⟨_,rfl,h⟩
 ·rename_i a len cap
  obtain ⟨vs,hr,hk⟩:=np (P:=P) len 0 #[] h
  split at hk
  ·rename_i l hl
   refine ⟨_,?_,hk⟩
   have h2:=oL (P:=P) (w:=w) vs l ByteArray.empty hl
   simp only [Conv.bytesToString,Sem.run_bind,loadCells,hr,Result.andThen_ok]
   simp only [Array.empty_append,List.forIn_toArray]
   have e:(⟨ByteArray.empty.data++l.toArray⟩:ByteArray)=⟨l.toArray⟩:=by
    show (⟨#[]++l.toArray⟩:ByteArray)=_
    rw [Array.empty_append]
   rw [e] at h2
   exact (congrArg (fun r:Result ByteArray=>r.andThen fun a w'=>Sem.run P (pure (Value.string a)) w') h2).trans rfl
  ·exact hk.elim
 ·exact h.elim
theorem tz {s d e:TypeId} {x:Value} {k:Value→Prop} (hs:P.underlying s=some (.slice e)) (hd:P.underlying d=some .string) (he:P.underlying e=some (.int .u8))
    (h:fA w x k):∃ v,(convert s d x).run P w = .ok v w∧k v:=by
 obtain ⟨v,hr,hk⟩:=tx (P:=P) h
 refine ⟨v,?_,hk⟩
 have hx:(∃ a l c,x = .slice a l c):=by
  unfold fA at h; split at h <;> first | exact ⟨_,_,_,rfl⟩ | exact h.elim
 obtain ⟨a,l,c,rfl⟩:=hx
 simp [convert,run_underlying hs,run_underlying hd,run_underlying he,hr]
theorem yT {s d:TypeId} {x:Value} {k:ae} (h:eW P s d x k w):∃ v w',(convert s d x).run P w = .ok v w'∧k v w':=by
 unfold eW at h
 split at h
 ·rename_i k1 kd k2 n hs hd
  refine ⟨_,w,?_,h⟩
  simp [convert,run_underlying hs,run_underlying hd,Conv.intToInt]
 ·rename_i e hs hd
  obtain ⟨v,hr,hk⟩:=tz (P:=P) hs hd h.1 h.2
  exact ⟨v,w,hr,hk⟩
 ·rename_i dV hs hd
  exact ⟨_,w,by simp [convert,run_underlying hs,run_underlying hd],h⟩
 ·obtain ⟨v,w',hr,hk⟩:=ik h
  exact ⟨v,w',hr,hk⟩
 ·exact h.elim
theorem sR {o:Oper} {e:dS} {k:ae} (h:iF P o e k w):eK P k ((execOp (ev e) o).run P w):=by
 obtain ⟨dst,op,type,pos,after,guard⟩:=o
 cases op <;> simp only [iF] at h <;> first | exact h.elim | skip
 case move x=>exact h
 case assign x=>exact h
 case pick c a b =>
  unfold pX at h
  split at h
  ·rename_i t hc
   simp only [execOp,hc,asBool,Sem.run_bind,Sem.run_pure,Result.andThen_ok,eK]
   exact h
  ·exact h.elim
 case alloc t =>
  obtain ⟨v,w',hr,hk⟩:=ik h
  simp only [execOp,du hr,eK]; exact hk
 case box t x =>
  obtain ⟨v,w',hr,hk⟩:=ik h
  simp only [execOp,du hr,eK]; exact hk
 case build t x =>
  obtain ⟨v,hr,hk⟩:=wH (w:=w) h
  simp only [execOp,du hr,eK]; exact hk
 case buildSlice t n x =>
  obtain ⟨v,w',hr,hk⟩:=ik h
  simp only [execOp,du hr,eK]; exact hk
 case load t a =>
  obtain ⟨v,hr,hk⟩:=rT h
  simp only [execOp,du hr,eK]; exact hk
 case store t a x =>
  obtain ⟨w',hr,hk⟩:=wE h
  simp only [execOp,Sem.run_bind,hr,Result.andThen_ok,Sem.run_pure,eK]; exact hk
 case nilCheck x =>
  obtain ⟨v,hr,hk⟩:=tw (P:=P) (w:=w) (o:={ dst,op := .nilCheck x,type,pos,after,guard }) rfl h
  rw [hr]; exact hk
 case binOp op t x y yt =>
  obtain ⟨v,hr,hk⟩:=AF (w:=w) h
  simp only [execOp,du hr,eK]; exact hk
 case unOp op t x =>
  unfold C3 at h
  split at h
  ·rename_i b hb
   simp only [execOp,hb,du (s:=Op.unary .not (.bool b)) (v := .bool !b) rfl,eK]; exact h
  ·rename_i kd n hb
   simp only [execOp,hb,du (s:=Op.unary .neg (.int kd n)) (v := .int kd (kd.wrap (0 - n))) rfl,eK]; exact h
  ·exact h.elim
 case convert s d x =>
  obtain ⟨v,w',hr,hk⟩:=yT h
  simp only [execOp,du hr,eK]; exact hk
 case makeInterface t x =>
  unfold cr at h
  have hr:(Instr.makeInterface t (ev e x)).run P w = .ok (.iface t (ev e x)) w∧k (.iface t (ev e x)) w:=by
   cases hu:P.underlying t with
   | none=>simp [hu] at h
   | some d =>
    simp only [Instr.makeInterface,Sem.run_bind,run_underlying hu,Result.andThen_ok]
    cases d <;> simp_all
  simp only [execOp,du hr.1,eK]; exact hr.2
 case makeFunc fn a b=>simp only [execOp]; exact h
 case makeSlice t l c =>
  obtain ⟨v,w',hr,hk⟩:=ik h
  simp only [execOp,du hr,eK]; exact hk
 case slice t x lo hi mx =>
  obtain ⟨v,hr,hk⟩:=wG (w:=w) h
  simp only [execOp,du hr,eK]; exact hk
 case fieldAddr s x f =>
  unfold fF at h
  split at h
  ·rename_i off a ho hx
   simp only [execOp,hx,du (AC ho a),eK]; exact h
  ·exact h.elim
 case field s x f =>
  unfold jq at h
  split at h
  ·rename_i fs cs hu hx
   split at h
   ·rename_i fd hf
    obtain ⟨v,hr,hk⟩:=rW (P:=P) (w:=w) h
    have:(Instr.field s (.agg cs) f).run P w = .ok v w:=by simp [Instr.field,run_underlying hu,hf,asAgg,hr]
    simp only [execOp,hx,du this,eK]; exact hk
   ·exact h.elim
  ·exact h.elim
 case indexAddr t x i =>
  unfold eH at h
  split at h
  ·rename_i n a len cap kd j hs hx hi
   obtain ⟨hb,hk⟩:=h
   obtain ⟨el,hu,hz⟩:=xY hs
   have:(Instr.indexAt t (.slice (some a) len cap) (.int kd j)).run P w = .ok (.pointer (some (a.add (j.toNat * n)))) w:=by
    simp only [Instr.indexAt,asIntOf,Sem.run_bind,Sem.run_pure,Result.andThen_ok,run_underlying hu]
    simp [hb,fG hz]
   simp only [execOp,hx,hi,du this,eK]; exact hk
  ·exact h.elim
 case index t x i =>
  unfold jr at h
  split at h
  ·rename_i s kd j hu hx hi
   obtain ⟨⟨h0,h1⟩,hk⟩:=h
   have hlt:j.toNat < s.size:=by omega
   have:(Instr.index t (.string s) (.int kd j)).run P w = .ok (.int .u8 (s[j.toNat]?.getD 0).toNat) w:=by
    simp only [Instr.index,asIntOf,Sem.run_bind,Sem.run_pure,Result.andThen_ok,run_underlying hu]
    rw [if_pos h0]
    cases hg:s[j.toNat]? with
    | none=>simp [hlt] at hg
    | some b=>simp
   simp only [execOp,hx,hi,du this,eK]; exact hk
  ·exact h.elim
 case extract x i =>
  unfold iE at h
  split at h
  ·rename_i vs hx
   obtain ⟨v,hv,hk⟩:=mQ.1 h
   have:(Instr.extract (.tuple vs) i).run P w = .ok v w:=by simp [Instr.extract,hv]
   simp only [execOp,hx,du this,eK]; exact hk
  ·exact h.elim
 case call c =>
  obtain ⟨callee,args,ats⟩:=c
  cases callee with
  | value f =>
   simp only at h
   unfold kG at h
   split at h
   ·rename_i g first cap hf
    split at h
    ·rename_i he
     simp only [execOp,resolve,hf,Deferred.ofValue,Sem.run_bind,Sem.run_pure,Result.andThen_ok,invoke,mR he,eK]; exact h
    ·split at h
     ·rename_i s hs
      obtain ⟨v,w',hr,hk⟩:=ik h
      simp only [execOp,resolve,hf,Deferred.ofValue,Sem.run_bind,Sem.run_pure,Result.andThen_ok,invoke,wF hs hr,eK]; exact hk
     ·exact h.elim
   ·exact h.elim
  | invoke r m =>
   simp only at h
   unfold bm at h
   split at h
   ·rename_i t v hr
    split at h
    ·rename_i f hm
     obtain ⟨he,hk⟩:=h
     simp only [execOp,resolve,hr,Sem.run_bind,Sem.run_pure,Result.andThen_ok,invoke,eK]
     have h0:(#[Value.iface t v]++args.map (ev e))[0]? = some (.iface t v):=by
      rw [Array.getElem?_append_left (by simp)]; rfl
     have h1:(#[Value.iface t v]++args.map (ev e)).extract 1 (#[Value.iface t v]++args.map (ev e)).size=args.map (ev e):=by
      apply Array.ext' ; simp [gU]
     obtain ⟨n,hn⟩:∃ n,P.types.size+Made.depth=n+1:=⟨P.types.size+Made.depth - 1,by unfold Made.depth; omega⟩
     simp only [h0,h1,callMethod,Sem.run_bind,run_program,Result.andThen_ok,hn,yS hm,mR he]
     exact hk
    ·exact h.elim
   ·exact h.elim
  | builtin b =>
   simp only at h
   unfold gD at h
   split at h
   ·obtain ⟨v,hr,hk⟩:=AG (w:=w) (ty:=type) h
    simp only [execOp,resolve,Sem.run_bind,Sem.run_pure,Result.andThen_ok,invoke,builtin,hr,eK]; exact hk
   ·obtain ⟨v,hr,hk⟩:=AH (w:=w) (ty:=type) h
    simp only [execOp,resolve,Sem.run_bind,Sem.run_pure,Result.andThen_ok,invoke,builtin,hr,eK]; exact hk
   all_goals first
    | exact h.elim
    | (obtain ⟨v,w',hr,hk⟩:=ik h
       simp only [execOp,resolve,Sem.run_bind,Sem.run_pure,Result.andThen_ok,invoke,builtin,hr,eK]; exact hk)
end sound2
def eX (a:Act):dS:=fun i=>a.tmps.getD i undef
def jE (N:Nat) (o:Oper):Bool:=match o.dst with
 | some d=>Nat.blt d N
 | none=>true
def dX (N:Nat):Code→Bool
 | .region _ ops _=>ops.toList.all (jE N)
 | .seq a b=>dX N a && dX N b
 | .cond _ a b=>dX N a && dX N b
 | .block _ a=>dX N a
 | .loop a=>dX N a
 | _=>true
def pf (N:Nat) (Q:Exit→dS→World→Prop):Exit→Act→World→Prop
 | .panic _,_,_=>False
 | ex,a,w=>a.tmps.size=N∧a.defers=[]∧Q ex (eX a) w
theorem kY (a:Act):ev (eX a)=a.eval:=by
 funext x
 cases x <;> rfl
theorem gg {N:Nat} {a:Act} (o:Oper) (v:Value) (h:jE N o=true) (hs:a.tmps.size=N):eX (a.put o.dst v)=put (eX a) o.dst v:=by
 funext i
 unfold jE at h
 cases hd:o.dst with
 | none=>rfl
 | some d =>
  simp only [hd,Nat.blt_eq] at h
  simp only [eX,Act.put,put]
  by_cases hi:i=d
  ·subst hi; simp [hs,h]
  ·simp only [if_neg hi,Array.getD_eq_getD_getElem?]
   rw [Array.getElem?_setIfInBounds_ne (Ne.symm hi)]
theorem il {a:Act} (d:Option Tmp) (v:Value):(a.put d v).tmps.size=a.tmps.size:=by cases d <;> simp [Act.put]
theorem fh {a:Act} (d:Option Tmp) (v:Value):(a.put d v).defers=a.defers:=by cases d <;> rfl
theorem fw {N:Nat} {ops:Array Oper} {a:Act} {o:Oper} (hs:a.tmps.size=N) (hops:ops.toList.all (jE N)=true) :
    vy ops (eX a) o.guard=Region.wanted o (yielded ops a.tmps):=by
 unfold vy Region.wanted yielded
 cases o.guard with
 | none=>rfl
 | some g =>
  obtain ⟨j,b⟩:=g
  simp only
  cases hj:ops[j]? with
  | none=>simp
  | some oj =>
   simp only [Option.bind_some]
   cases hd:oj.dst with
   | none=>simp
   | some d =>
    have hmem:oj ∈ ops.toList:=by
     rw [← Array.getElem?_toList] at hj
     exact aL hj
    have hlt:d < N:=by
     have:=List.all_eq_true.1 hops oj hmem
     simpa [jE,hd] using this
    have hg:a.tmps[d]? = some (eX a d):=by
     simp only [eX,Array.getD_eq_getD_getElem?]
     rw [Array.getElem?_eq_getElem (Nat.lt_of_lt_of_eq hlt hs.symm)]; rfl
    simp only [Option.bind_some,hg]
    cases eX a d <;> simp
section reg
variable {P:Program} {N:Nat}
theorem im {ops:Array Oper} (hops:ops.toList.all (jE N)=true) {Q:Exit→dS→World→Prop}:∀ (l:List Oper),l.all (jE N)=true →
    ∀ (a:Act) (w:World),a.tmps.size=N→a.defers=[]→sO P ops l (eX a) (fun e w=>Q .normal e w) w→wpList P ops (pf N Q) l a w
 | [],_,a,w,hs,hd,h=>⟨hs,hd,h⟩
 | o :: rest,hl,a,w,hs,hd,h=>by
  simp only [List.all_cons,az] at hl
  unfold sO at h
  unfold wpList
  rw [fw hs hops] at h
  split
  ·rename_i hw
   rw [if_pos hw] at h
   refine .inl ?_
   have h1:=sR h
   rw [kY] at h1
   unfold Oper.wp Oper.upon
   unfold eK at h1
   split at h1
   ·rename_i v w' hr
    rw [hr]
    exact im hops rest hl.2 _ _ (by rw [il,hs]) (by rw [fh,hd]) (by rw [gg o v hl.1 hs]; exact h1)
   ·rename_i w' hr
    rw [hr]
    exact im hops rest hl.2 _ _ (by rw [il,hs]) (by rw [fh,hd]) (by rw [gg o undef hl.1 hs]; exact h1)
   ·rename_i f args w' hr
    rw [hr]
    refine Calls.mono h1 ?_
    rintro en w'' ⟨v,rfl,hk⟩
    exact im hops rest hl.2 _ _ (by rw [il,hs]) (by rw [fh,hd]) (by rw [gg o v hl.1 hs]; exact hk)
   ·exact h1.elim
  ·rename_i hw
   rw [if_neg hw] at h
   exact im hops rest hl.2 _ _ (by rw [il,hs]) (by rw [fh,hd]) (by rw [gg o undef hl.1 hs]; exact h)
end reg
def rX (K:dS→World→Prop) (Q:Exit→dS→World→Prop):Exit→dS→World→Prop
 | .normal,e,w=>K e w
 | x,e,w=>Q x e w
def l8 (id:Nat) (Q:Exit→dS→World→Prop):Exit→dS→World→Prop
 | .exit j,e,w=>if j=id then Q .normal e w else Q (.exit j) e w
 | x,e,w=>Q x e w
def FG (N:Nat) (P:Program) (c:Code) (Q:Exit→dS→World→Prop) (e:dS) (w:World):Prop :=
 ∀ a:Act,a.tmps.size=N→a.defers=[]→eX a=e→c.wp P (pf N Q) a w
def xd (x:Value) (p q:Prop):Prop :=
 match x with
 | .bool true=>p
 | .bool false=>q
 | _=>False
def WP (N:Nat) (P:Program):Code→(Exit→dS→World→Prop)→dS→World→Prop
 | .skip,Q,e,w=>Q .normal e w
 | .region _ ops false,Q,e,w=>sO P ops ops.toList e (fun e w=>Q .normal e w) w
 | .region id ops true,Q,e,w=>FG N P (.region id ops true) Q e w
 | .seq a b,Q,e,w=>WP N P a (rX (fun e w=>WP N P b Q e w) Q) e w
 | .cond c a b,Q,e,w=>xd (ev e c) (WP N P a Q e w) (WP N P b Q e w)
 | .block id a,Q,e,w=>WP N P a (l8 id Q) e w
 | .loop a,Q,e,w=>FG N P (.loop a) Q e w
 | .exit id,Q,e,w=>Q (.exit id) e w
 | .ret,Q,e,w=>Q .ret e w
 | _,_,_,_=>False
theorem rY {N:Nat} {K:dS→World→Prop} {Q:Exit→dS→World→Prop} {ex:Exit} {a:Act} {w:World} (h:pf N (rX K Q) ex a w) :
    Exit.then (fun a w=>a.tmps.size=N∧a.defers=[]∧K (eX a) w) (pf N Q) ex a w:=by
 cases ex <;> exact h
theorem wI {N:Nat} {id:Nat} {Q:Exit→dS→World→Prop} {ex:Exit} {a:Act} {w:World} (h:pf N (l8 id Q) ex a w) :
    Exit.inBlock id (pf N Q) ex a w:=by
 cases ex with
 | exit j =>
  obtain ⟨h1,h2,h3⟩:=h
  simp only [Exit.inBlock]
  simp only [l8] at h3
  split
  ·rename_i hj; rw [if_pos hj] at h3; exact ⟨h1,h2,h3⟩
  ·rename_i hj; rw [if_neg hj] at h3; exact ⟨h1,h2,h3⟩
 | _=>exact h
theorem l9 {N:Nat} {P:Program}:∀ (c:Code),dX N c=true→∀ (Q:Exit→dS→World→Prop) (e:dS) (w:World),WP N P c Q e w→FG N P c Q e w
 | .skip,_,Q,e,w,h=>fun a hs hd he=>wp_skip ⟨hs,hd,he ▸ h⟩
 | .region id ops false,hok,Q,e,w,h=>fun a hs hd he=>by
  subst he
  exact wp_region_list (im hok _ hok a w hs hd h)
 | .region id ops true,_,Q,e,w,h=>h
 | .seq x y,hok,Q,e,w,h=>fun a hs hd he=>by
  simp only [dX,az] at hok
  refine wp_seq (wp_mono (l9 x hok.1 _ e w h a hs hd he) fun ex a w hq => ?_)
  have:=rY hq
  cases ex <;> first
   | exact this
   | (obtain ⟨h1,h2,h3⟩:=this; exact l9 y hok.2 Q _ _ h3 _ h1 h2 rfl)
 | .cond c x y,hok,Q,e,w,h=>fun a hs hd he=>by
  simp only [dX,az] at hok
  simp only [WP] at h
  subst he
  rw [kY] at h
  unfold xd at h
  split at h
  ·rename_i hc; exact wp_cond_true hc (l9 x hok.1 Q _ _ h _ hs hd rfl)
  ·rename_i hc; exact wp_cond_false hc (l9 y hok.2 Q _ _ h _ hs hd rfl)
  ·exact h.elim
 | .block id x,hok,Q,e,w,h=>fun a hs hd he =>
  wp_block (wp_mono (l9 x hok _ e w h a hs hd he) fun _ _ _ hq=>wI hq)
 | .loop x,_,Q,e,w,h=>h
 | .exit id,_,Q,e,w,h=>fun a hs hd he=>wp_exit ⟨hs,hd,he ▸ h⟩
 | .ret,_,Q,e,w,h=>fun a hs hd he=>wp_ret ⟨hs,hd,he ▸ h⟩
 | .rangeFunc ..,_,_,_,_,h=>h.elim
 | .scope ..,_,_,_,_,h=>h.elim
 | .label ..,_,_,_,_,h=>h.elim
 | .goto ..,_,_,_,_,h=>h.elim
 | .refuse ..,_,_,_,_,h=>h.elim
def qw (P:Program) (rs:List ResultVar) (e:dS) (k:ae) (w:World):Prop :=
 match rs with
 | []=>k (.tuple #[]) w
 | [.tmp t]=>k (e t) w
 | [.cell a t]=>fW P t (e a) k w
 | [.tmp t,.tmp u]=>k (.tuple #[e t,e u]) w
 | [.tmp t,.tmp u,.tmp v]=>k (.tuple #[e t,e u,e v]) w
 | _=>False
def FH (P:Program) (rs:List ResultVar) (k:ae):Exit→dS→World→Prop
 | .normal,e,w=>qw P rs e k w
 | .ret,e,w=>qw P rs e k w
 | _,_,_=>False
def yU (args:Array Value):dS:=fun i=>args.getD i undef
theorem AJ {P:Program} {fn:Func} {a:Act} {k:ae} {w:World} (h:qw P fn.results.toList (eX a) k w) :
    ∃ v,(results fn a.tmps).run P w = .ok v w∧k v w:=by
 unfold qw at h
 split at h
 ·rename_i hr; exact ⟨_,results_none (Array.toList_inj.1 hr) ..,h⟩
 ·rename_i t hr; exact ⟨_,results_tmp (Array.toList_inj.1 hr) ..,h⟩
 ·rename_i t u hr
  replace hr:fn.results = #[.cell t u]:=Array.toList_inj.1 hr
  obtain ⟨v,hv,hk⟩:=rT h
  refine ⟨v,?_,hk⟩
  unfold fW at h
  split at h
  ·rename_i ad ha
   simp only [Instr.loadAt,ha,Instr.sureAddr,Sem.run_bind,Sem.run_pure,Result.andThen_ok] at hv
   have ha':a.tmps.getD t undef = .pointer (some ad):=ha
   simp only [results,hr]
   simp only [List.mapM_toArray,List.mapM_cons,List.mapM_nil,ha',asAddr]
   simp [hv]
  ·exact h.elim
 ·rename_i t u hr; exact ⟨_,results_tmp2 (Array.toList_inj.1 hr) ..,h⟩
 ·rename_i t u v hr
  replace hr:fn.results = #[.tmp t,.tmp u,.tmp v]:=Array.toList_inj.1 hr
  refine ⟨_,?_,h⟩
  simp [results,hr,eX]
 ·exact h.elim
theorem uA {P:Program} {f:FuncId} {fn:Func} {c:Code} {args:Array Value} {w:World} {k:ae}
    (hf:P.funcs[f]? = some fn) (hb:fn.body=some c) (hok:dX fn.ntmps c=true) (hn:args.size≤fn.ntmps)
    (h:WP fn.ntmps P c (FH P fn.results.toList k) (yU args) w):aU P f args k w:=by
 refine calls_of_wp hf hb (wp_mono (l9 c hok _ _ _ h _ (by simp; omega) rfl ?_) ?_)
 ·funext i
  simp only [eX,yU,Array.getD_eq_getD_getElem?]
  by_cases hi:i < args.size
  ·rw [Array.getElem?_append_left hi]
  ·rw [Array.getElem?_append_right (by omega),Array.getElem?_eq_none (by omega:args.size≤i)]
   by_cases hj:i - args.size < fn.ntmps - args.size
   ·simp [hj]
   ·rw [Array.getElem?_eq_none (by simp; omega)]
 ·intro ex a w hl
  cases ex <;> first
   | exact hl.elim
   | exact hl.2.2.elim
   | (obtain ⟨hs,hd,hq⟩:=hl
      obtain ⟨v,hr,hk⟩:=AJ hq
      exact ⟨hd,v,hr,v,rfl,hk⟩)
end Go.E
