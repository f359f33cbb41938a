/- Parts of the proof: B, M. -/
import Derived.Maps.AppendAt
import Derived.Laws.OwnMore
import Derived.Laws.IdiomCopy
import Derived.Test.YtlmoafgebiffaaaGreatDoorV02
set_option linter.all false
set_option maxRecDepth 10000
section
namespace Go.E
open Go Go.Proofs.Tryz
abbrev Bytes:=List UInt8
def eH (a b:Bytes):Int:=if a < b then -1 else if a=b then 0 else 1
theorem FS {a b:Bytes} (h:a < b):eH a b = -1:=by simp [eH,h]
theorem FT {a b:Bytes} (h:a=b):eH a b=0:=by subst h; simp [eH]
theorem FU {a b:Bytes} (h:b < a):eH a b=1:=by
 have h1:¬ a < b:=by grind
 have h2:¬ a=b:=by grind
 simp [eH,h1,h2]
theorem kV (a b:Bytes):a < b∧eH a b = -1∨a=b∧eH a b=0∨b < a∧eH a b=1:=by
 by_cases h:a < b
 ·exact .inl ⟨h,FS h⟩
 ·by_cases h2:a=b
  ·exact .inr (.inl ⟨h2,FT h2⟩)
  ·exact .inr (.inr ⟨by grind,FU (by grind)⟩)
theorem fS {a b:Bytes}:eH a b < 0↔a < b:=by rcases kV a b with ⟨h,e⟩ | ⟨h,e⟩ | ⟨h,e⟩ <;> rw [e] <;> simp <;> grind
theorem nq {a b:Bytes}:0 < eH a b↔b < a:=by rcases kV a b with ⟨h,e⟩ | ⟨h,e⟩ | ⟨h,e⟩ <;> rw [e] <;> simp <;> grind
theorem gq {a b:Bytes}:0≤eH a b↔b≤a:=by rcases kV a b with ⟨h,e⟩ | ⟨h,e⟩ | ⟨h,e⟩ <;> rw [e] <;> simp <;> grind
theorem gB {a b:Bytes}:eH a b=0↔a=b:=by rcases kV a b with ⟨h,e⟩ | ⟨h,e⟩ | ⟨h,e⟩ <;> rw [e] <;> simp <;> grind
def zF (a b:Bytes):Int :=
 match (List.range (min a.length b.length)).find? fun i=>a[i]! != b[i]! with
 | some i=>if a[i]! < b[i]! then -1 else 1
 | none=>if a.length < b.length then -1 else if a.length > b.length then 1 else 0
theorem FV (a b:Bytes):zF a b=eH a b:=by
 induction a generalizing b with
 | nil =>
  cases b with
  | nil=>simp [zF,eH]
  | cons y b=>simp [zF,eH]
 | cons x a ih =>
  cases b with
  | nil=>simp [zF,eH]
  | cons y b =>
   have e:min (x :: a).length (y :: b).length=min a.length b.length+1:=by simp only [aZ]; omega
   unfold zF
   rw [e,List.range_succ_eq_map,List.find?_cons]
   by_cases hxy:x=y
   ·subst hxy
    have e0:((x :: a)[0]! != (x :: b)[0]!)=false:=by simp
    rw [e0]
    simp only [List.find?_map,Function.comp_def]
    have e1:(fun i=>(x :: a)[i+1]! != (x :: b)[i+1]!)=fun i=>a[i]! != b[i]! := by funext i; simp
    have e2:eH (x :: a) (x :: b)=eH a b:=by
     unfold eH
     simp [List.cons_lt_cons_iff]
    rw [e2,← ih b]
    unfold zF
    simp only [Nat.succ_eq_add_one,e1]
    cases (List.range (min a.length b.length)).find? fun i=>a[i]! != b[i]! with
    | some i=>simp
    | none=>simp
   ·have e0:((x :: a)[0]! != (y :: b)[0]!)=true:=by simp [hxy]
    rw [e0]
    simp only [eH,List.cons_lt_cons_iff,List.cons.injEq,hxy,false_and,or_false,if_false]
    simp
theorem HV (a b:Bytes):Extern.BytealgCompare.cmp ⟨a.toArray⟩ ⟨b.toArray⟩=eH a b:=by
 rw [← FV]
 unfold Extern.BytealgCompare.cmp zF
 have e:∀ (l:Bytes) (i:Nat),(⟨l.toArray⟩:ByteArray)[i]! = l[i]! := by
  intro l i
  by_cases h:i < l.length
  ·rw [aI (⟨l.toArray⟩:ByteArray) i (by simpa [ByteArray.size] using h),aI l i h]; rfl
  ·rw [getElem!_neg (⟨l.toArray⟩:ByteArray) i (by simpa [ByteArray.size] using h),getElem!_neg l i h]
 have e2:∀ (l:Bytes),(⟨l.toArray⟩:ByteArray).size=l.length:=fun l=>by simp [ByteArray.size]
 simp only [e,e2]
 rfl
def eF (l:Bytes):List Value:=l.map fun b => .int .u8 b.toNat
def lJ (w:World) (a:Addr) (vs:List Value):Prop:=∀ i v,vs[i]? = some v→w.cell? ⟨a.block,a.off+i,none⟩=some v
def dR (w:World) (v:Value) (l:Bytes):Prop:=match v with
 | .slice none n _=>n=0∧l=[]
 | .slice (some a) n _=>a.spot=none∧n=l.length∧lJ w a (eF l)
 | _=>False
theorem lJ.tail {w:World} {a:Addr} {v:Value} {vs:List Value} (h:lJ w a (v :: vs)):lJ w ⟨a.block,a.off+1,none⟩ vs:=by
 intro i x hx
 have:=h (i+1) x (by simpa using hx)
 simpa [Nat.add_assoc,Nat.add_comm 1 i] using this
theorem lJ.head {w:World} {a:Addr} {v:Value} {vs:List Value} (h:lJ w a (v :: vs)):w.cell? ⟨a.block,a.off,none⟩=some v:=by
 simpa using h 0 v rfl
theorem dS {a:Addr} (h:a.spot=none) (i:Nat):a.add i=⟨a.block,a.off+i,none⟩:=by
 obtain ⟨b,o,s⟩:=a
 simp only at h
 subst h
 unfold Addr.add
 split
 ·simp_all
 ·rfl
theorem uF {w:World} {a:Addr} (ha:a.spot=none):∀ (vs:List Value) (i:Nat) {k:List Value→Prop},(∀ j v,vs[j]? = some v→w.cell? ⟨a.block,a.off+(i+j),none⟩=some v)→(jo w a i vs.length k↔k vs)
 | [],_,_,_=>Iff.rfl
 | v :: vs,i,k,h=>by
  have h0:=h 0 v rfl
  simp only [Nat.add_zero] at h0
  simp only [aZ,jo,dS ha,h0,nP]
  exact uF ha vs (i+1) fun j x hx=>by
   have:=h (j+1) x (by simpa using hx)
   rwa [show i+(j+1)=i+1+j by omega] at this
theorem wu (l:Bytes):gZ (eF l)=some l:=by
 induction l with
 | nil=>rfl
 | cons b l ih =>
  simp only [eF,List.map_cons,gZ]
  rw [show List.map (fun b:UInt8=>Value.int .u8 (b.toNat:Int)) l=eF l from rfl,ih]
  simp
theorem wv {w:World} {v:Value} {l:Bytes} {q:Value→Prop} (h:dR w v l):fY w v q=q (.string ⟨l.toArray⟩):=by
 unfold dR at h
 split at h
 ·obtain ⟨h1,rfl⟩:=h; rfl
 ·obtain ⟨h1,rfl,h2⟩:=h
  unfold fY
  have e:l.length=(eF l).length:=by simp [eF]
  simp only
  rw [e,propext (uF h1 (eF l) 0 (fun j v hv=>by simpa using h2 j v hv))]
  simp only [wu]
 ·exact h.elim
theorem ma {P:Program} {w:World}:∀ (l:Bytes) (a:Addr) (acc:ByteArray),a.spot=none→lJ w a (eF l)→(Extern.Bytes.loadBytes a l.length acc).run P w = .ok ⟨acc.data++l.toArray⟩ w
 | [],a,acc,_,_=>by simp [Extern.Bytes.loadBytes]
 | b :: l,a,acc,ha,h=>by
  have h0:w.cell? a=some (.int .u8 b.toNat):=by
   have:=lJ.head h
   obtain ⟨x,y,z⟩:=a
   simp only at ha
   subst ha
   exact this
  have ih:=ma (P:=P) l (a.add 1) (acc.push b) (by rw [dS ha]) (by rw [dS ha]; exact lJ.tail h)
  simp only [aZ,Extern.Bytes.loadBytes,Sem.run_bind,run_load,h0,Result.andThen_ok]
  have e:((b.toNat:Int).toNat).toUInt8=b:=by simp
  rw [e,ih]
  simp [ByteArray.push]
theorem qI {P:Program} {w:World} {v:Value} {l:Bytes} (h:dR w v l):(Extern.Bytes.bytesOf v).run P w = .ok ⟨l.toArray⟩ w:=by
 unfold dR at h
 split at h
 ·obtain ⟨h1,rfl⟩:=h; rfl
 ·obtain ⟨h1,rfl,h2⟩:=h
  have:=ma (P:=P) l _ ByteArray.empty h1 h2
  simp only [Extern.Bytes.bytesOf,this]
  congr 2
  show (#[]++l.toArray)=l.toArray
  rw [Array.empty_append]
 ·exact h.elim
theorem aY {w:World} {v:Value} {l:Bytes} (h:dR w v l):∃ a c,v = .slice a l.length c:=by
 unfold dR at h
 split at h
 ·obtain ⟨rfl,rfl⟩:=h; exact ⟨_,_,rfl⟩
 ·obtain ⟨_,rfl,_⟩:=h; exact ⟨_,_,rfl⟩
 ·exact h.elim
@[go_sem] theorem KH:(false == true)=false:=bL rfl
@[go_sem] theorem KI:(true == false)=false:=bL rfl
@[go_sem] theorem KJ:(!true)=false:=bL rfl
@[go_sem] theorem KK:(!false)=true:=bL rfl
theorem dP {n:Int} (h0 : -9223372036854775808≤n) (h1:n≤9223372036854775807):IntKind.i64.wrap n=n:=IntWalk.i64_in n ⟨h0,h1⟩
@[go_sem] theorem cC (l:List Value):(Value.agg l.toArray).cells=l.toArray:=bL rfl
@[go_sem] theorem BG (kd:IntKind) (n:Int):(Value.int kd n).cells=[Value.int kd n].toArray:=bL rfl
@[go_sem] theorem zG (b:Bool):(Value.bool b).cells=[Value.bool b].toArray:=bL rfl
@[go_sem] theorem vI (s:ByteArray):(Value.string s).cells=[Value.string s].toArray:=bL rfl
@[go_sem] theorem tL (a:Option Addr):(Value.pointer a).cells=[Value.pointer a].toArray:=bL rfl
@[go_sem] theorem wx (a:Option Addr) (l c:Nat):(Value.slice a l c).cells=[Value.slice a l c].toArray:=bL rfl
@[go_sem] theorem wy (t:TypeId) (v:Value):(Value.iface t v).cells=[Value.iface t v].toArray:=bL rfl
@[go_sem] theorem zH (f:Fn) (a b:Array Value):(Value.func f a b).cells=[Value.func f a b].toArray:=bL rfl
@[go_sem] theorem rR:Value.nilIface.cells=[Value.nilIface].toArray:=bL rfl
@[go_sem] theorem tM:Value.nilFunc.cells=[Value.nilFunc].toArray:=bL rfl
theorem zC:(∀ l:List Value,(Value.agg l.toArray).cells=l.toArray)∧(∀ (k:IntKind) (n:Int),(Value.int k n).cells=[Value.int k n].toArray)∧(∀ b:Bool,(Value.bool b).cells=[Value.bool b].toArray)∧(∀ s:ByteArray,(Value.string s).cells=[Value.string s].toArray)∧(∀ a:Option Addr,(Value.pointer a).cells=[Value.pointer a].toArray) ∧
    (∀ (a:Option Addr) (l c:Nat),(Value.slice a l c).cells=[Value.slice a l c].toArray)∧(∀ (t:TypeId) (v:Value),(Value.iface t v).cells=[Value.iface t v].toArray)∧(∀ (f:Fn) (a b:Array Value),(Value.func f a b).cells=[Value.func f a b].toArray)∧Value.nilIface.cells=[Value.nilIface].toArray∧Value.nilFunc.cells=[Value.nilFunc].toArray ∧
    (∀ l:List Value,l.toArray.size=l.length)∧(∀ (x:Value) (l:List Value),(x :: l).length=l.length+1)∧([]:List Value).length=0 :=
 ⟨cC,BG,zG,vI,tL,wx,wy,zH,rR,tM,fun _=>bL rfl,fun _ _=>bL rfl,bL rfl⟩
theorem zW:(∀ w:World,w.drew.heap.size=w.heap.size)∧(∀ (w:World) (a:Addr) (v:Value),(w.setCell a v).heap.size=w.heap.size)∧∀ (w:World) (o:Obj),(w.alloc o).heap.size=w.heap.size+1:=⟨fun _=>World.size_drew _,fun _ _ _=>World.size_setCell _ _ _,fun _ _=>World.size_alloc _ _⟩
attribute [go_sem] dP Nat.zero_add decide_true decide_false BEq.rfl List.not_mem_nil av or_false false_or List.setIfInBounds_toArray List.set_cons_zero List.set_cons_succ cH Option.map_none List.size_toArray aZ List.length_nil
theorem dZ {p:Prop} (h:p:=by first | omega | (simp only [zC]; done) | (simp only [zW]; omega)):p:=h
theorem bA {p q:Prop} (hq:q) (h:p=q:=by conv=>{ lhs; simp (disch:=first | exact dZ | fail) only [go_sem] }):p:=h.mpr hq
theorem bu {a1 p q:Prop} (x1:a1) (hq:q) (h:a1→p=q:=by intro x1; conv=>{ lhs; simp (disch:=first | exact dZ | fail) only [go_sem,x1] }):p:=(h x1).mpr hq
theorem bX {a1 p:Prop} (x1:a1) (h:a1→p:=by intro x1; simp (disch:=first | exact dZ | fail) only [go_sem,x1]):p:=h x1
theorem dO {a1 a2 p q:Prop} (x1:a1) (x2:a2) (hq:q) (h:a1→a2→p=q:=by intro x1 x2; conv=>{ lhs; simp (disch:=first | exact dZ | fail) only [go_sem,x1,x2] }):p:=(h x1 x2).mpr hq
theorem LK {a1 a2 p:Prop} (x1:a1) (x2:a2) (h:a1→a2→p:=by intro x1 x2; simp (disch:=first | exact dZ | fail) only [go_sem,x1,x2]):p:=h x1 x2
theorem dQ {a1 a2 a3 p q:Prop} (x1:a1) (x2:a2) (x3:a3) (hq:q) (h:a1→a2→a3→p=q:=by intro x1 x2 x3; conv=>{ lhs; simp (disch:=first | exact dZ | fail) only [go_sem,x1,x2,x3] }):p:=(h x1 x2 x3).mpr hq
theorem L8 {a1 a2 a3 p:Prop} (x1:a1) (x2:a2) (x3:a3) (h:a1→a2→a3→p:=by intro x1 x2 x3; simp (disch:=first | exact dZ | fail) only [go_sem,x1,x2,x3]):p:=h x1 x2 x3
theorem eO {a1 a2 a3 a4 p q:Prop} (x1:a1) (x2:a2) (x3:a3) (x4:a4) (hq:q) (h:a1→a2→a3→a4→p=q:=by intro x1 x2 x3 x4; conv=>{ lhs; simp (disch:=first | exact dZ | fail) only [go_sem,x1,x2,x3,x4] }):p:=(h x1 x2 x3 x4).mpr hq
theorem L9 {a1 a2 a3 a4 p:Prop} (x1:a1) (x2:a2) (x3:a3) (x4:a4) (h:a1→a2→a3→a4→p:=by intro x1 x2 x3 x4; simp (disch:=first | exact dZ | fail) only [go_sem,x1,x2,x3,x4]):p:=h x1 x2 x3 x4
theorem hJ {a1 a2 a3 a4 a5 p q:Prop} (x1:a1) (x2:a2) (x3:a3) (x4:a4) (x5:a5) (hq:q) (h:a1→a2→a3→a4→a5→p=q:=by intro x1 x2 x3 x4 x5; conv=>{ lhs; simp (disch:=first | exact dZ | fail) only [go_sem,x1,x2,x3,x4,x5] }):p:=(h x1 x2 x3 x4 x5).mpr hq
theorem MA {a1 a2 a3 a4 a5 p:Prop} (x1:a1) (x2:a2) (x3:a3) (x4:a4) (x5:a5) (h:a1→a2→a3→a4→a5→p:=by intro x1 x2 x3 x4 x5; simp (disch:=first | exact dZ | fail) only [go_sem,x1,x2,x3,x4,x5]):p:=h x1 x2 x3 x4 x5
theorem qh {a1 a2 a3 a4 a5 a6 p q:Prop} (x1:a1) (x2:a2) (x3:a3) (x4:a4) (x5:a5) (x6:a6) (hq:q) (h:a1→a2→a3→a4→a5→a6→p=q:=by intro x1 x2 x3 x4 x5 x6; conv=>{ lhs; simp (disch:=first | exact dZ | fail) only [go_sem,x1,x2,x3,x4,x5,x6] }):p:=(h x1 x2 x3 x4 x5 x6).mpr hq
theorem MD {a1 a2 a3 a4 a5 a6 p:Prop} (x1:a1) (x2:a2) (x3:a3) (x4:a4) (x5:a5) (x6:a6) (h:a1→a2→a3→a4→a5→a6→p:=by intro x1 x2 x3 x4 x5 x6; simp (disch:=first | exact dZ | fail) only [go_sem,x1,x2,x3,x4,x5,x6]):p:=h x1 x2 x3 x4 x5 x6
theorem vJ {a1 a2 a3 a4 a5 a6 a7 p q:Prop} (x1:a1) (x2:a2) (x3:a3) (x4:a4) (x5:a5) (x6:a6) (x7:a7) (hq:q) (h:a1→a2→a3→a4→a5→a6→a7→p=q:=by intro x1 x2 x3 x4 x5 x6 x7; conv=>{ lhs; simp (disch:=first | exact dZ | fail) only [go_sem,x1,x2,x3,x4,x5,x6,x7] }):p:=(h x1 x2 x3 x4 x5 x6 x7).mpr hq
theorem ME {a1 a2 a3 a4 a5 a6 a7 p:Prop} (x1:a1) (x2:a2) (x3:a3) (x4:a4) (x5:a5) (x6:a6) (x7:a7) (h:a1→a2→a3→a4→a5→a6→a7→p:=by intro x1 x2 x3 x4 x5 x6 x7; simp (disch:=first | exact dZ | fail) only [go_sem,x1,x2,x3,x4,x5,x6,x7]):p:=h x1 x2 x3 x4 x5 x6 x7
theorem rS {a1 a2 a3 a4 a5 a6 a7 a8 p q:Prop} (x1:a1) (x2:a2) (x3:a3) (x4:a4) (x5:a5) (x6:a6) (x7:a7) (x8:a8) (hq:q) (h:a1→a2→a3→a4→a5→a6→a7→a8→p=q:=by intro x1 x2 x3 x4 x5 x6 x7 x8; conv=>{ lhs; simp (disch:=first | exact dZ | fail) only [go_sem,x1,x2,x3,x4,x5,x6,x7,x8] }):p:=(h x1 x2 x3 x4 x5 x6 x7 x8).mpr hq
theorem MF {a1 a2 a3 a4 a5 a6 a7 a8 p:Prop} (x1:a1) (x2:a2) (x3:a3) (x4:a4) (x5:a5) (x6:a6) (x7:a7) (x8:a8) (h:a1→a2→a3→a4→a5→a6→a7→a8→p:=by intro x1 x2 x3 x4 x5 x6 x7 x8; simp (disch:=first | exact dZ | fail) only [go_sem,x1,x2,x3,x4,x5,x6,x7,x8]):p:=h x1 x2 x3 x4 x5 x6 x7 x8
theorem AE {a1 a2 a3 a4 a5 a6 a7 a8 a9 p q:Prop} (x1:a1) (x2:a2) (x3:a3) (x4:a4) (x5:a5) (x6:a6) (x7:a7) (x8:a8) (x9:a9) (hq:q) (h:a1→a2→a3→a4→a5→a6→a7→a8→a9→p=q:=by intro x1 x2 x3 x4 x5 x6 x7 x8 x9; conv=>{ lhs; simp (disch:=first | exact dZ | fail) only [go_sem,x1,x2,x3,x4,x5,x6,x7,x8,x9] }):p:=(h x1 x2 x3 x4 x5 x6 x7 x8 x9).mpr hq
theorem MG {a1 a2 a3 a4 a5 a6 a7 a8 a9 p:Prop} (x1:a1) (x2:a2) (x3:a3) (x4:a4) (x5:a5) (x6:a6) (x7:a7) (x8:a8) (x9:a9) (h:a1→a2→a3→a4→a5→a6→a7→a8→a9→p:=by intro x1 x2 x3 x4 x5 x6 x7 x8 x9; simp (disch:=first | exact dZ | fail) only [go_sem,x1,x2,x3,x4,x5,x6,x7,x8,x9]):p:=h x1 x2 x3 x4 x5 x6 x7 x8 x9
theorem JO {a1 a2 a3 a4 a5 a6 a7 a8 a9 a10 p q:Prop} (x1:a1) (x2:a2) (x3:a3) (x4:a4) (x5:a5) (x6:a6) (x7:a7) (x8:a8) (x9:a9) (x10:a10) (hq:q) (h:a1→a2→a3→a4→a5→a6→a7→a8→a9→a10→p=q:=by intro x1 x2 x3 x4 x5 x6 x7 x8 x9 x10; conv=>{ lhs; simp (disch:=first | exact dZ | fail) only [go_sem,x1,x2,x3,x4,x5,x6,x7,x8,x9,x10] }):p:=(h x1 x2 x3 x4 x5 x6 x7 x8 x9 x10).mpr hq
theorem Lo {a1 a2 a3 a4 a5 a6 a7 a8 a9 a10 p:Prop} (x1:a1) (x2:a2) (x3:a3) (x4:a4) (x5:a5) (x6:a6) (x7:a7) (x8:a8) (x9:a9) (x10:a10) (h:a1→a2→a3→a4→a5→a6→a7→a8→a9→a10→p:=by intro x1 x2 x3 x4 x5 x6 x7 x8 x9 x10; simp (disch:=first | exact dZ | fail) only [go_sem,x1,x2,x3,x4,x5,x6,x7,x8,x9,x10]):p:=h x1 x2 x3 x4 x5 x6 x7 x8 x9 x10
theorem FW {a1 a2 a3 a4 a5 a6 a7 a8 a9 a10 a11 p q:Prop} (x1:a1) (x2:a2) (x3:a3) (x4:a4) (x5:a5) (x6:a6) (x7:a7) (x8:a8) (x9:a9) (x10:a10) (x11:a11) (hq:q) (h:a1→a2→a3→a4→a5→a6→a7→a8→a9→a10→a11→p=q:=by intro x1 x2 x3 x4 x5 x6 x7 x8 x9 x10 x11; conv=>{ lhs; simp (disch:=first | exact dZ | fail) only [go_sem,x1,x2,x3,x4,x5,x6,x7,x8,x9,x10,x11] }):p:=(h x1 x2 x3 x4 x5 x6 x7 x8 x9 x10 x11).mpr hq
theorem Lp {a1 a2 a3 a4 a5 a6 a7 a8 a9 a10 a11 p:Prop} (x1:a1) (x2:a2) (x3:a3) (x4:a4) (x5:a5) (x6:a6) (x7:a7) (x8:a8) (x9:a9) (x10:a10) (x11:a11) (h:a1→a2→a3→a4→a5→a6→a7→a8→a9→a10→a11→p:=by intro x1 x2 x3 x4 x5 x6 x7 x8 x9 x10 x11; simp (disch:=first | exact dZ | fail) only [go_sem,x1,x2,x3,x4,x5,x6,x7,x8,x9,x10,x11]):p:=h x1 x2 x3 x4 x5 x6 x7 x8 x9 x10 x11
theorem Ko {a1 a2 a3 a4 a5 a6 a7 a8 a9 a10 a11 a12 p q:Prop} (x1:a1) (x2:a2) (x3:a3) (x4:a4) (x5:a5) (x6:a6) (x7:a7) (x8:a8) (x9:a9) (x10:a10) (x11:a11) (x12:a12) (hq:q) (h:a1→a2→a3→a4→a5→a6→a7→a8→a9→a10→a11→a12→p=q:=by intro x1 x2 x3 x4 x5 x6 x7 x8 x9 x10 x11 x12; conv=>{ lhs; simp (disch:=first | exact dZ | fail) only [go_sem,x1,x2,x3,x4,x5,x6,x7,x8,x9,x10,x11,x12] }):p:=(h x1 x2 x3 x4 x5 x6 x7 x8 x9 x10 x11 x12).mpr hq
theorem Lq {a1 a2 a3 a4 a5 a6 a7 a8 a9 a10 a11 a12 p:Prop} (x1:a1) (x2:a2) (x3:a3) (x4:a4) (x5:a5) (x6:a6) (x7:a7) (x8:a8) (x9:a9) (x10:a10) (x11:a11) (x12:a12) (h:a1→a2→a3→a4→a5→a6→a7→a8→a9→a10→a11→a12→p:=by intro x1 x2 x3 x4 x5 x6 x7 x8 x9 x10 x11 x12; simp (disch:=first | exact dZ | fail) only [go_sem,x1,x2,x3,x4,x5,x6,x7,x8,x9,x10,x11,x12]):p:=h x1 x2 x3 x4 x5 x6 x7 x8 x9 x10 x11 x12
theorem HX {a1 a2 a3 a4 a5 a6 a7 a8 a9 a10 a11 a12 a13 p q:Prop} (x1:a1) (x2:a2) (x3:a3) (x4:a4) (x5:a5) (x6:a6) (x7:a7) (x8:a8) (x9:a9) (x10:a10) (x11:a11) (x12:a12) (x13:a13) (hq:q) (h:a1→a2→a3→a4→a5→a6→a7→a8→a9→a10→a11→a12→a13→p=q:=by intro x1 x2 x3 x4 x5 x6 x7 x8 x9 x10 x11 x12 x13; conv=>{ lhs; simp (disch:=first | exact dZ | fail) only [go_sem,x1,x2,x3,x4,x5,x6,x7,x8,x9,x10,x11,x12,x13] }):p:=(h x1 x2 x3 x4 x5 x6 x7 x8 x9 x10 x11 x12 x13).mpr hq
theorem Lr {a1 a2 a3 a4 a5 a6 a7 a8 a9 a10 a11 a12 a13 p:Prop} (x1:a1) (x2:a2) (x3:a3) (x4:a4) (x5:a5) (x6:a6) (x7:a7) (x8:a8) (x9:a9) (x10:a10) (x11:a11) (x12:a12) (x13:a13) (h:a1→a2→a3→a4→a5→a6→a7→a8→a9→a10→a11→a12→a13→p:=by intro x1 x2 x3 x4 x5 x6 x7 x8 x9 x10 x11 x12 x13; simp (disch:=first | exact dZ | fail) only [go_sem,x1,x2,x3,x4,x5,x6,x7,x8,x9,x10,x11,x12,x13]):p:=h x1 x2 x3 x4 x5 x6 x7 x8 x9 x10 x11 x12 x13
theorem bU {p:Prop} (h:p:=by ((try simp (disch:=first | exact dZ | fail) only [go_sem]); (try simp only [and_true,true_and,eT,aU,dF,aP]); (try (refine ⟨?_,?_⟩ <;> omega)); (try omega))):p:=h
end Go.E
namespace Go.Proofs
open Go Go.E Go.Proofs.Tryz
theorem al {f:FuncId} {fn:Func} {c:Code} {args:Array Value} {N:Nat} {k:aq} {w:World} (rs:List ResultVar) (hf:prog.funcs[f]? = some fn) (h:hZ N prog c [] rs k (A0 args) w) (hb:fn.body=some c:=by rfl) (hN:fn.ntmps=N:=by rfl) (hrs:fn.results.toList=rs:=by rfl) (hok:dp N c=true:=by kernel_rfl) (hn:Nat.ble args.size N=true:=by kernel_rfl):ai prog f args k w :=
 rN hf hb hN hrs hok hn h
theorem bF {N:Nat} {st:List SI} {rs:List ResultVar} {k:aq} {e:de} {w:World} {id:Nat} {ops:Array Oper} (t:DT) (h:tK prog ⟨N,ops,st,rs,k⟩ t [] e w.drew) (hops:ops.toList.all (jY N)=true:=by kernel_rfl)
    (hns:Region.noSelect ops=true:=by kernel_rfl) (hc:iv prog ops true t ops.size (Array.replicate ops.size false) []=true:=by kernel_rfl):hZ N prog (.region id ops true) st rs k e w:=Iv t Tryz.mix hops hns hc h
section
variable {k:aq} {w:World} {v1 v2:Value} {l1 l2:Bytes}
theorem dG (h1:dR w v1 l1) (h2:dR w v2 l2) (hk:k (.int .i64 (eH l1 l2)) w):ai prog 85 #[v1,v2] k w:=by
 refine rN (rs:=[.tmp 4]) func85 rfl rfl rfl (by kernel_rfl) (by kernel_rfl) ?_
 have e:∀ q:aq,dH prog (Extern.BytealgCompare.compare #[v1,v2]) q w=q (.int .i64 (eH l1 l2)) w:=by
  intro q
  have hr:(Extern.BytealgCompare.compare #[v1,v2]).run prog w = .ok (.int .i64 (eH l1 l2)) w:=by
   show (do pure (goInt (Extern.BytealgCompare.cmp (← Extern.Bytes.bytesOf v1) (← Extern.Bytes.bytesOf v2))):Sem Value).run prog w=_
   simp only [Sem.run_bind,qI h1,qI h2,Result.andThen_ok,Sem.run_pure,goInt,HV]
  simp only [dH,hr]
 simp only [go_sem,e,↓reduceIte,Nat.reduceEqDiff,Nat.reduceAdd]
 exact hk
theorem gL (h1:dR w v1 l1) (q:aq):dK prog 56 9 v1 q w=q (.string ⟨l1.toArray⟩) w:=by
 have e:dK prog 56 9 v1 q w=cm (prog.underlying 5=some (.int .u8)) (fY w v1 fun v=>q v w):=by
  obtain ⟨a,c,rfl⟩:=aY h1
  simp only [dK,Tryz.underlying56,Tryz.underlying9]
 rw [e,wv h1]
 simp [cm,Tryz.underlying5]
theorem mN (h1:dR w v1 l1) (h2:dR w v2 l2) (hk:k (.bool (decide (l1=l2))) w):ai prog 86 #[v1,v2] k w:=by
 refine rN (rs:=[.tmp 4]) func86 rfl rfl rfl (by kernel_rfl) (by kernel_rfl) ?_
 simp only [go_sem,gL h1,gL h2,↓reduceIte,Nat.reduceEqDiff,Nat.reduceAdd,ByteArray.toList_mk]
 have e:(l1 == l2)=decide (l1=l2):=by rw [bG]; simp
 rw [e]
 exact hk
end
end Go.Proofs
end
section
namespace Go.E
open Go
structure Keep (M:Nat→Nat→Prop) (w w2:World):Prop where
 size:w.heap.size≤w2.heap.size
 cell:∀ b o,b < w.heap.size→¬ M b o→w2.cell? ⟨b,o,none⟩=w.cell? ⟨b,o,none⟩
 frozen:∀ b o,b < w.heap.size→w2.frozen? ⟨b,o,none⟩=w.frozen? ⟨b,o,none⟩
 block:∀ b,b < w.heap.size→(∀ o,¬ M b o)→w2.heap[b]? = w.heap[b]?
 st:w2.os=w.os∧w2.tape=w.tape∧w2.output=w.output
def bp (w w2:World):Prop:=Keep (fun _ _=>False) w w2
theorem aC {w:World} {b o:Nat} {v:Value} (h:w.cell? ⟨b,o,none⟩=some v):b < w.heap.size:=World.block_lt_of_cell? w ⟨b,o,none⟩ h
section keep
variable {M M2:Nat→Nat→Prop} {w w2 w3:World}
theorem Keep.refl (M:Nat→Nat→Prop) (w:World):Keep M w w:=⟨aF _,fun _ _ _ _=>rfl,fun _ _ _=>rfl,fun _ _ _=>rfl,rfl,rfl,rfl⟩
theorem Keep.trans (h:Keep M w w2) (h2:Keep M w2 w3):Keep M w w3 where
 size:=ah h.size h2.size
 cell b o hb hm:=by rw [h2.cell b o (aL hb h.size) hm,h.cell b o hb hm]
 frozen b o hb:=by rw [h2.frozen b o (aL hb h.size),h.frozen b o hb]
 block b hb hm:=by rw [h2.block b (aL hb h.size) hm,h.block b hb hm]
 st:=⟨h2.st.1.trans h.st.1,h2.st.2.1.trans h.st.2.1,h2.st.2.2.trans h.st.2.2⟩
theorem Keep.mono (h:Keep M w w2) (hm:∀ b o,b < w.heap.size→M b o→M2 b o):Keep M2 w w2 where
 size:=h.size
 cell b o hb hn:=h.cell b o hb fun hM=>hn (hm b o hb hM)
 frozen b o hb:=h.frozen b o hb
 block b hb hn:=h.block b hb fun o hM=>hn o (hm b o hb hM)
 st:=h.st
theorem bp.keep (h:bp w w2):Keep M w w2:=Keep.mono h fun _ _ _ h=>h.elim
theorem bp.refl (w:World):bp w w:=Keep.refl _ w
theorem bp.trans (h:bp w w2) (h2:bp w2 w3):bp w w3:=Keep.trans h h2
theorem Keep.some {b o:Nat} {v:Value} (h:Keep M w w2) (hc:w.cell? ⟨b,o,none⟩=some v) (hm:¬ M b o):w2.cell? ⟨b,o,none⟩=some v:=by rw [h.cell b o (aC hc) hm,hc]
theorem bp.cell {b o:Nat} {v:Value} (h:bp w w2) (hc:w.cell? ⟨b,o,none⟩=some v):w2.cell? ⟨b,o,none⟩=some v:=Keep.some h hc id
theorem bY {b o:Nat} {v:Value} (hm:M b o):Keep M w (w.setCell ⟨b,o,none⟩ v) where
 size:=by rw [World.size_setCell]; exact aF _
 cell b' o' hb hn:=World.cell?_setCell_other w _ _ v (fun he=>hn (by cases he; exact hm))
 frozen b' o' hb:=World.frozen?_setCell ..
 block b' hb hn:=by
  have:b≠b':=fun e=>hn o (e ▸ hm)
  simp [World.setCell,Array.getElem?_modify,this]
 st:=⟨rfl,rfl,rfl⟩
theorem Keep.set {b o:Nat} {v:Value} (h:Keep M w w2) (hm:b < w.heap.size→M b o):Keep M w (w2.setCell ⟨b,o,none⟩ v) where
 size:=by rw [World.size_setCell]; exact h.size
 cell b' o' hb hn:=(World.cell?_setCell_other w2 _ _ v (fun he=>hn (by cases he; exact hm hb))).trans (h.cell b' o' hb hn)
 frozen b' o' hb:=(World.frozen?_setCell ..).trans (h.frozen b' o' hb)
 block b' hb hn:=by
  have:b≠b':=fun e=>hn o (e ▸ hm (e ▸ hb))
  rw [← h.block b' hb hn]
  simp [World.setCell,Array.getElem?_modify,this]
 st:=h.st
theorem aJ (ob:Obj):bp w (w.alloc ob) where
 size:=by rw [World.size_alloc]; omega
 cell b o hb _:=World.cell?_alloc_lt w _ _ hb
 frozen b o hb:=World.frozen?_alloc_old w _ _ (Nat.ne_of_lt hb)
 block b hb _:=heap_alloc_old w ob hb
 st:=⟨rfl,rfl,rfl⟩
theorem Keep.alloc (h:Keep M w w2) (ob:Obj):Keep M w (w2.alloc ob):=h.trans (aJ ob).keep
theorem Keep.drew (h:Keep M w w2):Keep M w w2.drew:=h.trans ⟨aF _,fun _ _ _ _=>rfl,fun _ _ _=>rfl,fun _ _ _=>rfl,rfl,rfl,rfl⟩
theorem jR {Ap:Option Nat} (hg:w.grownBy w2 Ap) (hz:∀ b o,Ap=some b→w2.frozen? ⟨b,o,none⟩=w.frozen? ⟨b,o,none⟩) (hm:∀ b o,Ap=some b→b < w.heap.size→M b o):Keep M w w2 where
 size:=hg.size
 cell b o hb hn:=World.cell?_of_block (a:=⟨b,o,none⟩) (hg.block b hb fun e=>hn (hm b o e.symm hb))
 frozen b o hb:=by
  by_cases hr:some b=Ap
  ·exact hz b o hr.symm
  ·exact World.frozen?_of_block (a:=⟨b,o,none⟩) (hg.block b hb hr)
 block b hb hn:=hg.block b hb fun e=>hn 0 (hm b 0 e.symm hb)
 st:=⟨hg.os,hg.tape,hg.output⟩
end keep
section own
variable {w w2:World} {e:TypeId} {size:Nat} {v:Value} {n:Nat} {xs:List Value}
theorem cl {base g:Nat} (h:w.ownsRow base e size v n xs) (hg:v.ownBlock=some g) (o:Nat):w.frozen? ⟨g,o,none⟩=false:=by
 rcases h.2 with ⟨rfl,_⟩ | ⟨g',cap,cur,rfl,_,hc,_⟩
 ·simp [Value.ownBlock] at hg
 ·simp only [Value.ownBlock,aP] at hg
  subst hg
  simp [World.frozen?,hc]
theorem aX {base:Nat} {M:Nat→Nat→Prop} (h:w.ownsRow base e size v n xs) (hk:Keep M w w2) (hm:∀ g,v.ownBlock=some g→∀ o,¬ M g o):w2.ownsRow base e size v n xs:=by
 refine ⟨h.1,?_⟩
 rcases h.2 with hl | ⟨g,cap,cur,hv,hb,hc,rest⟩
 ·exact .inl hl
 ·refine .inr ⟨g,cap,cur,hv,hb,?_,rest⟩
  subst hv
  have hlt:g < w.heap.size:=by
   rcases aH g w.heap.size with h | h
   ·exact h
   ·simp [Array.getElem?_eq_none h] at hc
  rw [hk.block g hlt (hm g rfl),hc]
theorem cg {base:Nat} (h:w.ownsRow base e size v n xs):(v = .slice none 0 0∧n=0∧xs=[])∨∃ g cap,v = .slice (some ⟨g,0,none⟩) n cap∧n≤cap∧g < w.heap.size:=by
 rcases h.2 with ⟨rfl,rfl⟩ | ⟨g,cap,cur,hv,hb,hc,hn,rest⟩
 ·exact .inl ⟨rfl,rfl,List.eq_nil_of_length_eq_zero (by simpa using h.1)⟩
 ·refine .inr ⟨g,cap,hv,hn,?_⟩
  rcases aH g w.heap.size with h | h
  ·exact h
  ·simp [Array.getElem?_eq_none h] at hc
theorem bP {base:Nat} (h:w.ownsRow base e size v n xs):∃ a cap,v = .slice a n cap∧n≤cap∧cap≤9223372036854775807:=by
 rcases h.2 with ⟨rfl,rfl⟩ | ⟨g,cap,cur,hv,hb,hc,hn,hm,rest⟩
 ·exact ⟨_,_,rfl,aF _,by omega⟩
 ·exact ⟨_,_,hv,hn,by unfold maxLen at hm; omega⟩
theorem bW {base:Nat} {g cap:Nat} (h:w.ownsRow base e size (.slice (some ⟨g,0,none⟩) n cap) n xs) {j:Nat} {u:Value} (hj:xs[j]? = some u):w.cell? ⟨g,j,none⟩=some u:=by
 have hlt:j < n * size:=by rw [← h.1]; exact (aQ.1 hj).1
 rw [h.cellAt j hlt,hj]
theorem rT {base:Nat} {a:Option Addr} {cap m:Nat} (h:w.ownsRow base e size (.slice a n cap) n xs) (hm:m≤n):w.ownsRow base e size (.slice a m cap) m (xs.take (m * size)):=by
 refine ⟨?_,?_⟩
 ·rw [bE,h.1]; exact Nat.min_eq_left (bO _ hm)
 rcases h.2 with ⟨hv,rfl⟩ | ⟨g,cap',cur,hv,hb,hc,hn,hmx,hs,ht⟩
 ·obtain rfl:m=0:=by omega
  simp only [aU] at hv
  exact .inl ⟨by rw [hv.1,hv.2.2],rfl⟩
 ·simp only [aU] at hv
  obtain ⟨rfl,_,rfl⟩:=hv
  refine .inr ⟨g,cap,cur,rfl,hb,hc,by omega,hmx,hs,?_⟩
  rw [← ht,List.take_take,Nat.min_eq_left (bO _ hm)]
theorem eQ {base:Nat} {a:Option Addr} {cap:Nat} (h:w.ownsRow base e size (.slice a n cap) n xs):w.ownsRow base e size (.slice a 0 cap) 0 []:=by
 have:=rT h (aT n)
 simpa using this
theorem cR {base g cap:Nat} (h:w.ownsRow base e size (.slice (some ⟨g,0,none⟩) n cap) n xs) (j:Nat) (u:Value) :
    (w.setCell ⟨g,j,none⟩ u).ownsRow base e size (.slice (some ⟨g,0,none⟩) n cap) n (xs.set j u):=by
 rcases h.2 with ⟨hv,rfl⟩ | ⟨g',cap',cur,hv,hb,hc,hn,hm,hs,ht⟩
 ·simp at hv
 ·simp only [aU,aP,Addr.mk.injEq] at hv
  obtain ⟨⟨rfl,_⟩,_,rfl⟩:=hv
  refine ⟨by simp [h.1],.inr ⟨g,cap,cur.setIfInBounds j u,rfl,hb,?_,hn,hm,by simp [hs],?_⟩⟩
  ·simp only [World.setCell,Array.getElem?_modify,if_true,hc,Option.map_some]
   rfl
  ·rw [← ht]
   simp [List.take_set]
end own
section ops
variable {P:Program} {k:aq} {w:World}
theorem HY {t:TypeId} {cs:List Value} (h:Cr P t=some cs):dH P (Instr.alloc t true (.tuple #[])) k w=k (.pointer (some ⟨w.heap.size,0,none⟩)) (w.alloc (.cells cs.toArray t)):=by
 unfold Cr at h
 obtain ⟨v,hv,rfl⟩:=Option.map_eq_some_iff.1 h
 obtain ⟨i,hi,hz⟩:=Option.bind_eq_some_iff.1 hv
 have:(Instr.alloc t true (.tuple #[])).run P w = .ok (.pointer (some ⟨w.heap.size,0,none⟩)) (w.alloc (.cells v.cells t)):=by
  simp [Instr.alloc,zeroValue,typeInfo,hi,hz,newVar,newRow]
 simp only [dH,this,Array.toArray_toList]
@[go_sem ↓] theorem Lu {t:TypeId} {x:Value}:dH P (Instr.box t x) k w=k (.pointer (some ⟨w.heap.size,0,none⟩)) (w.alloc (.cells x.cells t)):=by
 have:(Instr.box t x).run P w = .ok (.pointer (some ⟨w.heap.size,0,none⟩)) (w.alloc (.cells x.cells t)):=by
  simp [Instr.box,newVar,newRow]
 simp only [dH,this]
attribute [go_sem] List.getElem?_toArray
def gM (P:Program) (t:TypeId):Option (TypeId × Nat × Nat) :=
 match P.underlying t with
 | some (.slice el)=>match P.info? el with
   | some i=>match i.zero with
    | some z=>if z.cells.size=i.size∧0 < i.size then some (el,i.size,i.bytes) else none
    | none=>none
   | none=>none
 | _=>none
theorem iP {t el:TypeId} {sz by_:Nat} (h:gM P t=some (el,sz,by_)) :
    ∃ i z,P.underlying t=some (.slice el)∧P.info? el=some i∧i.zero=some z∧i.size=sz∧i.bytes=by_∧z.cells.size=sz∧0 < sz:=by
 unfold gM at h
 split at h
 ·split at h
  ·split at h
   ·split at h
    ·rename_i hc
     simp only [aP,Prod.mk.injEq] at h
     obtain ⟨rfl,rfl,rfl⟩:=h
     exact ⟨_,_,by assumption,by assumption,by assumption,rfl,rfl,hc.1,hc.2⟩
    ·simp at h
   ·simp at h
  ·simp at h
 ·simp at h
theorem DU (z v:Array Value) (h:z.size=v.size):(v.zipIdx.foldl (fun (cs:Array Value) (x:Value × Nat)=>cs.setIfInBounds (0+x.2) x.1) z)=v:=by
 apply Array.ext'
 rw [← Array.foldl_toList,Array.toList_zipIdx]
 have hz:z.toList.length=v.toList.length:=by simpa using h
 have gen:∀ (l:List Value) (n:Nat) (z:Array Value),z.size=n+l.length→((l.zipIdx n).foldl (fun (cs:Array Value) (x:Value × Nat)=>cs.setIfInBounds (0+x.2) x.1) z).toList=z.toList.take n++l:=by
  intro l
  induction l with
  | nil=>intro n z hz; simp at hz; simp [dq,hz]
  | cons x l ih =>
   intro n z hz
   simp only [List.zipIdx_cons,List.foldl_cons]
   rw [ih (n+1) _ (by simp at hz ⊢; omega)]
   have hlt:n < z.toList.length:=by simp at hz ⊢; omega
   simp only [Nat.zero_add,Array.toList_setIfInBounds]
   rw [List.take_succ_eq_append_getElem (by simpa using hlt),List.take_set_of_le (aF n)]
   simp
 have:=gen v.toList 0 z (by simpa using h)
 simpa using this
theorem FX {t el:TypeId} {sz by_:Nat} {x:Value} (h:gM P t=some (el,sz,by_)) (hs:x.cells.size=sz) (hb:sz≤16777216) :
    dH P (Instr.buildSlice t 1 [(0,x)].toArray) k w=k (.slice (some ⟨w.heap.size,0,none⟩) 1 1) (w.alloc (.cells x.cells el)):=by
 obtain ⟨i,z,h1,h2,h3,rfl,rfl,h6,h7⟩:=iP h
 have e:(Instr.buildSlice t 1 [(0,x)].toArray).run P w = .ok (.slice (some ⟨w.heap.size,0,none⟩) 1 1) (w.alloc (.cells x.cells el)):=by
  have hf:=DU ((Array.range i.size).map fun j=>z.cells[j % z.cells.size]!) x.cells (by simp [hs])
  have hn:¬ (i.size=0):=by omega
  simp [Instr.buildSlice,run_underlying h1,sizeOf,typeInfo,h2,h3,zeroValue,newRow,show ¬ (16777216 < i.size) by omega,hn,Instr.fill,hs]
  congr 2
  refine Eq.trans ?_ hf
  simp [hs]
 simp only [dH,e]
def rW (w:World) (x:Value) (m:Nat) (news:List Value):Prop:=match x with
 | .slice none n _=>n=m∧m=0∧news=[]
 | .slice (some a) n _=>n=m∧∀ j u,news[j]? = some u→w.cell? (a.add j)=some u
 | _=>False
theorem pO {t ty el:TypeId} {sz by_:Nat} {v x:Value} {n m:Nat} {xs news:List Value} (h:gM P t=some (el,sz,by_)) (hown:w.ownsRow 0 el sz v n xs)
    (hl:news.length=m * sz) (hx:rW w x m news) (h1:∀ u ∈ news,u.oneCell'=true) (hb:(n+m) * (by_+1)≤140737488355328)
    (hk:∀ v2 w2,w2.ownsRow 0 el sz v2 (n+m) (xs++news)→(∀ M:Nat→Nat→Prop,(∀ b o,v.ownBlock=some b→b < w.heap.size→M b o)→Keep M w w2)→(v2.ownBlock=v.ownBlock∨∃ g,v2.ownBlock=some g∧w.heap.size≤g∧g < w2.heap.size)→(0 < m→v2.ownBlock.isSome)→k v2 w2) :
    dH P (Builtin.append_ [t,t].toArray ty [v,x].toArray) k w:=by
 obtain ⟨i,z,e1,e2,e3,e4,e5,e6,e7⟩:=iP h
 have hsm:n+m≤140737488355328:=ah (Nat.le_mul_of_pos_right _ (Nat.succ_pos _)) hb
 have hby:(n+m) * by_≤140737488355328:=ah (Nat.mul_le_mul_left _ (Nat.le_succ _)) hb
 unfold rW at hx
 split at hx
 ·obtain ⟨rfl,rfl,rfl⟩:=hx
  rename_i nn cc
  have hr:(Builtin.append_ [t,t].toArray ty [v,.slice none 0 cc].toArray).run P w = .ok v w:=by
   rcases hown.2 with ⟨rfl,rfl⟩ | ⟨g,cap,cur,rfl,_,hc,hn,_⟩
   ·simp [Builtin.append_,run_underlying e1,sizeOf,typeInfo,e2,Builtin.lenOf,Builtin.firstCells]
   ·simp [Builtin.append_,run_underlying e1,sizeOf,typeInfo,e2,Builtin.lenOf,Builtin.firstCells,hn,storeCells]
  simp only [dH,hr]
  refine hk v w (by simpa using hown) (fun M _=>Keep.refl M w) (.inl rfl) (by simp)
 ·rename_i a nn cc
  obtain ⟨rfl,hnews⟩:=hx
  have hml:n+nn≤maxLen:=by unfold maxLen; omega
  rcases hown.2 with ⟨rfl,rfl⟩ | ⟨g,cap,cur,rfl,_,hc,hn,_⟩
  ·obtain ⟨v2,w2,hr,r1,r2,r3,r4⟩:=run_append_own_at (P:=P) w 0 t ty el i z sz by_ e1 e2 e3 e4 e5 e6 e7 (.slice none 0 0) 0 xs hown a nn cc news hl hnews h1 hml hby (aT _)
   have hr':(Builtin.append_ [t,t].toArray ty [.slice none 0 0,.slice (some a) nn cc].toArray).run P w = .ok v2 w2:=hr
   simp only [dH,hr']
   refine hk v2 w2 r1 (fun M _=>jR r2 (by simp [Value.ownBlock]) (by simp [Value.ownBlock])) ?_ ?_
   ·rcases r4 with h | h
    ·exact .inl h
    ·exact .inr ⟨_,h,aF _,(r1.lt _ h).2⟩
   ·intro hm
    rcases r1.2 with ⟨hv,h0⟩ | ⟨g,cap,cur,rfl,_⟩
    ·omega
    ·rfl
  ·by_cases hroom:n+nn≤cap
   ·obtain ⟨w2,hr,r1,r2⟩:=run_append_fits (P:=P) w 0 t ty el i sz e1 e2 e4 g n cap xs hown a nn cc news hl hnews h1 hroom
    have hr':(Builtin.append_ [t,t].toArray ty [.slice (some ⟨g,0,none⟩) n cap,.slice (some a) nn cc].toArray).run P w = .ok (.slice (some ⟨g,0,none⟩) (n+nn) cap) w2:=hr
    simp only [dH,hr']
    refine hk _ w2 r1 (fun M hm=>jR r2 ?_ hm) (.inl rfl) (fun _=>rfl)
    intro b o hb
    simp only [aP] at hb
    subst hb
    rw [cl r1 rfl o,cl hown rfl o]
   ·obtain ⟨v2,w2,hr,r1,r2⟩:=run_append_arg_grows (P:=P) w t ty el i z sz by_ e1 e2 e3 e4 e5 e6 e7 ⟨g,0,none⟩ n cap xs hown.1 (hown.cells rfl) a nn cc news hl hnews (by omega) hml hby
    have hr':(Builtin.append_ [t,t].toArray ty [.slice (some ⟨g,0,none⟩) n cap,.slice (some a) nn cc].toArray).run P w = .ok v2 w2:=hr
    simp only [dH,hr']
    have r3:w2.ownsRow 0 el sz v2 (n+nn) (xs++news):=by
     refine ⟨r1.1,?_⟩
     rcases r1.2 with h | ⟨g,cap,cur,h1,h2,h3⟩
     ·exact .inl h
     ·exact .inr ⟨g,cap,cur,h1,aT _,h3⟩
    have r4:∃ g,v2.ownBlock=some g:=by
     rcases r1.2 with ⟨hv,h0⟩ | ⟨g,cap,cur,rfl,_⟩
     ·omega
     ·exact ⟨_,rfl⟩
    obtain ⟨g2,hg2⟩:=r4
    refine hk _ w2 r3 (fun M _=>jR r2 (by simp) (by simp)) (.inr ⟨g2,hg2,r1.lt _ hg2⟩) (fun _=>by simp [hg2])
 ·exact hx.elim
theorem cI {t:TypeId} {parts:List (Nat × Value)} {pl:Array (Nat × Nat)} {z cs:Array Value} {q:Value→Prop} (h:cx P t=some pl) (hz:((P.info? t).bind (·.zero)).map (·.cells)=some z)
    (hf:Instr.fill (pl[·]?) z parts=some cs):cX P t parts.toArray q=q (.agg cs):=by
 obtain ⟨v,hv,rfl⟩:=Option.map_eq_some_iff.1 hz
 simp only [cX,h,hv,hf]
theorem zI {s d el:TypeId} {str:ByteArray} (h1:P.underlying s=some .string) (h2:P.underlying d=some (.slice el)) (h3:P.underlying el=some (.int .u8)) (hs:str.size≤140737488355328)
    (hk:∀ a c w2,dR w2 (.slice (some ⟨w.heap.size,0,none⟩) a c) str.data.toList→a=str.size→bp w w2→w.heap.size < w2.heap.size→k (.slice (some ⟨w.heap.size,0,none⟩) a c) w2):dH P (convert s d (.string str)) k w:=by
 have hm:str.size≤maxLen:=by unfold maxLen; omega
 have hr:(convert s d (.string str)).run P w = .ok (.slice (some ⟨w.heap.size,0,none⟩) str.size (grownCap w str.size 0 el))
     ((w.drew.alloc (.cells (str.data.map (fun b=>Value.int .u8 b.toNat)++Array.replicate (grownCap w str.size 0 el - str.size) (.int .u8 0)) el)).freeze ⟨w.heap.size,(str.data.map (fun b=>Value.int .u8 b.toNat)++Array.replicate (grownCap w str.size 0 el - str.size) (Value.int .u8 0)).size,none⟩ 1):=by
  have hsh:∀ (w:World) (c:Array Value),(w.alloc (.cells c el)).shape? w.heap.size=some (el,c.size):=fun w c=>by unfold World.shape?; rw [heap_alloc_new]
  have hsd:∀ (c:Array Value),(w.drew.alloc (.cells c el)).shape? w.heap.size=some (el,c.size):=fun c=>hsh w.drew c
  simp [convert,run_underlying h1,run_underlying h2,run_underlying h3,Conv.stringToBytes,newRow,markStringish,grownCap,hsd,Question.forced]
 have hcap:=grownCap_ge w str.size 0 el
 simp only [dH,hr]
 have fz:∀ (w:World) (a:Addr) (n:Nat) (b o:Nat),(w.freeze a n).cell? ⟨b,o,none⟩=w.cell? ⟨b,o,none⟩:=by
  intro w a n b o
  unfold World.freeze
  split
  ·rfl
  ·simp only [World.cell?,Array.getElem?_modify]
   by_cases hb:a.block=b
   ·rw [if_pos hb]
    cases hw:w.heap[b]? with
    | none=>rfl
    | some x=>cases x <;> rfl
   ·rw [if_neg hb]
 have fo:∀ (w:World) (a:Addr) (n:Nat) (b:Nat),a.block≠b→(w.freeze a n).heap[b]? = w.heap[b]? := by
  intro w a n b hb
  unfold World.freeze
  split
  ·rfl
  ·simp only [Array.getElem?_modify,if_neg hb]
 have fs:∀ (w:World) (a:Addr) (n:Nat),(w.freeze a n).heap.size=w.heap.size:=by
  intro w a n
  unfold World.freeze
  split
  ·rfl
  ·simp
 have ft:∀ (w:World) (a:Addr) (n:Nat),(w.freeze a n).os=w.os∧(w.freeze a n).tape=w.tape∧(w.freeze a n).output=w.output:=by
  intro w a n
  unfold World.freeze
  split
  ·exact ⟨rfl,rfl,rfl⟩
  ·exact ⟨rfl,rfl,rfl⟩
 refine hk _ _ _ ?_ rfl ⟨?_,?_,?_,?_,ft _ _ _⟩ ?_
 ·refine ⟨rfl,(Array.length_toList).symm,?_⟩
  intro i v hv
  rw [fz]
  simp only [Nat.zero_add]
  have:=World.cell?_alloc_new w.drew (str.data.map (fun b=>Value.int .u8 b.toNat)++Array.replicate (grownCap w str.size 0 el - str.size) (.int .u8 0)) el i
  refine Eq.trans this ?_
  have hi:i < str.data.size:=by
   have:=(aQ.1 hv).1
   simpa [eF] using this
  rw [Array.getElem?_append_left (by simpa using hi)]
  simpa [eF,Array.getElem?_map,bw] using hv
 ·rw [fs]; simp
 ·intro b o hb _
  rw [fz]; exact World.cell?_alloc_lt w.drew _ _ hb
 ·intro b o hb
  have h1:=fo (w.drew.alloc (.cells (str.data.map (fun b=>Value.int .u8 b.toNat)++Array.replicate (grownCap w str.size 0 el - str.size) (.int .u8 0)) el)) ⟨w.heap.size,(str.data.map (fun b=>Value.int .u8 b.toNat)++Array.replicate (grownCap w str.size 0 el - str.size) (Value.int .u8 0)).size,none⟩ 1 b (by simp only; omega)
  have h2:=heap_alloc_old w.drew (.cells (str.data.map (fun b=>Value.int .u8 b.toNat)++Array.replicate (grownCap w str.size 0 el - str.size) (.int .u8 0)) el) hb
  exact World.frozen?_of_block (a:=⟨b,o,none⟩) (h1.trans h2)
 ·intro b hb _
  have h1:=fo (w.drew.alloc (.cells (str.data.map (fun b=>Value.int .u8 b.toNat)++Array.replicate (grownCap w str.size 0 el - str.size) (.int .u8 0)) el)) ⟨w.heap.size,(str.data.map (fun b=>Value.int .u8 b.toNat)++Array.replicate (grownCap w str.size 0 el - str.size) (Value.int .u8 0)).size,none⟩ 1 b (by simp only; omega)
  have h2:=heap_alloc_old w.drew (.cells (str.data.map (fun b=>Value.int .u8 b.toNat)++Array.replicate (grownCap w str.size 0 el - str.size) (.int .u8 0)) el) hb
  exact h1.trans h2
 ·rw [fs]; simp
def fD {α:Type} (R:World→Nat→Nat→α→Prop) (sz:Nat) (w:World) (v:Value) (l:List α):Prop:=match v with
 | .slice none n _=>n=0∧l=[]
 | .slice (some a) n c=>(0 < n→a.spot=none)∧n=l.length∧n≤c∧∀ i x,l[i]? = some x→R w a.block (a.off+i * sz) x
 | _=>False
def cM (d w:World):Prop:=∀ b o v,d.cell? ⟨b,o,none⟩=some v→w.cell? ⟨b,o,none⟩=some v
def cj (d:World) (b:Nat):Prop:=∀ o,d.cell? ⟨b,o,none⟩=none
theorem cM.refl (w:World):cM w w:=fun _ _ _ h=>h
theorem cM.trans {a b c:World} (h:cM a b) (h2:cM b c):cM a c:=fun x o v hv=>h2 x o v (h x o v hv)
theorem cM.keep {d a b:World} {M:Nat→Nat→Prop} (h:cM d a) (hk:Keep M a b) (hm:∀ x o,M x o→d.cell? ⟨x,o,none⟩=none):cM d b:=fun x o v hv =>
 hk.some (h x o v hv) fun hM=>by rw [hm x o hM] at hv; simp at hv
theorem bp.inc {w w2:World} (h:bp w w2):cM w w2:=fun _ _ _ hv=>h.cell hv
theorem cM.set {d w:World} {b o:Nat} {v:Value} (h:cM d w) (hb:cj d b):cM d (w.setCell ⟨b,o,none⟩ v) :=
 cM.keep (M:=fun x _=>x=b) h (bY rfl) fun x o hx=>by rw [hx]; exact hb o
theorem cM.alloc {d w:World} (h:cM d w) (ob:Obj):cM d (w.alloc ob):=h.trans (aJ ob).inc
theorem cM.drew {d w:World} (h:cM d w):cM d w.drew:=h
theorem cM.out {d w:World} (h:cM d w) {b:Nat} (hb:w.heap.size≤b):cj d b:=fun o=>by
 cases hc:d.cell? ⟨b,o,none⟩ with
 | none=>rfl
 | some v=>have:=aC (h b o v hc); omega
theorem cM.ne {d:World} {b b2 o:Nat} {v:Value} (h:d.cell? ⟨b,o,none⟩=some v) (hb:cj d b2):b≠b2:=fun e=>by subst e; rw [hb o] at h; simp at h
def only (w:World) (D:Nat→Bool):World:={ w with heap:=w.heap.mapIdx fun i o=>if D i then o else .cells #[] 0 }
theorem iI (w:World) (D:Nat→Bool) (b o:Nat):(only w D).cell? ⟨b,o,none⟩=if D b then w.cell? ⟨b,o,none⟩ else none:=by
 unfold only World.cell?
 simp only [Array.getElem?_mapIdx]
 cases hb:w.heap[b]? with
 | none=>simp
 | some x =>
  cases hD:D b with
  | true=>simp
  | false=>simp
theorem nt (w:World) (D:Nat→Bool):cM (only w D) w:=fun b o v h=>by
 rw [iI] at h
 split at h
 ·exact h
 ·simp at h
theorem nx (w:World) (D:Nat→Bool) {b:Nat} (h:D b=false):cj (only w D) b:=fun o=>by rw [iI,h]; rfl
theorem ny {d w:World} (h:cM d w) (D:Nat→Bool) (hD:∀ b o v,d.cell? ⟨b,o,none⟩=some v→D b=true):cM d (only w D):=fun b o v hv=>by
 rw [iI,hD b o v hv,if_pos rfl]; exact h b o v hv
def DV {α:Type} (R:World→Nat→Nat→α→Prop):Prop:=∀ w w2 b o x,cM w w2→R w b o x→R w2 b o x
theorem dR.inc {w w2:World} {v:Value} {l:Bytes} (h:dR w v l) (hi:cM w w2):dR w2 v l:=by
 unfold dR at h ⊢
 split at h
 ·exact h
 ·exact ⟨h.1,h.2.1,fun i x hx=>hi _ _ _ (h.2.2 i x hx)⟩
 ·exact h.elim
theorem fD.inc {α:Type} {R:World→Nat→Nat→α→Prop} {sz:Nat} {w w2:World} {v:Value} {l:List α} (hR:DV R) (h:fD R sz w v l) (hi:cM w w2):fD R sz w2 v l:=by
 unfold fD at h ⊢
 split at h
 ·exact h
 ·exact ⟨h.1,h.2.1,h.2.2.1,fun i x hx=>hR _ _ _ _ _ hi (h.2.2.2 i x hx)⟩
 ·exact h.elim
theorem fD.form {α:Type} {R:World→Nat→Nat→α→Prop} {sz:Nat} {w:World} {v:Value} {l:List α} (h:fD R sz w v l):∃ a c,v = .slice a l.length c:=by
 unfold fD at h
 split at h
 ·obtain ⟨rfl,rfl⟩:=h; exact ⟨_,_,rfl⟩
 ·obtain ⟨_,rfl,_⟩:=h; exact ⟨_,_,rfl⟩
 ·exact h.elim
theorem fD.at {α:Type} {R:World→Nat→Nat→α→Prop} {sz:Nat} {w:World} {v:Value} {l:List α} (h:fD R sz w v l) (hne:0 < l.length) :
    ∃ b o c,v = .slice (some ⟨b,o,none⟩) l.length c∧l.length≤c∧∀ i x,l[i]? = some x→R w b (o+i * sz) x:=by
 unfold fD at h
 split at h
 ·obtain ⟨_,rfl⟩:=h; simp at hne
 ·rename_i a n c
  obtain ⟨h1,rfl,h2,h3⟩:=h
  obtain ⟨b,o,s⟩:=a
  have h1:s=none:=h1 hne
  subst h1
  exact ⟨b,o,c,rfl,h2,h3⟩
 ·exact h.elim
end ops
end Go.E
end
