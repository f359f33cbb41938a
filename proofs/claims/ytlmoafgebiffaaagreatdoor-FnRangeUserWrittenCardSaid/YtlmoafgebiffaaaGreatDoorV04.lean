/- Parts of the proof: G, N. -/
import Derived.Test.YtlmoafgebiffaaaGreatDoorV03
set_option linter.all false
set_option maxRecDepth 10000
section
namespace Go.Proofs
open Go Go.E
theorem Tryz.rw22:gM Tryz.prog 22=some (30,3,56):=by kernel_rfl
theorem Tryz.rw26:gM Tryz.prog 26=some (22,1,24):=by kernel_rfl
theorem Tryz.rw27:gM Tryz.prog 27=some (37,3,56):=by kernel_rfl
theorem Tryz.rw28:gM Tryz.prog 28=some (53,3,40):=by kernel_rfl
theorem Tryz.rw32:gM Tryz.prog 32=some (40,3,40):=by kernel_rfl
theorem Tryz.rw35:gM Tryz.prog 35=some (91,3,40):=by kernel_rfl
theorem Tryz.rw56:gM Tryz.prog 56=some (5,1,1):=by kernel_rfl
theorem Tryz.rw57:gM Tryz.prog 57=some (117,3,56):=by kernel_rfl
theorem Tryz.rw83:gM Tryz.prog 83=some (95,5,64):=by kernel_rfl
theorem Tryz.rw85:gM Tryz.prog 85=some (27,1,24):=by kernel_rfl
theorem Tryz.rw89:gM Tryz.prog 89=some (205,2,24):=by kernel_rfl
theorem Tryz.rw97:gM Tryz.prog 97=some (9,1,16):=by kernel_rfl
theorem Tryz.rw102:gM Tryz.prog 102=some (56,1,24):=by kernel_rfl
theorem Tryz.rw103:gM Tryz.prog 103=some (113,2,48):=by kernel_rfl
theorem Tryz.rw140:gM Tryz.prog 140=some (61,4,80):=by kernel_rfl
theorem Tryz.rw143:gM Tryz.prog 143=some (117,3,56):=by kernel_rfl
theorem Tryz.rw189:gM Tryz.prog 189=some (164,2,16):=by kernel_rfl
theorem Tryz.rw201:gM Tryz.prog 201=some (155,1,16):=by kernel_rfl
theorem Tryz.pl30:cx Tryz.prog 30=some #[(0,1),(1,1),(2,1)]:=by kernel_rfl
theorem Tryz.zc30:((Tryz.prog.info? 30).bind (·.zero)).map (·.cells)=some #[.string .empty,.string .empty,.slice none 0 0]:=by kernel_rfl
@[go_sem ↓] theorem Tryz.bd30_0_1 {v0 v1:Value} {q:Value→Prop} (h0:v0.cells = #[v0]) (h1:v1.cells = #[v1]):cX Tryz.prog 30 ([(0,v0),(1,v1)]:List (Nat × Value)).toArray q=q (.agg ([v0,v1,.slice none 0 0]:List Value).toArray):=by
 refine cI (cs := #[v0,v1,.slice none 0 0]) Tryz.pl30 Tryz.zc30 ?_
 simp [Instr.fill,cC,h0,h1]
@[go_sem ↓] theorem Tryz.bd30_0_1_2 {v0 v1 v2:Value} {q:Value→Prop} (h0:v0.cells = #[v0]) (h1:v1.cells = #[v1]) (h2:v2.cells = #[v2]):cX Tryz.prog 30 ([(0,v0),(1,v1),(2,v2)]:List (Nat × Value)).toArray q=q (.agg ([v0,v1,v2]:List Value).toArray):=by
 refine cI (cs := #[v0,v1,v2]) Tryz.pl30 Tryz.zc30 ?_
 simp [Instr.fill,cC,h0,h1,h2]
theorem Tryz.pl37:cx Tryz.prog 37=some #[(0,1),(1,1),(2,1)]:=by kernel_rfl
theorem Tryz.zc37:((Tryz.prog.info? 37).bind (·.zero)).map (·.cells)=some #[.string .empty,.string .empty,.slice none 0 0]:=by kernel_rfl
@[go_sem ↓] theorem Tryz.bd37_0_1_2 {v0 v1 v2:Value} {q:Value→Prop} (h0:v0.cells = #[v0]) (h1:v1.cells = #[v1]) (h2:v2.cells = #[v2]):cX Tryz.prog 37 ([(0,v0),(1,v1),(2,v2)]:List (Nat × Value)).toArray q=q (.agg ([v0,v1,v2]:List Value).toArray):=by
 refine cI (cs := #[v0,v1,v2]) Tryz.pl37 Tryz.zc37 ?_
 simp [Instr.fill,cC,h0,h1,h2]
theorem Tryz.pl40:cx Tryz.prog 40=some #[(0,1),(1,1),(2,1)]:=by kernel_rfl
theorem Tryz.zc40:((Tryz.prog.info? 40).bind (·.zero)).map (·.cells)=some #[.string .empty,.int .u64 0,.string .empty]:=by kernel_rfl
@[go_sem ↓] theorem Tryz.bd40_0_1 {v0 v1:Value} {q:Value→Prop} (h0:v0.cells = #[v0]) (h1:v1.cells = #[v1]):cX Tryz.prog 40 ([(0,v0),(1,v1)]:List (Nat × Value)).toArray q=q (.agg ([v0,v1,.string .empty]:List Value).toArray):=by
 refine cI (cs := #[v0,v1,.string .empty]) Tryz.pl40 Tryz.zc40 ?_
 simp [Instr.fill,cC,h0,h1]
theorem Tryz.pl53:cx Tryz.prog 53=some #[(0,1),(1,1),(2,1)]:=by kernel_rfl
theorem Tryz.zc53:((Tryz.prog.info? 53).bind (·.zero)).map (·.cells)=some #[.int .u64 0,.string .empty,.string .empty]:=by kernel_rfl
@[go_sem ↓] theorem Tryz.bd53_1_2 {v1 v2:Value} {q:Value→Prop} (h1:v1.cells = #[v1]) (h2:v2.cells = #[v2]):cX Tryz.prog 53 ([(1,v1),(2,v2)]:List (Nat × Value)).toArray q=q (.agg ([.int .u64 0,v1,v2]:List Value).toArray):=by
 refine cI (cs := #[.int .u64 0,v1,v2]) Tryz.pl53 Tryz.zc53 ?_
 simp [Instr.fill,cC,h1,h2]
theorem Tryz.pl61:cx Tryz.prog 61=some #[(0,1),(1,1),(2,1),(3,1)]:=by kernel_rfl
theorem Tryz.zc61:((Tryz.prog.info? 61).bind (·.zero)).map (·.cells)=some #[.slice none 0 0,.slice none 0 0,.slice none 0 0,.int .i8 0]:=by kernel_rfl
@[go_sem ↓] theorem Tryz.bd61_0_1_2 {v0 v1 v2:Value} {q:Value→Prop} (h0:v0.cells = #[v0]) (h1:v1.cells = #[v1]) (h2:v2.cells = #[v2]):cX Tryz.prog 61 ([(0,v0),(1,v1),(2,v2)]:List (Nat × Value)).toArray q=q (.agg ([v0,v1,v2,.int .i8 0]:List Value).toArray):=by
 refine cI (cs := #[v0,v1,v2,.int .i8 0]) Tryz.pl61 Tryz.zc61 ?_
 simp [Instr.fill,cC,h0,h1,h2]
@[go_sem ↓] theorem Tryz.bd61_0_1_2_3 {v0 v1 v2 v3:Value} {q:Value→Prop} (h0:v0.cells = #[v0]) (h1:v1.cells = #[v1]) (h2:v2.cells = #[v2]) (h3:v3.cells = #[v3]):cX Tryz.prog 61 ([(0,v0),(1,v1),(2,v2),(3,v3)]:List (Nat × Value)).toArray q=q (.agg ([v0,v1,v2,v3]:List Value).toArray):=by
 refine cI (cs := #[v0,v1,v2,v3]) Tryz.pl61 Tryz.zc61 ?_
 simp [Instr.fill,cC,h0,h1,h2,h3]
@[go_sem ↓] theorem Tryz.bd61_0_1_3 {v0 v1 v3:Value} {q:Value→Prop} (h0:v0.cells = #[v0]) (h1:v1.cells = #[v1]) (h3:v3.cells = #[v3]):cX Tryz.prog 61 ([(0,v0),(1,v1),(3,v3)]:List (Nat × Value)).toArray q=q (.agg ([v0,v1,.slice none 0 0,v3]:List Value).toArray):=by
 refine cI (cs := #[v0,v1,.slice none 0 0,v3]) Tryz.pl61 Tryz.zc61 ?_
 simp [Instr.fill,cC,h0,h1,h3]
theorem Tryz.pl68:cx Tryz.prog 68=some #[(0,1),(1,1)]:=by kernel_rfl
theorem Tryz.zc68:((Tryz.prog.info? 68).bind (·.zero)).map (·.cells)=some #[.slice none 0 0,.int .u64 0]:=by kernel_rfl
@[go_sem ↓] theorem Tryz.bd68_0_1 {v0 v1:Value} {q:Value→Prop} (h0:v0.cells = #[v0]) (h1:v1.cells = #[v1]):cX Tryz.prog 68 ([(0,v0),(1,v1)]:List (Nat × Value)).toArray q=q (.agg ([v0,v1]:List Value).toArray):=by
 refine cI (cs := #[v0,v1]) Tryz.pl68 Tryz.zc68 ?_
 simp [Instr.fill,cC,h0,h1]
theorem Tryz.pl88:cx Tryz.prog 88=some #[(0,1),(1,1)]:=by kernel_rfl
theorem Tryz.zc88:((Tryz.prog.info? 88).bind (·.zero)).map (·.cells)=some #[.string .empty,.bool false]:=by kernel_rfl
@[go_sem ↓] theorem Tryz.bd88 {q:Value→Prop}  : cX Tryz.prog 88 ([]:List (Nat × Value)).toArray q=q (.agg ([.string .empty,.bool false]:List Value).toArray):=by
 refine cI (cs := #[.string .empty,.bool false]) Tryz.pl88 Tryz.zc88 ?_
 simp [Instr.fill,cC]
theorem Tryz.pl91:cx Tryz.prog 91=some #[(0,1),(1,1),(2,1)]:=by kernel_rfl
theorem Tryz.zc91:((Tryz.prog.info? 91).bind (·.zero)).map (·.cells)=some #[.int .u64 0,.string .empty,.string .empty]:=by kernel_rfl
@[go_sem ↓] theorem Tryz.bd91_0_1 {v0 v1:Value} {q:Value→Prop} (h0:v0.cells = #[v0]) (h1:v1.cells = #[v1]):cX Tryz.prog 91 ([(0,v0),(1,v1)]:List (Nat × Value)).toArray q=q (.agg ([v0,v1,.string .empty]:List Value).toArray):=by
 refine cI (cs := #[v0,v1,.string .empty]) Tryz.pl91 Tryz.zc91 ?_
 simp [Instr.fill,cC,h0,h1]
@[go_sem ↓] theorem Tryz.bd91_0_1_2 {v0 v1 v2:Value} {q:Value→Prop} (h0:v0.cells = #[v0]) (h1:v1.cells = #[v1]) (h2:v2.cells = #[v2]):cX Tryz.prog 91 ([(0,v0),(1,v1),(2,v2)]:List (Nat × Value)).toArray q=q (.agg ([v0,v1,v2]:List Value).toArray):=by
 refine cI (cs := #[v0,v1,v2]) Tryz.pl91 Tryz.zc91 ?_
 simp [Instr.fill,cC,h0,h1,h2]
theorem Tryz.pl95:cx Tryz.prog 95=some #[(0,1),(1,1),(2,3)]:=by kernel_rfl
theorem Tryz.zc95:((Tryz.prog.info? 95).bind (·.zero)).map (·.cells)=some #[.bool false,.bool false,.string .empty,.string .empty,.slice none 0 0]:=by kernel_rfl
@[go_sem ↓] theorem Tryz.bd95 {q:Value→Prop}  : cX Tryz.prog 95 ([]:List (Nat × Value)).toArray q=q (.agg ([.bool false,.bool false,.string .empty,.string .empty,.slice none 0 0]:List Value).toArray):=by
 refine cI (cs := #[.bool false,.bool false,.string .empty,.string .empty,.slice none 0 0]) Tryz.pl95 Tryz.zc95 ?_
 simp [Instr.fill,cC]
@[go_sem ↓] theorem Tryz.bd95_0 {v0:Value} {q:Value→Prop} (h0:v0.cells = #[v0]):cX Tryz.prog 95 ([(0,v0)]:List (Nat × Value)).toArray q=q (.agg ([v0,.bool false,.string .empty,.string .empty,.slice none 0 0]:List Value).toArray):=by
 refine cI (cs := #[v0,.bool false,.string .empty,.string .empty,.slice none 0 0]) Tryz.pl95 Tryz.zc95 ?_
 simp [Instr.fill,cC,h0]
theorem Tryz.pl105:cx Tryz.prog 105=some #[(0,1),(1,1),(2,1),(3,1)]:=by kernel_rfl
theorem Tryz.zc105:((Tryz.prog.info? 105).bind (·.zero)).map (·.cells)=some #[.nilFunc,.slice none 0 0,.slice none 0 0,.slice none 0 0]:=by kernel_rfl
@[go_sem ↓] theorem Tryz.bd105_0 {v0:Value} {q:Value→Prop} (h0:v0.cells = #[v0]):cX Tryz.prog 105 ([(0,v0)]:List (Nat × Value)).toArray q=q (.agg ([v0,.slice none 0 0,.slice none 0 0,.slice none 0 0]:List Value).toArray):=by
 refine cI (cs := #[v0,.slice none 0 0,.slice none 0 0,.slice none 0 0]) Tryz.pl105 Tryz.zc105 ?_
 simp [Instr.fill,cC,h0]
theorem Tryz.pl113:cx Tryz.prog 113=some #[(0,1),(1,1)]:=by kernel_rfl
theorem Tryz.zc113:((Tryz.prog.info? 113).bind (·.zero)).map (·.cells)=some #[.slice none 0 0,.slice none 0 0]:=by kernel_rfl
@[go_sem ↓] theorem Tryz.bd113_0_1 {v0 v1:Value} {q:Value→Prop} (h0:v0.cells = #[v0]) (h1:v1.cells = #[v1]):cX Tryz.prog 113 ([(0,v0),(1,v1)]:List (Nat × Value)).toArray q=q (.agg ([v0,v1]:List Value).toArray):=by
 refine cI (cs := #[v0,v1]) Tryz.pl113 Tryz.zc113 ?_
 simp [Instr.fill,cC,h0,h1]
theorem Tryz.pl117:cx Tryz.prog 117=some #[(0,1),(1,1),(2,1)]:=by kernel_rfl
theorem Tryz.zc117:((Tryz.prog.info? 117).bind (·.zero)).map (·.cells)=some #[.int .u64 0,.slice none 0 0,.slice none 0 0]:=by kernel_rfl
@[go_sem ↓] theorem Tryz.bd117 {q:Value→Prop}  : cX Tryz.prog 117 ([]:List (Nat × Value)).toArray q=q (.agg ([.int .u64 0,.slice none 0 0,.slice none 0 0]:List Value).toArray):=by
 refine cI (cs := #[.int .u64 0,.slice none 0 0,.slice none 0 0]) Tryz.pl117 Tryz.zc117 ?_
 simp [Instr.fill,cC]
@[go_sem ↓] theorem Tryz.bd117_0 {v0:Value} {q:Value→Prop} (h0:v0.cells = #[v0]):cX Tryz.prog 117 ([(0,v0)]:List (Nat × Value)).toArray q=q (.agg ([v0,.slice none 0 0,.slice none 0 0]:List Value).toArray):=by
 refine cI (cs := #[v0,.slice none 0 0,.slice none 0 0]) Tryz.pl117 Tryz.zc117 ?_
 simp [Instr.fill,cC,h0]
@[go_sem ↓] theorem Tryz.bd117_0_1 {v0 v1:Value} {q:Value→Prop} (h0:v0.cells = #[v0]) (h1:v1.cells = #[v1]):cX Tryz.prog 117 ([(0,v0),(1,v1)]:List (Nat × Value)).toArray q=q (.agg ([v0,v1,.slice none 0 0]:List Value).toArray):=by
 refine cI (cs := #[v0,v1,.slice none 0 0]) Tryz.pl117 Tryz.zc117 ?_
 simp [Instr.fill,cC,h0,h1]
@[go_sem ↓] theorem Tryz.bd117_0_1_2 {v0 v1 v2:Value} {q:Value→Prop} (h0:v0.cells = #[v0]) (h1:v1.cells = #[v1]) (h2:v2.cells = #[v2]):cX Tryz.prog 117 ([(0,v0),(1,v1),(2,v2)]:List (Nat × Value)).toArray q=q (.agg ([v0,v1,v2]:List Value).toArray):=by
 refine cI (cs := #[v0,v1,v2]) Tryz.pl117 Tryz.zc117 ?_
 simp [Instr.fill,cC,h0,h1,h2]
theorem Tryz.pl137:cx Tryz.prog 137=some #[(0,1),(1,1),(2,1),(3,1),(4,1),(5,1),(6,1),(7,1),(8,1)]:=by kernel_rfl
theorem Tryz.zc137:((Tryz.prog.info? 137).bind (·.zero)).map (·.cells)=some #[.nilFunc,.nilFunc,.nilFunc,.nilFunc,.nilFunc,.nilFunc,.nilFunc,.nilFunc,.string .empty]:=by kernel_rfl
@[go_sem ↓] theorem Tryz.bd137_0_1_2_4_6_7_8 {v0 v1 v2 v4 v6 v7 v8:Value} {q:Value→Prop} (h0:v0.cells = #[v0]) (h1:v1.cells = #[v1]) (h2:v2.cells = #[v2]) (h4:v4.cells = #[v4]) (h6:v6.cells = #[v6]) (h7:v7.cells = #[v7]) (h8:v8.cells = #[v8]):cX Tryz.prog 137 ([(0,v0),(1,v1),(2,v2),(4,v4),(6,v6),(7,v7),(8,v8)]:List (Nat × Value)).toArray q=q (.agg ([v0,v1,v2,.nilFunc,v4,.nilFunc,v6,v7,v8]:List Value).toArray):=by
 refine cI (cs := #[v0,v1,v2,.nilFunc,v4,.nilFunc,v6,v7,v8]) Tryz.pl137 Tryz.zc137 ?_
 simp [Instr.fill,cC,h0,h1,h2,h4,h6,h7,h8]
theorem Tryz.pl145:cx Tryz.prog 145=some #[(0,1),(1,1),(2,1),(3,1),(4,1),(5,2),(7,1),(8,1),(9,1)]:=by kernel_rfl
theorem Tryz.zc145:((Tryz.prog.info? 145).bind (·.zero)).map (·.cells)=some #[.nilFunc,.nilFunc,.nilFunc,.slice none 0 0,.slice none 0 0,.nilFunc,.slice none 0 0,.slice none 0 0,.slice none 0 0,.bool false]:=by kernel_rfl
@[go_sem ↓] theorem Tryz.bd145_0_2 {v0 v2:Value} {q:Value→Prop} (h0:v0.cells = #[v0]) (h2:v2.cells = #[v2]):cX Tryz.prog 145 ([(0,v0),(2,v2)]:List (Nat × Value)).toArray q=q (.agg ([v0,.nilFunc,v2,.slice none 0 0,.slice none 0 0,.nilFunc,.slice none 0 0,.slice none 0 0,.slice none 0 0,.bool false]:List Value).toArray):=by
 refine cI (cs := #[v0,.nilFunc,v2,.slice none 0 0,.slice none 0 0,.nilFunc,.slice none 0 0,.slice none 0 0,.slice none 0 0,.bool false]) Tryz.pl145 Tryz.zc145 ?_
 simp [Instr.fill,cC,h0,h2]
theorem Tryz.pl158:cx Tryz.prog 158=some #[(0,1),(1,1),(2,1)]:=by kernel_rfl
theorem Tryz.zc158:((Tryz.prog.info? 158).bind (·.zero)).map (·.cells)=some #[.int .i8 0,.slice none 0 0,.pointer none]:=by kernel_rfl
@[go_sem ↓] theorem Tryz.bd158_0 {v0:Value} {q:Value→Prop} (h0:v0.cells = #[v0]):cX Tryz.prog 158 ([(0,v0)]:List (Nat × Value)).toArray q=q (.agg ([v0,.slice none 0 0,.pointer none]:List Value).toArray):=by
 refine cI (cs := #[v0,.slice none 0 0,.pointer none]) Tryz.pl158 Tryz.zc158 ?_
 simp [Instr.fill,cC,h0]
@[go_sem ↓] theorem Tryz.bd158_0_1_2 {v0 v1 v2:Value} {q:Value→Prop} (h0:v0.cells = #[v0]) (h1:v1.cells = #[v1]) (h2:v2.cells = #[v2]):cX Tryz.prog 158 ([(0,v0),(1,v1),(2,v2)]:List (Nat × Value)).toArray q=q (.agg ([v0,v1,v2]:List Value).toArray):=by
 refine cI (cs := #[v0,v1,v2]) Tryz.pl158 Tryz.zc158 ?_
 simp [Instr.fill,cC,h0,h1,h2]
theorem Tryz.pl160:cx Tryz.prog 160=some #[(0,1),(1,3)]:=by kernel_rfl
theorem Tryz.zc160:((Tryz.prog.info? 160).bind (·.zero)).map (·.cells)=some #[.nilIface,.int .i8 0,.slice none 0 0,.pointer none]:=by kernel_rfl
@[go_sem ↓] theorem Tryz.bd160_0 {v0:Value} {q:Value→Prop} (h0:v0.cells = #[v0]):cX Tryz.prog 160 ([(0,v0)]:List (Nat × Value)).toArray q=q (.agg ([v0,.int .i8 0,.slice none 0 0,.pointer none]:List Value).toArray):=by
 refine cI (cs := #[v0,.int .i8 0,.slice none 0 0,.pointer none]) Tryz.pl160 Tryz.zc160 ?_
 simp [Instr.fill,cC,h0]
theorem Tryz.pl164:cx Tryz.prog 164=some #[(0,1),(1,1)]:=by kernel_rfl
theorem Tryz.zc164:((Tryz.prog.info? 164).bind (·.zero)).map (·.cells)=some #[.pointer none,.int .i64 0]:=by kernel_rfl
@[go_sem ↓] theorem Tryz.bd164_1_0 {v1 v0:Value} {q:Value→Prop} (h1:v1.cells = #[v1]) (h0:v0.cells = #[v0]):cX Tryz.prog 164 ([(1,v1),(0,v0)]:List (Nat × Value)).toArray q=q (.agg ([v0,v1]:List Value).toArray):=by
 refine cI (cs := #[v0,v1]) Tryz.pl164 Tryz.zc164 ?_
 simp [Instr.fill,cC,h1,h0]
theorem Tryz.pl168:cx Tryz.prog 168=some #[(0,1),(1,1),(2,1),(3,1),(4,4),(8,1),(9,1),(10,60)]:=by kernel_rfl
theorem Tryz.zc168:((Tryz.prog.info? 168).bind (·.zero)).map (·.cells)=some #[.pointer none,.slice none 0 0,.slice none 0 0,.nilIface,.slice none 0 0,.slice none 0 0,.slice none 0 0,.int .i8 0,.nilIface,.int .i8 0,.nilIface,.int .i8 0,.slice none 0 0,.pointer none,.nilIface,.int .i8 0,.slice none 0 0,.pointer none,.nilIface,.int .i8 0,.slice none 0 0,.pointer none,.nilIface,.int .i8 0,.slice none 0 0,.pointer none,.nilIface,.int .i8 0,.slice none 0 0,.pointer none,.nilIface,.int .i8 0,.slice none 0 0,.pointer none,.nilIface,.int .i8 0,.slice none 0 0,.pointer none,.nilIface,.int .i8 0,.slice none 0 0,.pointer none,.nilIface,.int .i8 0,.slice none 0 0,.pointer none,.nilIface,.int .i8 0,.slice none 0 0,.pointer none,.pointer none,.int .i64 0,.pointer none,.int .i64 0,.pointer none,.int .i64 0,.pointer none,.int .i64 0,.pointer none,.int .i64 0,.pointer none,.int .i64 0,.pointer none,.int .i64 0,.pointer none,.int .i64 0,.pointer none,.int .i64 0,.pointer none,.int .i64 0]:=by kernel_rfl
@[go_sem ↓] theorem Tryz.bd168_0_3 {v0 v3:Value} {q:Value→Prop} (h0:v0.cells = #[v0]) (h3:v3.cells = #[v3]):cX Tryz.prog 168 ([(0,v0),(3,v3)]:List (Nat × Value)).toArray q=q (.agg ([v0,.slice none 0 0,.slice none 0 0,v3,.slice none 0 0,.slice none 0 0,.slice none 0 0,.int .i8 0,.nilIface,.int .i8 0,.nilIface,.int .i8 0,.slice none 0 0,.pointer none,.nilIface,.int .i8 0,.slice none 0 0,.pointer none,.nilIface,.int .i8 0,.slice none 0 0,.pointer none,.nilIface,.int .i8 0,.slice none 0 0,.pointer none,.nilIface,.int .i8 0,.slice none 0 0,.pointer none,.nilIface,.int .i8 0,.slice none 0 0,.pointer none,.nilIface,.int .i8 0,.slice none 0 0,.pointer none,.nilIface,.int .i8 0,.slice none 0 0,.pointer none,.nilIface,.int .i8 0,.slice none 0 0,.pointer none,.nilIface,.int .i8 0,.slice none 0 0,.pointer none,.pointer none,.int .i64 0,.pointer none,.int .i64 0,.pointer none,.int .i64 0,.pointer none,.int .i64 0,.pointer none,.int .i64 0,.pointer none,.int .i64 0,.pointer none,.int .i64 0,.pointer none,.int .i64 0,.pointer none,.int .i64 0,.pointer none,.int .i64 0]:List Value).toArray):=by
 refine cI (cs := #[v0,.slice none 0 0,.slice none 0 0,v3,.slice none 0 0,.slice none 0 0,.slice none 0 0,.int .i8 0,.nilIface,.int .i8 0,.nilIface,.int .i8 0,.slice none 0 0,.pointer none,.nilIface,.int .i8 0,.slice none 0 0,.pointer none,.nilIface,.int .i8 0,.slice none 0 0,.pointer none,.nilIface,.int .i8 0,.slice none 0 0,.pointer none,.nilIface,.int .i8 0,.slice none 0 0,.pointer none,.nilIface,.int .i8 0,.slice none 0 0,.pointer none,.nilIface,.int .i8 0,.slice none 0 0,.pointer none,.nilIface,.int .i8 0,.slice none 0 0,.pointer none,.nilIface,.int .i8 0,.slice none 0 0,.pointer none,.nilIface,.int .i8 0,.slice none 0 0,.pointer none,.pointer none,.int .i64 0,.pointer none,.int .i64 0,.pointer none,.int .i64 0,.pointer none,.int .i64 0,.pointer none,.int .i64 0,.pointer none,.int .i64 0,.pointer none,.int .i64 0,.pointer none,.int .i64 0,.pointer none,.int .i64 0,.pointer none,.int .i64 0]) Tryz.pl168 Tryz.zc168 ?_
 simp [Instr.fill,cC,h0,h3]
theorem Tryz.pl173:cx Tryz.prog 173=some #[(0,1),(1,1),(2,1),(3,1),(4,1),(5,1),(6,1),(7,1),(8,1)]:=by kernel_rfl
theorem Tryz.zc173:((Tryz.prog.info? 173).bind (·.zero)).map (·.cells)=some #[.nilIface,.pointer none,.nilFunc,.nilFunc,.slice none 0 0,.slice none 0 0,.pointer none,.pointer none,.int .i8 0]:=by kernel_rfl
@[go_sem ↓] theorem Tryz.bd173_0_2_3_4_5_6_7 {v0 v2 v3 v4 v5 v6 v7:Value} {q:Value→Prop} (h0:v0.cells = #[v0]) (h2:v2.cells = #[v2]) (h3:v3.cells = #[v3]) (h4:v4.cells = #[v4]) (h5:v5.cells = #[v5]) (h6:v6.cells = #[v6]) (h7:v7.cells = #[v7]):cX Tryz.prog 173 ([(0,v0),(2,v2),(3,v3),(4,v4),(5,v5),(6,v6),(7,v7)]:List (Nat × Value)).toArray q=q (.agg ([v0,.pointer none,v2,v3,v4,v5,v6,v7,.int .i8 0]:List Value).toArray):=by
 refine cI (cs := #[v0,.pointer none,v2,v3,v4,v5,v6,v7,.int .i8 0]) Tryz.pl173 Tryz.zc173 ?_
 simp [Instr.fill,cC,h0,h2,h3,h4,h5,h6,h7]
theorem Tryz.pl181:cx Tryz.prog 181=some #[(0,1),(1,1),(2,1),(3,1),(4,1),(5,1),(6,4),(10,1),(11,1)]:=by kernel_rfl
theorem Tryz.zc181:((Tryz.prog.info? 181).bind (·.zero)).map (·.cells)=some #[.pointer none,.pointer none,.nilFunc,.nilIface,.pointer none,.int .i8 0,.slice none 0 0,.slice none 0 0,.slice none 0 0,.int .i8 0,.nilIface,.nilFunc]:=by kernel_rfl
@[go_sem ↓] theorem Tryz.bd181_0_1_2_3_7_8 {v0 v1 v2 v3 v7 v8:Value} {q:Value→Prop} (h0:v0.cells = #[v0]) (h1:v1.cells = #[v1]) (h2:v2.cells = #[v2]) (h3:v3.cells = #[v3]) (h7:v7.cells = #[v7]) (h8:v8.cells = #[v8]):cX Tryz.prog 181 ([(0,v0),(1,v1),(2,v2),(3,v3),(7,v7),(8,v8)]:List (Nat × Value)).toArray q=q (.agg ([v0,v1,v2,v3,.pointer none,.int .i8 0,.slice none 0 0,.slice none 0 0,.slice none 0 0,.int .i8 0,v7,v8]:List Value).toArray):=by
 refine cI (cs := #[v0,v1,v2,v3,.pointer none,.int .i8 0,.slice none 0 0,.slice none 0 0,.slice none 0 0,.int .i8 0,v7,v8]) Tryz.pl181 Tryz.zc181 ?_
 simp [Instr.fill,cC,h0,h1,h2,h3,h7,h8]
theorem Tryz.pl198:cx Tryz.prog 198=some #[(0,1),(1,1)]:=by kernel_rfl
theorem Tryz.zc198:((Tryz.prog.info? 198).bind (·.zero)).map (·.cells)=some #[.nilFunc,.slice none 0 0]:=by kernel_rfl
@[go_sem ↓] theorem Tryz.bd198_0_1 {v0 v1:Value} {q:Value→Prop} (h0:v0.cells = #[v0]) (h1:v1.cells = #[v1]):cX Tryz.prog 198 ([(0,v0),(1,v1)]:List (Nat × Value)).toArray q=q (.agg ([v0,v1]:List Value).toArray):=by
 refine cI (cs := #[v0,v1]) Tryz.pl198 Tryz.zc198 ?_
 simp [Instr.fill,cC,h0,h1]
theorem Tryz.pl205:cx Tryz.prog 205=some #[(0,1),(1,1)]:=by kernel_rfl
theorem Tryz.zc205:((Tryz.prog.info? 205).bind (·.zero)).map (·.cells)=some #[.int .u8 0,.string .empty]:=by kernel_rfl
@[go_sem ↓] theorem Tryz.bd205_0 {v0:Value} {q:Value→Prop} (h0:v0.cells = #[v0]):cX Tryz.prog 205 ([(0,v0)]:List (Nat × Value)).toArray q=q (.agg ([v0,.string .empty]:List Value).toArray):=by
 refine cI (cs := #[v0,.string .empty]) Tryz.pl205 Tryz.zc205 ?_
 simp [Instr.fill,cC,h0]
theorem Tryz.pl256:cx Tryz.prog 256=some #[(0,1),(1,1),(2,1)]:=by kernel_rfl
theorem Tryz.zc256:((Tryz.prog.info? 256).bind (·.zero)).map (·.cells)=some #[.nilFunc,.slice none 0 0,.int .i64 0]:=by kernel_rfl
@[go_sem ↓] theorem Tryz.bd256 {q:Value→Prop}  : cX Tryz.prog 256 ([]:List (Nat × Value)).toArray q=q (.agg ([.nilFunc,.slice none 0 0,.int .i64 0]:List Value).toArray):=by
 refine cI (cs := #[.nilFunc,.slice none 0 0,.int .i64 0]) Tryz.pl256 Tryz.zc256 ?_
 simp [Instr.fill,cC]
@[go_sem ↓] theorem Tryz.bd256_0_1_2 {v0 v1 v2:Value} {q:Value→Prop} (h0:v0.cells = #[v0]) (h1:v1.cells = #[v1]) (h2:v2.cells = #[v2]):cX Tryz.prog 256 ([(0,v0),(1,v1),(2,v2)]:List (Nat × Value)).toArray q=q (.agg ([v0,v1,v2]:List Value).toArray):=by
 refine cI (cs := #[v0,v1,v2]) Tryz.pl256 Tryz.zc256 ?_
 simp [Instr.fill,cC,h0,h1,h2]
@[go_sem ↓] theorem Tryz.cv3_23 {n:Int} {kd:IntKind} {k:aq} {w:World}:dK Tryz.prog 3 23 (.int kd n) k w=k (.int .u64 (IntKind.u64.wrap n)) w:=by
 simp only [dK,Tryz.underlying3,Tryz.underlying23]
@[go_sem ↓] theorem Tryz.cv3_209 {n:Int} {kd:IntKind} {k:aq} {w:World}:dK Tryz.prog 3 209 (.int kd n) k w=k (.int .u64 (IntKind.u64.wrap n)) w:=by
 simp only [dK,Tryz.underlying3,Tryz.underlying209]
@[go_sem ↓] theorem Tryz.cv3_263 {n:Int} {kd:IntKind} {k:aq} {w:World}:dK Tryz.prog 3 263 (.int kd n) k w=k (.int .u32 (IntKind.u32.wrap n)) w:=by
 simp only [dK,Tryz.underlying3,Tryz.underlying263]
@[go_sem ↓] theorem Tryz.cv3_275 {n:Int} {kd:IntKind} {k:aq} {w:World}:dK Tryz.prog 3 275 (.int kd n) k w=k (.int .u64 (IntKind.u64.wrap n)) w:=by
 simp only [dK,Tryz.underlying3,Tryz.underlying275]
@[go_sem ↓] theorem Tryz.cv5_3 {n:Int} {kd:IntKind} {k:aq} {w:World}:dK Tryz.prog 5 3 (.int kd n) k w=k (.int .i64 (IntKind.i64.wrap n)) w:=by
 simp only [dK,Tryz.underlying5,Tryz.underlying3]
@[go_sem ↓] theorem Tryz.cv5_23 {n:Int} {kd:IntKind} {k:aq} {w:World}:dK Tryz.prog 5 23 (.int kd n) k w=k (.int .u64 (IntKind.u64.wrap n)) w:=by
 simp only [dK,Tryz.underlying5,Tryz.underlying23]
@[go_sem ↓] theorem Tryz.cv23_3 {n:Int} {kd:IntKind} {k:aq} {w:World}:dK Tryz.prog 23 3 (.int kd n) k w=k (.int .i64 (IntKind.i64.wrap n)) w:=by
 simp only [dK,Tryz.underlying23,Tryz.underlying3]
@[go_sem ↓] theorem Tryz.cv23_5 {n:Int} {kd:IntKind} {k:aq} {w:World}:dK Tryz.prog 23 5 (.int kd n) k w=k (.int .u8 (IntKind.u8.wrap n)) w:=by
 simp only [dK,Tryz.underlying23,Tryz.underlying5]
@[go_sem ↓] theorem Tryz.cv23_109 {n:Int} {kd:IntKind} {k:aq} {w:World}:dK Tryz.prog 23 109 (.int kd n) k w=k (.int .u8 (IntKind.u8.wrap n)) w:=by
 simp only [dK,Tryz.underlying23,Tryz.underlying109]
@[go_sem ↓] theorem Tryz.cv109_23 {n:Int} {kd:IntKind} {k:aq} {w:World}:dK Tryz.prog 109 23 (.int kd n) k w=k (.int .u64 (IntKind.u64.wrap n)) w:=by
 simp only [dK,Tryz.underlying109,Tryz.underlying23]
@[go_sem ↓] theorem Tryz.cv209_3 {n:Int} {kd:IntKind} {k:aq} {w:World}:dK Tryz.prog 209 3 (.int kd n) k w=k (.int .i64 (IntKind.i64.wrap n)) w:=by
 simp only [dK,Tryz.underlying209,Tryz.underlying3]
abbrev AL (t:TypeId) (l:List Value):Prop:=∀ {k:aq} {w:World},dH Tryz.prog (Instr.alloc t true (.tuple #[])) k w=k (.pointer (some ⟨w.heap.size,0,none⟩)) (w.alloc (.cells l.toArray t))
theorem Lw {t:TypeId} {l:List Value} (h:Cr Tryz.prog t=some l:=by kernel_rfl):AL t l:=HY h
@[go_sem ↓] theorem LL:AL 3 [.int .i64 0]∧AL 27 [.slice none 0 0]∧AL 30 [.string .empty,.string .empty,.slice none 0 0]∧AL 32 [.slice none 0 0]∧AL 37 [.string .empty,.string .empty,.slice none 0 0]∧AL 40 [.string .empty,.int .u64 0,.string .empty]∧AL 53 [.int .u64 0,.string .empty,.string .empty]∧AL 61 [.slice none 0 0,.slice none 0 0,.slice none 0 0,.int .i8 0]∧AL 68 [.slice none 0 0,.int .u64 0]∧AL 91 [.int .u64 0,.string .empty,.string .empty]∧AL 95 [.bool false,.bool false,.string .empty,.string .empty,.slice none 0 0]∧AL 97 [.slice none 0 0]∧AL 105 [.nilFunc,.slice none 0 0,.slice none 0 0,.slice none 0 0]∧AL 113 [.slice none 0 0,.slice none 0 0]∧AL 117 [.int .u64 0,.slice none 0 0,.slice none 0 0]∧AL 184 [.int .u64 0,.pointer none,.pointer none,.slice none 0 0,.slice none 0 0,.nilIface,.slice none 0 0,.slice none 0 0,.slice none 0 0,.int .i8 0,.nilIface,.int .i8 0,.nilIface,.int .i8 0,.slice none 0 0,.pointer none,.nilIface,.int .i8 0,.slice none 0 0,.pointer none,.nilIface,.int .i8 0,.slice none 0 0,.pointer none,.nilIface,.int .i8 0,.slice none 0 0,.pointer none,.nilIface,.int .i8 0,.slice none 0 0,.pointer none,.nilIface,.int .i8 0,.slice none 0 0,.pointer none,.nilIface,.int .i8 0,.slice none 0 0,.pointer none,.nilIface,.int .i8 0,.slice none 0 0,.pointer none,.nilIface,.int .i8 0,.slice none 0 0,.pointer none,.nilIface,.int .i8 0,.slice none 0 0,.pointer none,.pointer none,.int .i64 0,.pointer none,.int .i64 0,.pointer none,.int .i64 0,.pointer none,.int .i64 0,.pointer none,.int .i64 0,.pointer none,.int .i64 0,.pointer none,.int .i64 0,.pointer none,.int .i64 0,.pointer none,.int .i64 0,.pointer none,.int .i64 0,.nilIface,.pointer none,.nilFunc,.nilFunc,.slice none 0 0,.slice none 0 0,.pointer none,.pointer none,.int .i8 0,.pointer none,.pointer none,.nilFunc,.nilIface,.pointer none,.int .i8 0,.slice none 0 0,.slice none 0 0,.slice none 0 0,.int .i8 0,.nilIface,.nilFunc,.bool false,.pointer none]∧AL 200 [.slice none 0 0,.slice none 0 0,.nilFunc,.bool false,.slice none 0 0,.slice none 0 0,.slice none 0 0,.slice none 0 0,.slice none 0 0,.nilFunc,.slice none 0 0]∧AL 205 [.int .u8 0,.string .empty]∧AL 275 [.int .u64 0]:=by and_intros <;> exact Lw
end Go.Proofs
end
section
namespace Go.E
open Go
def KL (P:Program) (t:TypeId) (n:Nat) (ps:Array (Nat × Value)) (k:aq) (w:World):Prop:=dH P (Instr.buildSlice t n ps) k w
@[go_sem ↓ high] theorem Ci {P:Program} {e:de} {k:aq} {w:World} {d:Option Tmp} {ty:TypeId} {pos:String} {af:Array Edge} {g:Option (Nat × Bool)} {t:TypeId} {n:Nat} {ps:Array (Nat × Operand)} :
    ir P { dst:=d,op := .buildSlice t n ps,type:=ty,pos,after:=af,guard:=g } e k w=KL P t n (ps.map fun (i,x)=>(i,ev e x)) k w:=bL rfl
def me (P:Program) (ats:Array TypeId) (ty:TypeId) (args:Array Value) (k:aq) (w:World):Prop:=dH P (Builtin.append_ ats ty args) k w
def Cj (P:Program) (ats:Array TypeId) (ty:TypeId) (args:Array Value) (k:aq) (w:World):Prop:=dH P (Builtin.copy_ ats ty args) k w
def JP (P:Program) (t:TypeId) (l c:Value) (k:aq) (w:World):Prop:=dH P (Instr.makeSlice t l c) k w
def FY (P:Program) (s d:TypeId) (x:Value) (k:aq) (w:World):Prop:=dH P (convert s d x) k w
section
variable {P:Program} {e:de} {k:aq} {w:World} {d:Option Tmp} {ty:TypeId} {pos:String} {af:Array Edge} {g:Option (Nat × Bool)}
@[go_sem ↓ high] theorem Gc {args:Array Operand} {ats:Array TypeId}:ir P { dst:=d,op := .call { callee := .builtin .append,args,argTypes:=ats },type:=ty,pos,after:=af,guard:=g } e k w=me P ats ty (args.map (ev e)) k w:=bL rfl
@[go_sem ↓ high] theorem Ij {args:Array Operand} {ats:Array TypeId}:ir P { dst:=d,op := .call { callee := .builtin .copy,args,argTypes:=ats },type:=ty,pos,after:=af,guard:=g } e k w=Cj P ats ty (args.map (ev e)) k w:=bL rfl
@[go_sem ↓ high] theorem DW {t:TypeId} {l c:Operand}:ir P { dst:=d,op := .makeSlice t l c,type:=ty,pos,after:=af,guard:=g } e k w=JP P t (ev e l) (ev e c) k w:=bL rfl
end
end Go.E
namespace Go.Proofs
open Go Go.E
@[go_sem ↓ high] theorem Tryz.cv9_56X {s:ByteArray} {k:aq} {w:World}:dK Tryz.prog 9 56 (.string s) k w=FY Tryz.prog 9 56 (.string s) k w:=by
 simp only [dK,Tryz.underlying9,Tryz.underlying56,FY]
abbrev IV (t:TypeId) (m:String) (f:FuncId):Prop:=∀ {v:Value} {args:Array Value} {k:aq} {w:World},cQ Tryz.prog (.iface t v) m args k w=ai Tryz.prog f (#[v]++args) k w
theorem lK {t:TypeId} {m:String} {f:FuncId} (h:wR Tryz.prog t m=some f:=by kernel_rfl) (he:iO Tryz.prog f=true:=by kernel_rfl):IV t m f:=zB h he
@[go_sem] theorem Tryz.iv222_Len : IV 222 "Len" 159 := lK
@[go_sem] theorem Tryz.iv222_Less : IV 222 "Less" 160 := lK
@[go_sem] theorem Tryz.iv222_Swap : IV 222 "Swap" 161 := lK
@[go_sem] theorem Tryz.iv223_Len : IV 223 "Len" 162 := lK
@[go_sem] theorem Tryz.iv223_Less : IV 223 "Less" 163 := lK
@[go_sem] theorem Tryz.iv223_Swap : IV 223 "Swap" 164 := lK
@[go_sem] theorem Tryz.iv227_ShouldDefragment : IV 227 "ShouldDefragment" 165 := lK
@[go_sem] theorem Tryz.iv227_Transform : IV 227 "Transform" 166 := lK
@[go_sem] theorem Tryz.iv230_Error : IV 230 "Error" 168 := lK
@[go_sem] theorem Tryz.iv230_First : IV 230 "First" 169 := lK
@[go_sem] theorem Tryz.iv230_Last : IV 230 "Last" 170 := lK
@[go_sem] theorem Tryz.iv230_Next : IV 230 "Next" 171 := lK
@[go_sem] theorem Tryz.iv230_Prev : IV 230 "Prev" 172 := lK
@[go_sem] theorem Tryz.iv230_SeekGE : IV 230 "SeekGE" 173 := lK
@[go_sem] theorem Tryz.iv230_SeekLT : IV 230 "SeekLT" 174 := lK
@[go_sem] theorem Tryz.iv232_Error : IV 232 "Error" 210 := lK
@[go_sem] theorem Tryz.iv232_First : IV 232 "First" 211 := lK
@[go_sem] theorem Tryz.iv232_Last : IV 232 "Last" 212 := lK
@[go_sem] theorem Tryz.iv232_Next : IV 232 "Next" 213 := lK
@[go_sem] theorem Tryz.iv232_Prev : IV 232 "Prev" 214 := lK
@[go_sem] theorem Tryz.iv232_SeekGE : IV 232 "SeekGE" 215 := lK
@[go_sem] theorem Tryz.iv232_SeekLT : IV 232 "SeekLT" 216 := lK
@[go_sem] theorem Tryz.iv235_First : IV 235 "First" 224 := lK
@[go_sem] theorem Tryz.iv235_Last : IV 235 "Last" 225 := lK
@[go_sem] theorem Tryz.iv235_Next : IV 235 "Next" 226 := lK
@[go_sem] theorem Tryz.iv235_Prev : IV 235 "Prev" 227 := lK
@[go_sem] theorem Tryz.iv235_SeekGE : IV 235 "SeekGE" 228 := lK
@[go_sem] theorem Tryz.iv235_SeekLT : IV 235 "SeekLT" 229 := lK
@[go_sem] theorem Tryz.iv236_Error : IV 236 "Error" 239 := lK
@[go_sem] theorem Tryz.iv236_First : IV 236 "First" 240 := lK
@[go_sem] theorem Tryz.iv236_Last : IV 236 "Last" 241 := lK
@[go_sem] theorem Tryz.iv236_Next : IV 236 "Next" 242 := lK
@[go_sem] theorem Tryz.iv236_Prev : IV 236 "Prev" 243 := lK
@[go_sem] theorem Tryz.iv236_SeekGE : IV 236 "SeekGE" 244 := lK
@[go_sem] theorem Tryz.iv236_SeekLT : IV 236 "SeekLT" 245 := lK
@[go_sem] theorem Tryz.iv306_Len : IV 306 "Len" 251 := lK
@[go_sem] theorem Tryz.iv306_Less : IV 306 "Less" 252 := lK
@[go_sem] theorem Tryz.iv306_Swap : IV 306 "Swap" 253 := lK
abbrev BX (t:TypeId) (n:Nat) (el:TypeId):Prop:=∀ {x:Value} {k:aq} {w:World} (h:x.cells.size=n),KL Tryz.prog t 1 [(0,x)].toArray k w=k (.slice (some ⟨w.heap.size,0,none⟩) 1 1) (w.alloc (.cells x.cells el))
theorem yl {t el:TypeId} {n b:Nat} (h0:gM Tryz.prog t=some (el,n,b)) (hb:n≤16777216:=by decide):BX t n el:=fun h=>FX h0 h hb
@[go_sem] theorem LO:BX 22 3 30∧BX 26 1 22∧BX 27 3 37∧BX 28 3 53∧BX 32 3 40∧BX 35 3 91∧BX 57 3 117∧BX 83 5 95∧BX 85 1 27∧BX 89 2 205∧BX 97 1 9∧BX 102 1 56∧BX 103 2 113∧BX 140 4 61∧BX 189 2 164∧BX 201 1 155:=⟨yl Tryz.rw22,yl Tryz.rw26,yl Tryz.rw27,yl Tryz.rw28,yl Tryz.rw32,yl Tryz.rw35,yl Tryz.rw57,yl Tryz.rw83,yl Tryz.rw85,yl Tryz.rw89,yl Tryz.rw97,yl Tryz.rw102,yl Tryz.rw103,yl Tryz.rw140,yl Tryz.rw189,yl Tryz.rw201⟩
end Go.Proofs
end
