/- Parts of the proof: G, N. -/
import Derived.Test.YtjcbeinpkafjiaaGreatR03
set_option linter.all false
set_option maxRecDepth 10000
section
namespace Go.Proofs
open Go Go.E
theorem Tryz.rw28:gQ Tryz.prog 28=some (46,3,56):=by kernel_rfl
theorem Tryz.rw33:gQ Tryz.prog 33=some (58,5,64):=by kernel_rfl
theorem Tryz.rw35:gQ Tryz.prog 35=some (74,1,24):=by kernel_rfl
theorem Tryz.rw38:gQ Tryz.prog 38=some (53,2,24):=by kernel_rfl
theorem Tryz.rw44:gQ Tryz.prog 44=some (88,3,40):=by kernel_rfl
theorem Tryz.rw50:gQ Tryz.prog 50=some (64,2,32):=by kernel_rfl
theorem Tryz.rw54:gQ Tryz.prog 54=some (62,3,40):=by kernel_rfl
theorem Tryz.rw66:gQ Tryz.prog 66=some (9,1,16):=by kernel_rfl
theorem Tryz.rw74:gQ Tryz.prog 74=some (56,3,56):=by kernel_rfl
theorem Tryz.rw107:gQ Tryz.prog 107=some (5,1,1):=by kernel_rfl
theorem Tryz.rw110:gQ Tryz.prog 110=some (256,3,56):=by kernel_rfl
theorem Tryz.rw159:gQ Tryz.prog 159=some (256,3,56):=by kernel_rfl
theorem Tryz.rw161:gQ Tryz.prog 161=some (128,2,16):=by kernel_rfl
theorem Tryz.rw173:gQ Tryz.prog 173=some (118,1,16):=by kernel_rfl
theorem Tryz.rw195:gQ Tryz.prog 195=some (114,4,80):=by kernel_rfl
theorem Tryz.pl37:dP Tryz.prog 37=some #[(0,1),(1,1)]:=by kernel_rfl
theorem Tryz.zc37:((Tryz.prog.info? 37).bind (·.zero)).map (·.cells)=some #[.string .empty,.bool false]:=by kernel_rfl
@[go_sem ↓] theorem Tryz.bd37 {q:Value→Prop}  : cn Tryz.prog 37 ([]:List (Nat × Value)).toArray q=q (.agg ([.string .empty,.bool false]:List Value).toArray):=by
 refine cG (cs := #[.string .empty,.bool false]) Tryz.pl37 Tryz.zc37 ?_
 simp [Instr.fill,bw]
theorem Tryz.pl46:dP Tryz.prog 46=some #[(0,1),(1,1),(2,1)]:=by kernel_rfl
theorem Tryz.zc46:((Tryz.prog.info? 46).bind (·.zero)).map (·.cells)=some #[.string .empty,.string .empty,.slice none 0 0]:=by kernel_rfl
@[go_sem ↓] theorem Tryz.bd46_0_1 {v0 v1:Value} {q:Value→Prop} (h0:v0.cells = #[v0]) (h1:v1.cells = #[v1]):cn Tryz.prog 46 ([(0,v0),(1,v1)]:List (Nat × Value)).toArray q=q (.agg ([v0,v1,.slice none 0 0]:List Value).toArray):=by
 refine cG (cs := #[v0,v1,.slice none 0 0]) Tryz.pl46 Tryz.zc46 ?_
 simp [Instr.fill,bw,h0,h1]
@[go_sem ↓] theorem Tryz.bd46_0_1_2 {v0 v1 v2:Value} {q:Value→Prop} (h0:v0.cells = #[v0]) (h1:v1.cells = #[v1]) (h2:v2.cells = #[v2]):cn Tryz.prog 46 ([(0,v0),(1,v1),(2,v2)]:List (Nat × Value)).toArray q=q (.agg ([v0,v1,v2]:List Value).toArray):=by
 refine cG (cs := #[v0,v1,v2]) Tryz.pl46 Tryz.zc46 ?_
 simp [Instr.fill,bw,h0,h1,h2]
theorem Tryz.pl53:dP Tryz.prog 53=some #[(0,1),(1,1)]:=by kernel_rfl
theorem Tryz.zc53:((Tryz.prog.info? 53).bind (·.zero)).map (·.cells)=some #[.int .u8 0,.string .empty]:=by kernel_rfl
@[go_sem ↓] theorem Tryz.bd53_0 {v0:Value} {q:Value→Prop} (h0:v0.cells = #[v0]):cn Tryz.prog 53 ([(0,v0)]:List (Nat × Value)).toArray q=q (.agg ([v0,.string .empty]:List Value).toArray):=by
 refine cG (cs := #[v0,.string .empty]) Tryz.pl53 Tryz.zc53 ?_
 simp [Instr.fill,bw,h0]
theorem Tryz.pl56:dP Tryz.prog 56=some #[(0,1),(1,1),(2,1)]:=by kernel_rfl
theorem Tryz.zc56:((Tryz.prog.info? 56).bind (·.zero)).map (·.cells)=some #[.string .empty,.string .empty,.slice none 0 0]:=by kernel_rfl
@[go_sem ↓] theorem Tryz.bd56_0_1_2 {v0 v1 v2:Value} {q:Value→Prop} (h0:v0.cells = #[v0]) (h1:v1.cells = #[v1]) (h2:v2.cells = #[v2]):cn Tryz.prog 56 ([(0,v0),(1,v1),(2,v2)]:List (Nat × Value)).toArray q=q (.agg ([v0,v1,v2]:List Value).toArray):=by
 refine cG (cs := #[v0,v1,v2]) Tryz.pl56 Tryz.zc56 ?_
 simp [Instr.fill,bw,h0,h1,h2]
theorem Tryz.pl58:dP Tryz.prog 58=some #[(0,1),(1,1),(2,3)]:=by kernel_rfl
theorem Tryz.zc58:((Tryz.prog.info? 58).bind (·.zero)).map (·.cells)=some #[.bool false,.bool false,.string .empty,.string .empty,.slice none 0 0]:=by kernel_rfl
@[go_sem ↓] theorem Tryz.bd58 {q:Value→Prop}  : cn Tryz.prog 58 ([]:List (Nat × Value)).toArray q=q (.agg ([.bool false,.bool false,.string .empty,.string .empty,.slice none 0 0]:List Value).toArray):=by
 refine cG (cs := #[.bool false,.bool false,.string .empty,.string .empty,.slice none 0 0]) Tryz.pl58 Tryz.zc58 ?_
 simp [Instr.fill,bw]
@[go_sem ↓] theorem Tryz.bd58_0 {v0:Value} {q:Value→Prop} (h0:v0.cells = #[v0]):cn Tryz.prog 58 ([(0,v0)]:List (Nat × Value)).toArray q=q (.agg ([v0,.bool false,.string .empty,.string .empty,.slice none 0 0]:List Value).toArray):=by
 refine cG (cs := #[v0,.bool false,.string .empty,.string .empty,.slice none 0 0]) Tryz.pl58 Tryz.zc58 ?_
 simp [Instr.fill,bw,h0]
theorem Tryz.pl62:dP Tryz.prog 62=some #[(0,1),(1,1),(2,1)]:=by kernel_rfl
theorem Tryz.zc62:((Tryz.prog.info? 62).bind (·.zero)).map (·.cells)=some #[.int .u64 0,.string .empty,.string .empty]:=by kernel_rfl
@[go_sem ↓] theorem Tryz.bd62_0_1 {v0 v1:Value} {q:Value→Prop} (h0:v0.cells = #[v0]) (h1:v1.cells = #[v1]):cn Tryz.prog 62 ([(0,v0),(1,v1)]:List (Nat × Value)).toArray q=q (.agg ([v0,v1,.string .empty]:List Value).toArray):=by
 refine cG (cs := #[v0,v1,.string .empty]) Tryz.pl62 Tryz.zc62 ?_
 simp [Instr.fill,bw,h0,h1]
@[go_sem ↓] theorem Tryz.bd62_0_1_2 {v0 v1 v2:Value} {q:Value→Prop} (h0:v0.cells = #[v0]) (h1:v1.cells = #[v1]) (h2:v2.cells = #[v2]):cn Tryz.prog 62 ([(0,v0),(1,v1),(2,v2)]:List (Nat × Value)).toArray q=q (.agg ([v0,v1,v2]:List Value).toArray):=by
 refine cG (cs := #[v0,v1,v2]) Tryz.pl62 Tryz.zc62 ?_
 simp [Instr.fill,bw,h0,h1,h2]
theorem Tryz.pl64:dP Tryz.prog 64=some #[(0,1),(1,1)]:=by kernel_rfl
theorem Tryz.zc64:((Tryz.prog.info? 64).bind (·.zero)).map (·.cells)=some #[.string .empty,.string .empty]:=by kernel_rfl
@[go_sem ↓] theorem Tryz.bd64_0_1 {v0 v1:Value} {q:Value→Prop} (h0:v0.cells = #[v0]) (h1:v1.cells = #[v1]):cn Tryz.prog 64 ([(0,v0),(1,v1)]:List (Nat × Value)).toArray q=q (.agg ([v0,v1]:List Value).toArray):=by
 refine cG (cs := #[v0,v1]) Tryz.pl64 Tryz.zc64 ?_
 simp [Instr.fill,bw,h0,h1]
theorem Tryz.pl88:dP Tryz.prog 88=some #[(0,1),(1,1),(2,1)]:=by kernel_rfl
theorem Tryz.zc88:((Tryz.prog.info? 88).bind (·.zero)).map (·.cells)=some #[.int .u64 0,.string .empty,.string .empty]:=by kernel_rfl
@[go_sem ↓] theorem Tryz.bd88_1_2 {v1 v2:Value} {q:Value→Prop} (h1:v1.cells = #[v1]) (h2:v2.cells = #[v2]):cn Tryz.prog 88 ([(1,v1),(2,v2)]:List (Nat × Value)).toArray q=q (.agg ([.int .u64 0,v1,v2]:List Value).toArray):=by
 refine cG (cs := #[.int .u64 0,v1,v2]) Tryz.pl88 Tryz.zc88 ?_
 simp [Instr.fill,bw,h1,h2]
theorem Tryz.pl114:dP Tryz.prog 114=some #[(0,1),(1,1),(2,1),(3,1)]:=by kernel_rfl
theorem Tryz.zc114:((Tryz.prog.info? 114).bind (·.zero)).map (·.cells)=some #[.slice none 0 0,.slice none 0 0,.slice none 0 0,.int .i8 0]:=by kernel_rfl
@[go_sem ↓] theorem Tryz.bd114_0_1_2 {v0 v1 v2:Value} {q:Value→Prop} (h0:v0.cells = #[v0]) (h1:v1.cells = #[v1]) (h2:v2.cells = #[v2]):cn Tryz.prog 114 ([(0,v0),(1,v1),(2,v2)]:List (Nat × Value)).toArray q=q (.agg ([v0,v1,v2,.int .i8 0]:List Value).toArray):=by
 refine cG (cs := #[v0,v1,v2,.int .i8 0]) Tryz.pl114 Tryz.zc114 ?_
 simp [Instr.fill,bw,h0,h1,h2]
@[go_sem ↓] theorem Tryz.bd114_0_1_2_3 {v0 v1 v2 v3:Value} {q:Value→Prop} (h0:v0.cells = #[v0]) (h1:v1.cells = #[v1]) (h2:v2.cells = #[v2]) (h3:v3.cells = #[v3]):cn Tryz.prog 114 ([(0,v0),(1,v1),(2,v2),(3,v3)]:List (Nat × Value)).toArray q=q (.agg ([v0,v1,v2,v3]:List Value).toArray):=by
 refine cG (cs := #[v0,v1,v2,v3]) Tryz.pl114 Tryz.zc114 ?_
 simp [Instr.fill,bw,h0,h1,h2,h3]
@[go_sem ↓] theorem Tryz.bd114_0_1_3 {v0 v1 v3:Value} {q:Value→Prop} (h0:v0.cells = #[v0]) (h1:v1.cells = #[v1]) (h3:v3.cells = #[v3]):cn Tryz.prog 114 ([(0,v0),(1,v1),(3,v3)]:List (Nat × Value)).toArray q=q (.agg ([v0,v1,.slice none 0 0,v3]:List Value).toArray):=by
 refine cG (cs := #[v0,v1,.slice none 0 0,v3]) Tryz.pl114 Tryz.zc114 ?_
 simp [Instr.fill,bw,h0,h1,h3]
theorem Tryz.pl122:dP Tryz.prog 122=some #[(0,1),(1,1),(2,1)]:=by kernel_rfl
theorem Tryz.zc122:((Tryz.prog.info? 122).bind (·.zero)).map (·.cells)=some #[.int .i8 0,.slice none 0 0,.pointer none]:=by kernel_rfl
@[go_sem ↓] theorem Tryz.bd122_0 {v0:Value} {q:Value→Prop} (h0:v0.cells = #[v0]):cn Tryz.prog 122 ([(0,v0)]:List (Nat × Value)).toArray q=q (.agg ([v0,.slice none 0 0,.pointer none]:List Value).toArray):=by
 refine cG (cs := #[v0,.slice none 0 0,.pointer none]) Tryz.pl122 Tryz.zc122 ?_
 simp [Instr.fill,bw,h0]
@[go_sem ↓] theorem Tryz.bd122_0_1_2 {v0 v1 v2:Value} {q:Value→Prop} (h0:v0.cells = #[v0]) (h1:v1.cells = #[v1]) (h2:v2.cells = #[v2]):cn Tryz.prog 122 ([(0,v0),(1,v1),(2,v2)]:List (Nat × Value)).toArray q=q (.agg ([v0,v1,v2]:List Value).toArray):=by
 refine cG (cs := #[v0,v1,v2]) Tryz.pl122 Tryz.zc122 ?_
 simp [Instr.fill,bw,h0,h1,h2]
theorem Tryz.pl124:dP Tryz.prog 124=some #[(0,1),(1,3)]:=by kernel_rfl
theorem Tryz.zc124:((Tryz.prog.info? 124).bind (·.zero)).map (·.cells)=some #[.nilIface,.int .i8 0,.slice none 0 0,.pointer none]:=by kernel_rfl
@[go_sem ↓] theorem Tryz.bd124_0 {v0:Value} {q:Value→Prop} (h0:v0.cells = #[v0]):cn Tryz.prog 124 ([(0,v0)]:List (Nat × Value)).toArray q=q (.agg ([v0,.int .i8 0,.slice none 0 0,.pointer none]:List Value).toArray):=by
 refine cG (cs := #[v0,.int .i8 0,.slice none 0 0,.pointer none]) Tryz.pl124 Tryz.zc124 ?_
 simp [Instr.fill,bw,h0]
theorem Tryz.pl128:dP Tryz.prog 128=some #[(0,1),(1,1)]:=by kernel_rfl
theorem Tryz.zc128:((Tryz.prog.info? 128).bind (·.zero)).map (·.cells)=some #[.pointer none,.int .i64 0]:=by kernel_rfl
@[go_sem ↓] theorem Tryz.bd128_1_0 {v1 v0:Value} {q:Value→Prop} (h1:v1.cells = #[v1]) (h0:v0.cells = #[v0]):cn Tryz.prog 128 ([(1,v1),(0,v0)]:List (Nat × Value)).toArray q=q (.agg ([v0,v1]:List Value).toArray):=by
 refine cG (cs := #[v0,v1]) Tryz.pl128 Tryz.zc128 ?_
 simp [Instr.fill,bw,h1,h0]
theorem Tryz.pl132:dP Tryz.prog 132=some #[(0,1),(1,1),(2,1),(3,1),(4,4),(8,1),(9,1),(10,60)]:=by kernel_rfl
theorem Tryz.zc132:((Tryz.prog.info? 132).bind (·.zero)).map (·.cells)=some #[.pointer none,.slice none 0 0,.slice none 0 0,.nilIface,.slice none 0 0,.slice none 0 0,.slice none 0 0,.int .i8 0,.nilIface,.int .i8 0,.nilIface,.int .i8 0,.slice none 0 0,.pointer none,.nilIface,.int .i8 0,.slice none 0 0,.pointer none,.nilIface,.int .i8 0,.slice none 0 0,.pointer none,.nilIface,.int .i8 0,.slice none 0 0,.pointer none,.nilIface,.int .i8 0,.slice none 0 0,.pointer none,.nilIface,.int .i8 0,.slice none 0 0,.pointer none,.nilIface,.int .i8 0,.slice none 0 0,.pointer none,.nilIface,.int .i8 0,.slice none 0 0,.pointer none,.nilIface,.int .i8 0,.slice none 0 0,.pointer none,.nilIface,.int .i8 0,.slice none 0 0,.pointer none,.pointer none,.int .i64 0,.pointer none,.int .i64 0,.pointer none,.int .i64 0,.pointer none,.int .i64 0,.pointer none,.int .i64 0,.pointer none,.int .i64 0,.pointer none,.int .i64 0,.pointer none,.int .i64 0,.pointer none,.int .i64 0,.pointer none,.int .i64 0]:=by kernel_rfl
@[go_sem ↓] theorem Tryz.bd132_0_3 {v0 v3:Value} {q:Value→Prop} (h0:v0.cells = #[v0]) (h3:v3.cells = #[v3]):cn Tryz.prog 132 ([(0,v0),(3,v3)]:List (Nat × Value)).toArray q=q (.agg ([v0,.slice none 0 0,.slice none 0 0,v3,.slice none 0 0,.slice none 0 0,.slice none 0 0,.int .i8 0,.nilIface,.int .i8 0,.nilIface,.int .i8 0,.slice none 0 0,.pointer none,.nilIface,.int .i8 0,.slice none 0 0,.pointer none,.nilIface,.int .i8 0,.slice none 0 0,.pointer none,.nilIface,.int .i8 0,.slice none 0 0,.pointer none,.nilIface,.int .i8 0,.slice none 0 0,.pointer none,.nilIface,.int .i8 0,.slice none 0 0,.pointer none,.nilIface,.int .i8 0,.slice none 0 0,.pointer none,.nilIface,.int .i8 0,.slice none 0 0,.pointer none,.nilIface,.int .i8 0,.slice none 0 0,.pointer none,.nilIface,.int .i8 0,.slice none 0 0,.pointer none,.pointer none,.int .i64 0,.pointer none,.int .i64 0,.pointer none,.int .i64 0,.pointer none,.int .i64 0,.pointer none,.int .i64 0,.pointer none,.int .i64 0,.pointer none,.int .i64 0,.pointer none,.int .i64 0,.pointer none,.int .i64 0,.pointer none,.int .i64 0]:List Value).toArray):=by
 refine cG (cs := #[v0,.slice none 0 0,.slice none 0 0,v3,.slice none 0 0,.slice none 0 0,.slice none 0 0,.int .i8 0,.nilIface,.int .i8 0,.nilIface,.int .i8 0,.slice none 0 0,.pointer none,.nilIface,.int .i8 0,.slice none 0 0,.pointer none,.nilIface,.int .i8 0,.slice none 0 0,.pointer none,.nilIface,.int .i8 0,.slice none 0 0,.pointer none,.nilIface,.int .i8 0,.slice none 0 0,.pointer none,.nilIface,.int .i8 0,.slice none 0 0,.pointer none,.nilIface,.int .i8 0,.slice none 0 0,.pointer none,.nilIface,.int .i8 0,.slice none 0 0,.pointer none,.nilIface,.int .i8 0,.slice none 0 0,.pointer none,.nilIface,.int .i8 0,.slice none 0 0,.pointer none,.pointer none,.int .i64 0,.pointer none,.int .i64 0,.pointer none,.int .i64 0,.pointer none,.int .i64 0,.pointer none,.int .i64 0,.pointer none,.int .i64 0,.pointer none,.int .i64 0,.pointer none,.int .i64 0,.pointer none,.int .i64 0,.pointer none,.int .i64 0]) Tryz.pl132 Tryz.zc132 ?_
 simp [Instr.fill,bw,h0,h3]
theorem Tryz.pl141:dP Tryz.prog 141=some #[(0,1),(1,1),(2,1),(3,1),(4,1),(5,1),(6,1),(7,1),(8,1)]:=by kernel_rfl
theorem Tryz.zc141:((Tryz.prog.info? 141).bind (·.zero)).map (·.cells)=some #[.nilIface,.pointer none,.nilFunc,.nilFunc,.slice none 0 0,.slice none 0 0,.pointer none,.pointer none,.int .i8 0]:=by kernel_rfl
@[go_sem ↓] theorem Tryz.bd141_0_2_3_4_5_6_7 {v0 v2 v3 v4 v5 v6 v7:Value} {q:Value→Prop} (h0:v0.cells = #[v0]) (h2:v2.cells = #[v2]) (h3:v3.cells = #[v3]) (h4:v4.cells = #[v4]) (h5:v5.cells = #[v5]) (h6:v6.cells = #[v6]) (h7:v7.cells = #[v7]):cn Tryz.prog 141 ([(0,v0),(2,v2),(3,v3),(4,v4),(5,v5),(6,v6),(7,v7)]:List (Nat × Value)).toArray q=q (.agg ([v0,.pointer none,v2,v3,v4,v5,v6,v7,.int .i8 0]:List Value).toArray):=by
 refine cG (cs := #[v0,.pointer none,v2,v3,v4,v5,v6,v7,.int .i8 0]) Tryz.pl141 Tryz.zc141 ?_
 simp [Instr.fill,bw,h0,h2,h3,h4,h5,h6,h7]
theorem Tryz.pl151:dP Tryz.prog 151=some #[(0,1),(1,1),(2,1),(3,1),(4,1),(5,1),(6,4),(10,1),(11,1)]:=by kernel_rfl
theorem Tryz.zc151:((Tryz.prog.info? 151).bind (·.zero)).map (·.cells)=some #[.pointer none,.pointer none,.nilFunc,.nilIface,.pointer none,.int .i8 0,.slice none 0 0,.slice none 0 0,.slice none 0 0,.int .i8 0,.nilIface,.nilFunc]:=by kernel_rfl
@[go_sem ↓] theorem Tryz.bd151_0_1_2_3_7_8 {v0 v1 v2 v3 v7 v8:Value} {q:Value→Prop} (h0:v0.cells = #[v0]) (h1:v1.cells = #[v1]) (h2:v2.cells = #[v2]) (h3:v3.cells = #[v3]) (h7:v7.cells = #[v7]) (h8:v8.cells = #[v8]):cn Tryz.prog 151 ([(0,v0),(1,v1),(2,v2),(3,v3),(7,v7),(8,v8)]:List (Nat × Value)).toArray q=q (.agg ([v0,v1,v2,v3,.pointer none,.int .i8 0,.slice none 0 0,.slice none 0 0,.slice none 0 0,.int .i8 0,v7,v8]:List Value).toArray):=by
 refine cG (cs := #[v0,v1,v2,v3,.pointer none,.int .i8 0,.slice none 0 0,.slice none 0 0,.slice none 0 0,.int .i8 0,v7,v8]) Tryz.pl151 Tryz.zc151 ?_
 simp [Instr.fill,bw,h0,h1,h2,h3,h7,h8]
theorem Tryz.pl170:dP Tryz.prog 170=some #[(0,1),(1,1)]:=by kernel_rfl
theorem Tryz.zc170:((Tryz.prog.info? 170).bind (·.zero)).map (·.cells)=some #[.nilFunc,.slice none 0 0]:=by kernel_rfl
@[go_sem ↓] theorem Tryz.bd170_0_1 {v0 v1:Value} {q:Value→Prop} (h0:v0.cells = #[v0]) (h1:v1.cells = #[v1]):cn Tryz.prog 170 ([(0,v0),(1,v1)]:List (Nat × Value)).toArray q=q (.agg ([v0,v1]:List Value).toArray):=by
 refine cG (cs := #[v0,v1]) Tryz.pl170 Tryz.zc170 ?_
 simp [Instr.fill,bw,h0,h1]
theorem Tryz.pl208:dP Tryz.prog 208=some #[(0,1),(1,1),(2,1),(3,1),(4,1),(5,1),(6,1),(7,1),(8,1)]:=by kernel_rfl
theorem Tryz.zc208:((Tryz.prog.info? 208).bind (·.zero)).map (·.cells)=some #[.nilFunc,.nilFunc,.nilFunc,.nilFunc,.nilFunc,.nilFunc,.nilFunc,.nilFunc,.string .empty]:=by kernel_rfl
@[go_sem ↓] theorem Tryz.bd208_0_1_2_4_6_7_8 {v0 v1 v2 v4 v6 v7 v8:Value} {q:Value→Prop} (h0:v0.cells = #[v0]) (h1:v1.cells = #[v1]) (h2:v2.cells = #[v2]) (h4:v4.cells = #[v4]) (h6:v6.cells = #[v6]) (h7:v7.cells = #[v7]) (h8:v8.cells = #[v8]):cn Tryz.prog 208 ([(0,v0),(1,v1),(2,v2),(4,v4),(6,v6),(7,v7),(8,v8)]:List (Nat × Value)).toArray q=q (.agg ([v0,v1,v2,.nilFunc,v4,.nilFunc,v6,v7,v8]:List Value).toArray):=by
 refine cG (cs := #[v0,v1,v2,.nilFunc,v4,.nilFunc,v6,v7,v8]) Tryz.pl208 Tryz.zc208 ?_
 simp [Instr.fill,bw,h0,h1,h2,h4,h6,h7,h8]
theorem Tryz.pl256:dP Tryz.prog 256=some #[(0,1),(1,1),(2,1)]:=by kernel_rfl
theorem Tryz.zc256:((Tryz.prog.info? 256).bind (·.zero)).map (·.cells)=some #[.int .u64 0,.slice none 0 0,.slice none 0 0]:=by kernel_rfl
@[go_sem ↓] theorem Tryz.bd256 {q:Value→Prop}  : cn Tryz.prog 256 ([]:List (Nat × Value)).toArray q=q (.agg ([.int .u64 0,.slice none 0 0,.slice none 0 0]:List Value).toArray):=by
 refine cG (cs := #[.int .u64 0,.slice none 0 0,.slice none 0 0]) Tryz.pl256 Tryz.zc256 ?_
 simp [Instr.fill,bw]
@[go_sem ↓] theorem Tryz.bd256_0_1_2 {v0 v1 v2:Value} {q:Value→Prop} (h0:v0.cells = #[v0]) (h1:v1.cells = #[v1]) (h2:v2.cells = #[v2]):cn Tryz.prog 256 ([(0,v0),(1,v1),(2,v2)]:List (Nat × Value)).toArray q=q (.agg ([v0,v1,v2]:List Value).toArray):=by
 refine cG (cs := #[v0,v1,v2]) Tryz.pl256 Tryz.zc256 ?_
 simp [Instr.fill,bw,h0,h1,h2]
theorem Tryz.pl261:dP Tryz.prog 261=some #[(0,1),(1,1),(2,1)]:=by kernel_rfl
theorem Tryz.zc261:((Tryz.prog.info? 261).bind (·.zero)).map (·.cells)=some #[.nilFunc,.slice none 0 0,.int .i64 0]:=by kernel_rfl
@[go_sem ↓] theorem Tryz.bd261 {q:Value→Prop}  : cn Tryz.prog 261 ([]:List (Nat × Value)).toArray q=q (.agg ([.nilFunc,.slice none 0 0,.int .i64 0]:List Value).toArray):=by
 refine cG (cs := #[.nilFunc,.slice none 0 0,.int .i64 0]) Tryz.pl261 Tryz.zc261 ?_
 simp [Instr.fill,bw]
@[go_sem ↓] theorem Tryz.bd261_0_1_2 {v0 v1 v2:Value} {q:Value→Prop} (h0:v0.cells = #[v0]) (h1:v1.cells = #[v1]) (h2:v2.cells = #[v2]):cn Tryz.prog 261 ([(0,v0),(1,v1),(2,v2)]:List (Nat × Value)).toArray q=q (.agg ([v0,v1,v2]:List Value).toArray):=by
 refine cG (cs := #[v0,v1,v2]) Tryz.pl261 Tryz.zc261 ?_
 simp [Instr.fill,bw,h0,h1,h2]
@[go_sem ↓] theorem Tryz.cv3_232 {n:Int} {kd:IntKind} {k:aq} {w:World}:fC Tryz.prog 3 232 (.int kd n) k w=k (.int .u64 (IntKind.u64.wrap n)) w:=by
 simp only [fC,Tryz.underlying3,Tryz.underlying232]
@[go_sem ↓] theorem Tryz.cv3_292 {n:Int} {kd:IntKind} {k:aq} {w:World}:fC Tryz.prog 3 292 (.int kd n) k w=k (.int .u64 (IntKind.u64.wrap n)) w:=by
 simp only [fC,Tryz.underlying3,Tryz.underlying292]
@[go_sem ↓] theorem Tryz.cv5_3 {n:Int} {kd:IntKind} {k:aq} {w:World}:fC Tryz.prog 5 3 (.int kd n) k w=k (.int .i64 (IntKind.i64.wrap n)) w:=by
 simp only [fC,Tryz.underlying5,Tryz.underlying3]
@[go_sem ↓] theorem Tryz.cv23_5 {n:Int} {kd:IntKind} {k:aq} {w:World}:fC Tryz.prog 23 5 (.int kd n) k w=k (.int .u8 (IntKind.u8.wrap n)) w:=by
 simp only [fC,Tryz.underlying23,Tryz.underlying5]
@[go_sem ↓] theorem Tryz.cv23_270 {n:Int} {kd:IntKind} {k:aq} {w:World}:fC Tryz.prog 23 270 (.int kd n) k w=k (.int .u8 (IntKind.u8.wrap n)) w:=by
 simp only [fC,Tryz.underlying23,Tryz.underlying270]
@[go_sem ↓] theorem Tryz.cv232_3 {n:Int} {kd:IntKind} {k:aq} {w:World}:fC Tryz.prog 232 3 (.int kd n) k w=k (.int .i64 (IntKind.i64.wrap n)) w:=by
 simp only [fC,Tryz.underlying232,Tryz.underlying3]
abbrev AL (t:TypeId) (l:List Value):Prop:=∀ {k:aq} {w:World},dw Tryz.prog (Instr.alloc t true (.tuple #[])) k w=k (.pointer (some ⟨w.heap.size,0,none⟩)) (w.alloc (.cells l.toArray t))
theorem Ld {t:TypeId} {l:List Value} (h:Cl Tryz.prog t=some l:=by kernel_rfl):AL t l:=Gs h
@[go_sem ↓] theorem Kt:AL 3 [.int .i64 0]∧AL 46 [.string .empty,.string .empty,.slice none 0 0]∧AL 53 [.int .u8 0,.string .empty]∧AL 56 [.string .empty,.string .empty,.slice none 0 0]∧AL 58 [.bool false,.bool false,.string .empty,.string .empty,.slice none 0 0]∧AL 62 [.int .u64 0,.string .empty,.string .empty]∧AL 64 [.string .empty,.string .empty]∧AL 66 [.slice none 0 0]∧AL 88 [.int .u64 0,.string .empty,.string .empty]∧AL 110 [.slice none 0 0]∧AL 114 [.slice none 0 0,.slice none 0 0,.slice none 0 0,.int .i8 0]∧AL 132 [.pointer none,.slice none 0 0,.slice none 0 0,.nilIface,.slice none 0 0,.slice none 0 0,.slice none 0 0,.int .i8 0,.nilIface,.int .i8 0,.nilIface,.int .i8 0,.slice none 0 0,.pointer none,.nilIface,.int .i8 0,.slice none 0 0,.pointer none,.nilIface,.int .i8 0,.slice none 0 0,.pointer none,.nilIface,.int .i8 0,.slice none 0 0,.pointer none,.nilIface,.int .i8 0,.slice none 0 0,.pointer none,.nilIface,.int .i8 0,.slice none 0 0,.pointer none,.nilIface,.int .i8 0,.slice none 0 0,.pointer none,.nilIface,.int .i8 0,.slice none 0 0,.pointer none,.nilIface,.int .i8 0,.slice none 0 0,.pointer none,.nilIface,.int .i8 0,.slice none 0 0,.pointer none,.pointer none,.int .i64 0,.pointer none,.int .i64 0,.pointer none,.int .i64 0,.pointer none,.int .i64 0,.pointer none,.int .i64 0,.pointer none,.int .i64 0,.pointer none,.int .i64 0,.pointer none,.int .i64 0,.pointer none,.int .i64 0,.pointer none,.int .i64 0]∧AL 151 [.pointer none,.pointer none,.nilFunc,.nilIface,.pointer none,.int .i8 0,.slice none 0 0,.slice none 0 0,.slice none 0 0,.int .i8 0,.nilIface,.nilFunc]∧AL 154 [.int .u64 0,.pointer none,.pointer none,.slice none 0 0,.slice none 0 0,.nilIface,.slice none 0 0,.slice none 0 0,.slice none 0 0,.int .i8 0,.nilIface,.int .i8 0,.nilIface,.int .i8 0,.slice none 0 0,.pointer none,.nilIface,.int .i8 0,.slice none 0 0,.pointer none,.nilIface,.int .i8 0,.slice none 0 0,.pointer none,.nilIface,.int .i8 0,.slice none 0 0,.pointer none,.nilIface,.int .i8 0,.slice none 0 0,.pointer none,.nilIface,.int .i8 0,.slice none 0 0,.pointer none,.nilIface,.int .i8 0,.slice none 0 0,.pointer none,.nilIface,.int .i8 0,.slice none 0 0,.pointer none,.nilIface,.int .i8 0,.slice none 0 0,.pointer none,.nilIface,.int .i8 0,.slice none 0 0,.pointer none,.pointer none,.int .i64 0,.pointer none,.int .i64 0,.pointer none,.int .i64 0,.pointer none,.int .i64 0,.pointer none,.int .i64 0,.pointer none,.int .i64 0,.pointer none,.int .i64 0,.pointer none,.int .i64 0,.pointer none,.int .i64 0,.pointer none,.int .i64 0,.nilIface,.pointer none,.nilFunc,.nilFunc,.slice none 0 0,.slice none 0 0,.pointer none,.pointer none,.int .i8 0,.pointer none,.pointer none,.nilFunc,.nilIface,.pointer none,.int .i8 0,.slice none 0 0,.slice none 0 0,.slice none 0 0,.int .i8 0,.nilIface,.nilFunc,.bool false,.pointer none]∧AL 165 [.slice none 0 0,.slice none 0 0,.nilFunc,.bool false,.slice none 0 0,.slice none 0 0]∧AL 168 [.slice none 0 0,.slice none 0 0,.slice none 0 0]∧AL 170 [.nilFunc,.slice none 0 0]∧AL 172 [.slice none 0 0,.slice none 0 0,.nilFunc,.bool false,.slice none 0 0,.slice none 0 0,.slice none 0 0,.slice none 0 0,.slice none 0 0,.nilFunc,.slice none 0 0]∧AL 256 [.int .u64 0,.slice none 0 0,.slice none 0 0]∧AL 292 [.int .u64 0]:=by and_intros <;> exact Ld
end Go.Proofs
end
section
namespace Go.E
open Go
def KD (P:Program) (t:TypeId) (n:Nat) (ps:Array (Nat × Value)) (k:aq) (w:World):Prop:=dw P (Instr.buildSlice t n ps) k w
@[go_sem ↓ high] theorem Cc {P:Program} {e:du} {k:aq} {w:World} {d:Option Tmp} {ty:TypeId} {pos:String} {af:Array Edge} {g:Option (Nat × Bool)} {t:TypeId} {n:Nat} {ps:Array (Nat × Operand)} :
    im P { dst:=d,op := .buildSlice t n ps,type:=ty,pos,after:=af,guard:=g } e k w=KD P t n (ps.map fun (i,x)=>(i,ev e x)) k w:=bL rfl
def pe (P:Program) (ats:Array TypeId) (ty:TypeId) (args:Array Value) (k:aq) (w:World):Prop:=dw P (Builtin.append_ ats ty args) k w
def FP (P:Program) (ats:Array TypeId) (ty:TypeId) (args:Array Value) (k:aq) (w:World):Prop:=dw P (Builtin.copy_ ats ty args) k w
def KF (P:Program) (t:TypeId) (l c:Value) (k:aq) (w:World):Prop:=dw P (Instr.makeSlice t l c) k w
def H0 (P:Program) (s d:TypeId) (x:Value) (k:aq) (w:World):Prop:=dw P (convert s d x) k w
section
variable {P:Program} {e:du} {k:aq} {w:World} {d:Option Tmp} {ty:TypeId} {pos:String} {af:Array Edge} {g:Option (Nat × Bool)}
@[go_sem ↓ high] theorem GF {args:Array Operand} {ats:Array TypeId}:im P { dst:=d,op := .call { callee := .builtin .append,args,argTypes:=ats },type:=ty,pos,after:=af,guard:=g } e k w=pe P ats ty (args.map (ev e)) k w:=bL rfl
@[go_sem ↓ high] theorem H1 {args:Array Operand} {ats:Array TypeId}:im P { dst:=d,op := .call { callee := .builtin .copy,args,argTypes:=ats },type:=ty,pos,after:=af,guard:=g } e k w=FP P ats ty (args.map (ev e)) k w:=bL rfl
@[go_sem ↓ high] theorem DV {t:TypeId} {l c:Operand}:im P { dst:=d,op := .makeSlice t l c,type:=ty,pos,after:=af,guard:=g } e k w=KF P t (ev e l) (ev e c) k w:=bL rfl
end
end Go.E
namespace Go.Proofs
open Go Go.E
@[go_sem ↓ high] theorem Tryz.cv9_107X {s:ByteArray} {k:aq} {w:World}:fC Tryz.prog 9 107 (.string s) k w=H0 Tryz.prog 9 107 (.string s) k w:=by
 simp only [fC,Tryz.underlying9,Tryz.underlying107,H0]
abbrev IV (t:TypeId) (m:String) (f:FuncId):Prop:=∀ {v:Value} {args:Array Value} {k:aq} {w:World},bu Tryz.prog (.iface t v) m args k w=aX Tryz.prog f (#[v]++args) k w
theorem oZ {t:TypeId} {m:String} {f:FuncId} (h:wu Tryz.prog t m=some f:=by kernel_rfl) (he:iX Tryz.prog f=true:=by kernel_rfl):IV t m f:=zB h he
@[go_sem] theorem Tryz.iv221_ShouldDefragment : IV 221 "ShouldDefragment" 189 := oZ
@[go_sem] theorem Tryz.iv221_Transform : IV 221 "Transform" 190 := oZ
@[go_sem] theorem Tryz.iv224_Error : IV 224 "Error" 192 := oZ
@[go_sem] theorem Tryz.iv224_First : IV 224 "First" 193 := oZ
@[go_sem] theorem Tryz.iv224_Last : IV 224 "Last" 194 := oZ
@[go_sem] theorem Tryz.iv224_Next : IV 224 "Next" 195 := oZ
@[go_sem] theorem Tryz.iv224_Prev : IV 224 "Prev" 196 := oZ
@[go_sem] theorem Tryz.iv226_Error : IV 226 "Error" 229 := oZ
@[go_sem] theorem Tryz.iv226_First : IV 226 "First" 230 := oZ
@[go_sem] theorem Tryz.iv226_Last : IV 226 "Last" 231 := oZ
@[go_sem] theorem Tryz.iv226_Next : IV 226 "Next" 232 := oZ
@[go_sem] theorem Tryz.iv226_Prev : IV 226 "Prev" 233 := oZ
@[go_sem] theorem Tryz.iv228_ShouldDefragment : IV 228 "ShouldDefragment" 240 := oZ
@[go_sem] theorem Tryz.iv229_First : IV 229 "First" 243 := oZ
@[go_sem] theorem Tryz.iv229_Last : IV 229 "Last" 244 := oZ
@[go_sem] theorem Tryz.iv229_Next : IV 229 "Next" 245 := oZ
@[go_sem] theorem Tryz.iv229_Prev : IV 229 "Prev" 246 := oZ
@[go_sem] theorem Tryz.iv233_Error : IV 233 "Error" 260 := oZ
@[go_sem] theorem Tryz.iv233_First : IV 233 "First" 261 := oZ
@[go_sem] theorem Tryz.iv233_Last : IV 233 "Last" 262 := oZ
@[go_sem] theorem Tryz.iv233_Next : IV 233 "Next" 263 := oZ
@[go_sem] theorem Tryz.iv233_Prev : IV 233 "Prev" 264 := oZ
@[go_sem] theorem Tryz.iv252_Len : IV 252 "Len" 270 := oZ
@[go_sem] theorem Tryz.iv252_Less : IV 252 "Less" 271 := oZ
@[go_sem] theorem Tryz.iv252_Swap : IV 252 "Swap" 272 := oZ
@[go_sem] theorem Tryz.iv263_Len : IV 263 "Len" 278 := oZ
@[go_sem] theorem Tryz.iv263_Less : IV 263 "Less" 279 := oZ
@[go_sem] theorem Tryz.iv263_Swap : IV 263 "Swap" 280 := oZ
@[go_sem] theorem Tryz.iv274_Transform : IV 274 "Transform" 281 := oZ
abbrev BX (t:TypeId) (n:Nat) (el:TypeId):Prop:=∀ {x:Value} {k:aq} {w:World} (h:x.cells.size=n),KD Tryz.prog t 1 [(0,x)].toArray k w=k (.slice (some ⟨w.heap.size,0,none⟩) 1 1) (w.alloc (.cells x.cells el))
theorem BU {t el:TypeId} {n b:Nat} (h0:gQ Tryz.prog t=some (el,n,b)) (hb:n≤16777216:=by decide):BX t n el:=fun h=>FO h0 h hb
@[go_sem] theorem Ku:BX 28 3 46∧BX 33 5 58∧BX 35 1 74∧BX 38 2 53∧BX 44 3 88∧BX 50 2 64∧BX 54 3 62∧BX 66 1 9∧BX 74 3 56∧BX 110 3 256∧BX 161 2 128∧BX 173 1 118∧BX 195 4 114:=⟨BU Tryz.rw28,BU Tryz.rw33,BU Tryz.rw35,BU Tryz.rw38,BU Tryz.rw44,BU Tryz.rw50,BU Tryz.rw54,BU Tryz.rw66,BU Tryz.rw74,BU Tryz.rw110,BU Tryz.rw161,BU Tryz.rw173,BU Tryz.rw195⟩
abbrev BW (t:TypeId) (el:TypeId):Prop:=∀ {k:aq} {w:World},KD Tryz.prog t 0 ([]:List (Nat × Value)).toArray k w=k (.slice (some ⟨w.heap.size,0,none⟩) 0 0) (w.alloc (.cells #[] el))
theorem Le {t el:TypeId} {n b:Nat} (h0:gQ Tryz.prog t=some (el,n,b)):BW t el:=DQ h0
@[go_sem] theorem Kv:BW 50 64:=Le Tryz.rw50
end Go.Proofs
end
