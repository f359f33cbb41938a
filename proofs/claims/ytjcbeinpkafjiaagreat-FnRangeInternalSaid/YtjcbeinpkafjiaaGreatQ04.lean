/- Parts of the proof: G, N. -/
import Derived.Test.YtjcbeinpkafjiaaGreatQ03
set_option linter.all false
set_option maxRecDepth 10000
section
namespace Go.Proofs
open Go Go.E
theorem Tryz.rw28:fi Tryz.prog 28=some (46,3,56):=by kernel_rfl
theorem Tryz.rw33:fi Tryz.prog 33=some (58,5,64):=by kernel_rfl
theorem Tryz.rw35:fi Tryz.prog 35=some (74,1,24):=by kernel_rfl
theorem Tryz.rw38:fi Tryz.prog 38=some (53,2,24):=by kernel_rfl
theorem Tryz.rw44:fi Tryz.prog 44=some (88,3,40):=by kernel_rfl
theorem Tryz.rw50:fi Tryz.prog 50=some (64,2,32):=by kernel_rfl
theorem Tryz.rw54:fi Tryz.prog 54=some (62,3,40):=by kernel_rfl
theorem Tryz.rw66:fi Tryz.prog 66=some (9,1,16):=by kernel_rfl
theorem Tryz.rw74:fi Tryz.prog 74=some (56,3,56):=by kernel_rfl
theorem Tryz.rw107:fi Tryz.prog 107=some (5,1,1):=by kernel_rfl
theorem Tryz.rw110:fi Tryz.prog 110=some (256,3,56):=by kernel_rfl
theorem Tryz.rw159:fi Tryz.prog 159=some (256,3,56):=by kernel_rfl
theorem Tryz.rw161:fi Tryz.prog 161=some (128,2,16):=by kernel_rfl
theorem Tryz.rw173:fi Tryz.prog 173=some (118,1,16):=by kernel_rfl
theorem Tryz.rw195:fi Tryz.prog 195=some (114,4,80):=by kernel_rfl
theorem Tryz.pl37:dI Tryz.prog 37=some #[(0,1),(1,1)]:=by kernel_rfl
theorem Tryz.zc37:((Tryz.prog.info? 37).bind (·.zero)).map (·.cells)=some #[.string .empty,.bool false]:=by kernel_rfl
@[go_sem ↓] theorem Tryz.bd37 {q:Value→Prop}  : cO Tryz.prog 37 ([]:List (Nat × Value)).toArray q=q (.agg ([.string .empty,.bool false]:List Value).toArray):=by
 refine bk (cs := #[.string .empty,.bool false]) Tryz.pl37 Tryz.zc37 ?_
 simp [Instr.fill,bZ]
theorem Tryz.pl46:dI Tryz.prog 46=some #[(0,1),(1,1),(2,1)]:=by kernel_rfl
theorem Tryz.zc46:((Tryz.prog.info? 46).bind (·.zero)).map (·.cells)=some #[.string .empty,.string .empty,.slice none 0 0]:=by kernel_rfl
@[go_sem ↓] theorem Tryz.bd46_0_1 {v0 v1:Value} {q:Value→Prop} (h0:v0.cells = #[v0]) (h1:v1.cells = #[v1]):cO Tryz.prog 46 ([(0,v0),(1,v1)]:List (Nat × Value)).toArray q=q (.agg ([v0,v1,.slice none 0 0]:List Value).toArray):=by
 refine bk (cs := #[v0,v1,.slice none 0 0]) Tryz.pl46 Tryz.zc46 ?_
 simp [Instr.fill,bZ,h0,h1]
@[go_sem ↓] theorem Tryz.bd46_0_1_2 {v0 v1 v2:Value} {q:Value→Prop} (h0:v0.cells = #[v0]) (h1:v1.cells = #[v1]) (h2:v2.cells = #[v2]):cO Tryz.prog 46 ([(0,v0),(1,v1),(2,v2)]:List (Nat × Value)).toArray q=q (.agg ([v0,v1,v2]:List Value).toArray):=by
 refine bk (cs := #[v0,v1,v2]) Tryz.pl46 Tryz.zc46 ?_
 simp [Instr.fill,bZ,h0,h1,h2]
@[go_sem ↓] theorem Tryz.bd46_2 {v2:Value} {q:Value→Prop} (h2:v2.cells = #[v2]):cO Tryz.prog 46 ([(2,v2)]:List (Nat × Value)).toArray q=q (.agg ([.string .empty,.string .empty,v2]:List Value).toArray):=by
 refine bk (cs := #[.string .empty,.string .empty,v2]) Tryz.pl46 Tryz.zc46 ?_
 simp [Instr.fill,bZ,h2]
theorem Tryz.pl53:dI Tryz.prog 53=some #[(0,1),(1,1)]:=by kernel_rfl
theorem Tryz.zc53:((Tryz.prog.info? 53).bind (·.zero)).map (·.cells)=some #[.int .u8 0,.string .empty]:=by kernel_rfl
@[go_sem ↓] theorem Tryz.bd53_0 {v0:Value} {q:Value→Prop} (h0:v0.cells = #[v0]):cO Tryz.prog 53 ([(0,v0)]:List (Nat × Value)).toArray q=q (.agg ([v0,.string .empty]:List Value).toArray):=by
 refine bk (cs := #[v0,.string .empty]) Tryz.pl53 Tryz.zc53 ?_
 simp [Instr.fill,bZ,h0]
@[go_sem ↓] theorem Tryz.bd53_0_1 {v0 v1:Value} {q:Value→Prop} (h0:v0.cells = #[v0]) (h1:v1.cells = #[v1]):cO Tryz.prog 53 ([(0,v0),(1,v1)]:List (Nat × Value)).toArray q=q (.agg ([v0,v1]:List Value).toArray):=by
 refine bk (cs := #[v0,v1]) Tryz.pl53 Tryz.zc53 ?_
 simp [Instr.fill,bZ,h0,h1]
theorem Tryz.pl56:dI Tryz.prog 56=some #[(0,1),(1,1),(2,1)]:=by kernel_rfl
theorem Tryz.zc56:((Tryz.prog.info? 56).bind (·.zero)).map (·.cells)=some #[.string .empty,.string .empty,.slice none 0 0]:=by kernel_rfl
@[go_sem ↓] theorem Tryz.bd56_0_1_2 {v0 v1 v2:Value} {q:Value→Prop} (h0:v0.cells = #[v0]) (h1:v1.cells = #[v1]) (h2:v2.cells = #[v2]):cO Tryz.prog 56 ([(0,v0),(1,v1),(2,v2)]:List (Nat × Value)).toArray q=q (.agg ([v0,v1,v2]:List Value).toArray):=by
 refine bk (cs := #[v0,v1,v2]) Tryz.pl56 Tryz.zc56 ?_
 simp [Instr.fill,bZ,h0,h1,h2]
theorem Tryz.pl58:dI Tryz.prog 58=some #[(0,1),(1,1),(2,3)]:=by kernel_rfl
theorem Tryz.zc58:((Tryz.prog.info? 58).bind (·.zero)).map (·.cells)=some #[.bool false,.bool false,.string .empty,.string .empty,.slice none 0 0]:=by kernel_rfl
@[go_sem ↓] theorem Tryz.bd58 {q:Value→Prop}  : cO Tryz.prog 58 ([]:List (Nat × Value)).toArray q=q (.agg ([.bool false,.bool false,.string .empty,.string .empty,.slice none 0 0]:List Value).toArray):=by
 refine bk (cs := #[.bool false,.bool false,.string .empty,.string .empty,.slice none 0 0]) Tryz.pl58 Tryz.zc58 ?_
 simp [Instr.fill,bZ]
@[go_sem ↓] theorem Tryz.bd58_0 {v0:Value} {q:Value→Prop} (h0:v0.cells = #[v0]):cO Tryz.prog 58 ([(0,v0)]:List (Nat × Value)).toArray q=q (.agg ([v0,.bool false,.string .empty,.string .empty,.slice none 0 0]:List Value).toArray):=by
 refine bk (cs := #[v0,.bool false,.string .empty,.string .empty,.slice none 0 0]) Tryz.pl58 Tryz.zc58 ?_
 simp [Instr.fill,bZ,h0]
theorem Tryz.pl62:dI Tryz.prog 62=some #[(0,1),(1,1),(2,1)]:=by kernel_rfl
theorem Tryz.zc62:((Tryz.prog.info? 62).bind (·.zero)).map (·.cells)=some #[.int .u64 0,.string .empty,.string .empty]:=by kernel_rfl
@[go_sem ↓] theorem Tryz.bd62_0_1 {v0 v1:Value} {q:Value→Prop} (h0:v0.cells = #[v0]) (h1:v1.cells = #[v1]):cO Tryz.prog 62 ([(0,v0),(1,v1)]:List (Nat × Value)).toArray q=q (.agg ([v0,v1,.string .empty]:List Value).toArray):=by
 refine bk (cs := #[v0,v1,.string .empty]) Tryz.pl62 Tryz.zc62 ?_
 simp [Instr.fill,bZ,h0,h1]
@[go_sem ↓] theorem Tryz.bd62_0_1_2 {v0 v1 v2:Value} {q:Value→Prop} (h0:v0.cells = #[v0]) (h1:v1.cells = #[v1]) (h2:v2.cells = #[v2]):cO Tryz.prog 62 ([(0,v0),(1,v1),(2,v2)]:List (Nat × Value)).toArray q=q (.agg ([v0,v1,v2]:List Value).toArray):=by
 refine bk (cs := #[v0,v1,v2]) Tryz.pl62 Tryz.zc62 ?_
 simp [Instr.fill,bZ,h0,h1,h2]
theorem Tryz.pl64:dI Tryz.prog 64=some #[(0,1),(1,1)]:=by kernel_rfl
theorem Tryz.zc64:((Tryz.prog.info? 64).bind (·.zero)).map (·.cells)=some #[.string .empty,.string .empty]:=by kernel_rfl
@[go_sem ↓] theorem Tryz.bd64_0_1 {v0 v1:Value} {q:Value→Prop} (h0:v0.cells = #[v0]) (h1:v1.cells = #[v1]):cO Tryz.prog 64 ([(0,v0),(1,v1)]:List (Nat × Value)).toArray q=q (.agg ([v0,v1]:List Value).toArray):=by
 refine bk (cs := #[v0,v1]) Tryz.pl64 Tryz.zc64 ?_
 simp [Instr.fill,bZ,h0,h1]
theorem Tryz.pl114:dI Tryz.prog 114=some #[(0,1),(1,1),(2,1),(3,1)]:=by kernel_rfl
theorem Tryz.zc114:((Tryz.prog.info? 114).bind (·.zero)).map (·.cells)=some #[.slice none 0 0,.slice none 0 0,.slice none 0 0,.int .i8 0]:=by kernel_rfl
@[go_sem ↓] theorem Tryz.bd114_0_1_2 {v0 v1 v2:Value} {q:Value→Prop} (h0:v0.cells = #[v0]) (h1:v1.cells = #[v1]) (h2:v2.cells = #[v2]):cO Tryz.prog 114 ([(0,v0),(1,v1),(2,v2)]:List (Nat × Value)).toArray q=q (.agg ([v0,v1,v2,.int .i8 0]:List Value).toArray):=by
 refine bk (cs := #[v0,v1,v2,.int .i8 0]) Tryz.pl114 Tryz.zc114 ?_
 simp [Instr.fill,bZ,h0,h1,h2]
@[go_sem ↓] theorem Tryz.bd114_0_1_2_3 {v0 v1 v2 v3:Value} {q:Value→Prop} (h0:v0.cells = #[v0]) (h1:v1.cells = #[v1]) (h2:v2.cells = #[v2]) (h3:v3.cells = #[v3]):cO Tryz.prog 114 ([(0,v0),(1,v1),(2,v2),(3,v3)]:List (Nat × Value)).toArray q=q (.agg ([v0,v1,v2,v3]:List Value).toArray):=by
 refine bk (cs := #[v0,v1,v2,v3]) Tryz.pl114 Tryz.zc114 ?_
 simp [Instr.fill,bZ,h0,h1,h2,h3]
@[go_sem ↓] theorem Tryz.bd114_0_1_3 {v0 v1 v3:Value} {q:Value→Prop} (h0:v0.cells = #[v0]) (h1:v1.cells = #[v1]) (h3:v3.cells = #[v3]):cO Tryz.prog 114 ([(0,v0),(1,v1),(3,v3)]:List (Nat × Value)).toArray q=q (.agg ([v0,v1,.slice none 0 0,v3]:List Value).toArray):=by
 refine bk (cs := #[v0,v1,.slice none 0 0,v3]) Tryz.pl114 Tryz.zc114 ?_
 simp [Instr.fill,bZ,h0,h1,h3]
theorem Tryz.pl122:dI Tryz.prog 122=some #[(0,1),(1,1),(2,1)]:=by kernel_rfl
theorem Tryz.zc122:((Tryz.prog.info? 122).bind (·.zero)).map (·.cells)=some #[.int .i8 0,.slice none 0 0,.pointer none]:=by kernel_rfl
@[go_sem ↓] theorem Tryz.bd122_0 {v0:Value} {q:Value→Prop} (h0:v0.cells = #[v0]):cO Tryz.prog 122 ([(0,v0)]:List (Nat × Value)).toArray q=q (.agg ([v0,.slice none 0 0,.pointer none]:List Value).toArray):=by
 refine bk (cs := #[v0,.slice none 0 0,.pointer none]) Tryz.pl122 Tryz.zc122 ?_
 simp [Instr.fill,bZ,h0]
@[go_sem ↓] theorem Tryz.bd122_0_1_2 {v0 v1 v2:Value} {q:Value→Prop} (h0:v0.cells = #[v0]) (h1:v1.cells = #[v1]) (h2:v2.cells = #[v2]):cO Tryz.prog 122 ([(0,v0),(1,v1),(2,v2)]:List (Nat × Value)).toArray q=q (.agg ([v0,v1,v2]:List Value).toArray):=by
 refine bk (cs := #[v0,v1,v2]) Tryz.pl122 Tryz.zc122 ?_
 simp [Instr.fill,bZ,h0,h1,h2]
theorem Tryz.pl124:dI Tryz.prog 124=some #[(0,1),(1,3)]:=by kernel_rfl
theorem Tryz.zc124:((Tryz.prog.info? 124).bind (·.zero)).map (·.cells)=some #[.nilIface,.int .i8 0,.slice none 0 0,.pointer none]:=by kernel_rfl
@[go_sem ↓] theorem Tryz.bd124_0 {v0:Value} {q:Value→Prop} (h0:v0.cells = #[v0]):cO Tryz.prog 124 ([(0,v0)]:List (Nat × Value)).toArray q=q (.agg ([v0,.int .i8 0,.slice none 0 0,.pointer none]:List Value).toArray):=by
 refine bk (cs := #[v0,.int .i8 0,.slice none 0 0,.pointer none]) Tryz.pl124 Tryz.zc124 ?_
 simp [Instr.fill,bZ,h0]
theorem Tryz.pl128:dI Tryz.prog 128=some #[(0,1),(1,1)]:=by kernel_rfl
theorem Tryz.zc128:((Tryz.prog.info? 128).bind (·.zero)).map (·.cells)=some #[.pointer none,.int .i64 0]:=by kernel_rfl
@[go_sem ↓] theorem Tryz.bd128_1_0 {v1 v0:Value} {q:Value→Prop} (h1:v1.cells = #[v1]) (h0:v0.cells = #[v0]):cO Tryz.prog 128 ([(1,v1),(0,v0)]:List (Nat × Value)).toArray q=q (.agg ([v0,v1]:List Value).toArray):=by
 refine bk (cs := #[v0,v1]) Tryz.pl128 Tryz.zc128 ?_
 simp [Instr.fill,bZ,h1,h0]
theorem Tryz.pl132:dI Tryz.prog 132=some #[(0,1),(1,1),(2,1),(3,1),(4,4),(8,1),(9,1),(10,60)]:=by kernel_rfl
theorem Tryz.zc132:((Tryz.prog.info? 132).bind (·.zero)).map (·.cells)=some #[.pointer none,.slice none 0 0,.slice none 0 0,.nilIface,.slice none 0 0,.slice none 0 0,.slice none 0 0,.int .i8 0,.nilIface,.int .i8 0,.nilIface,.int .i8 0,.slice none 0 0,.pointer none,.nilIface,.int .i8 0,.slice none 0 0,.pointer none,.nilIface,.int .i8 0,.slice none 0 0,.pointer none,.nilIface,.int .i8 0,.slice none 0 0,.pointer none,.nilIface,.int .i8 0,.slice none 0 0,.pointer none,.nilIface,.int .i8 0,.slice none 0 0,.pointer none,.nilIface,.int .i8 0,.slice none 0 0,.pointer none,.nilIface,.int .i8 0,.slice none 0 0,.pointer none,.nilIface,.int .i8 0,.slice none 0 0,.pointer none,.nilIface,.int .i8 0,.slice none 0 0,.pointer none,.pointer none,.int .i64 0,.pointer none,.int .i64 0,.pointer none,.int .i64 0,.pointer none,.int .i64 0,.pointer none,.int .i64 0,.pointer none,.int .i64 0,.pointer none,.int .i64 0,.pointer none,.int .i64 0,.pointer none,.int .i64 0,.pointer none,.int .i64 0]:=by kernel_rfl
@[go_sem ↓] theorem Tryz.bd132_0_3 {v0 v3:Value} {q:Value→Prop} (h0:v0.cells = #[v0]) (h3:v3.cells = #[v3]):cO Tryz.prog 132 ([(0,v0),(3,v3)]:List (Nat × Value)).toArray q=q (.agg ([v0,.slice none 0 0,.slice none 0 0,v3,.slice none 0 0,.slice none 0 0,.slice none 0 0,.int .i8 0,.nilIface,.int .i8 0,.nilIface,.int .i8 0,.slice none 0 0,.pointer none,.nilIface,.int .i8 0,.slice none 0 0,.pointer none,.nilIface,.int .i8 0,.slice none 0 0,.pointer none,.nilIface,.int .i8 0,.slice none 0 0,.pointer none,.nilIface,.int .i8 0,.slice none 0 0,.pointer none,.nilIface,.int .i8 0,.slice none 0 0,.pointer none,.nilIface,.int .i8 0,.slice none 0 0,.pointer none,.nilIface,.int .i8 0,.slice none 0 0,.pointer none,.nilIface,.int .i8 0,.slice none 0 0,.pointer none,.nilIface,.int .i8 0,.slice none 0 0,.pointer none,.pointer none,.int .i64 0,.pointer none,.int .i64 0,.pointer none,.int .i64 0,.pointer none,.int .i64 0,.pointer none,.int .i64 0,.pointer none,.int .i64 0,.pointer none,.int .i64 0,.pointer none,.int .i64 0,.pointer none,.int .i64 0,.pointer none,.int .i64 0]:List Value).toArray):=by
 refine bk (cs := #[v0,.slice none 0 0,.slice none 0 0,v3,.slice none 0 0,.slice none 0 0,.slice none 0 0,.int .i8 0,.nilIface,.int .i8 0,.nilIface,.int .i8 0,.slice none 0 0,.pointer none,.nilIface,.int .i8 0,.slice none 0 0,.pointer none,.nilIface,.int .i8 0,.slice none 0 0,.pointer none,.nilIface,.int .i8 0,.slice none 0 0,.pointer none,.nilIface,.int .i8 0,.slice none 0 0,.pointer none,.nilIface,.int .i8 0,.slice none 0 0,.pointer none,.nilIface,.int .i8 0,.slice none 0 0,.pointer none,.nilIface,.int .i8 0,.slice none 0 0,.pointer none,.nilIface,.int .i8 0,.slice none 0 0,.pointer none,.nilIface,.int .i8 0,.slice none 0 0,.pointer none,.pointer none,.int .i64 0,.pointer none,.int .i64 0,.pointer none,.int .i64 0,.pointer none,.int .i64 0,.pointer none,.int .i64 0,.pointer none,.int .i64 0,.pointer none,.int .i64 0,.pointer none,.int .i64 0,.pointer none,.int .i64 0,.pointer none,.int .i64 0]) Tryz.pl132 Tryz.zc132 ?_
 simp [Instr.fill,bZ,h0,h3]
theorem Tryz.pl141:dI Tryz.prog 141=some #[(0,1),(1,1),(2,1),(3,1),(4,1),(5,1),(6,1),(7,1),(8,1)]:=by kernel_rfl
theorem Tryz.zc141:((Tryz.prog.info? 141).bind (·.zero)).map (·.cells)=some #[.nilIface,.pointer none,.nilFunc,.nilFunc,.slice none 0 0,.slice none 0 0,.pointer none,.pointer none,.int .i8 0]:=by kernel_rfl
@[go_sem ↓] theorem Tryz.bd141_0_2_3_4_5_6_7 {v0 v2 v3 v4 v5 v6 v7:Value} {q:Value→Prop} (h0:v0.cells = #[v0]) (h2:v2.cells = #[v2]) (h3:v3.cells = #[v3]) (h4:v4.cells = #[v4]) (h5:v5.cells = #[v5]) (h6:v6.cells = #[v6]) (h7:v7.cells = #[v7]):cO Tryz.prog 141 ([(0,v0),(2,v2),(3,v3),(4,v4),(5,v5),(6,v6),(7,v7)]:List (Nat × Value)).toArray q=q (.agg ([v0,.pointer none,v2,v3,v4,v5,v6,v7,.int .i8 0]:List Value).toArray):=by
 refine bk (cs := #[v0,.pointer none,v2,v3,v4,v5,v6,v7,.int .i8 0]) Tryz.pl141 Tryz.zc141 ?_
 simp [Instr.fill,bZ,h0,h2,h3,h4,h5,h6,h7]
theorem Tryz.pl151:dI Tryz.prog 151=some #[(0,1),(1,1),(2,1),(3,1),(4,1),(5,1),(6,4),(10,1),(11,1)]:=by kernel_rfl
theorem Tryz.zc151:((Tryz.prog.info? 151).bind (·.zero)).map (·.cells)=some #[.pointer none,.pointer none,.nilFunc,.nilIface,.pointer none,.int .i8 0,.slice none 0 0,.slice none 0 0,.slice none 0 0,.int .i8 0,.nilIface,.nilFunc]:=by kernel_rfl
@[go_sem ↓] theorem Tryz.bd151_0_1_2_3_7_8 {v0 v1 v2 v3 v7 v8:Value} {q:Value→Prop} (h0:v0.cells = #[v0]) (h1:v1.cells = #[v1]) (h2:v2.cells = #[v2]) (h3:v3.cells = #[v3]) (h7:v7.cells = #[v7]) (h8:v8.cells = #[v8]):cO Tryz.prog 151 ([(0,v0),(1,v1),(2,v2),(3,v3),(7,v7),(8,v8)]:List (Nat × Value)).toArray q=q (.agg ([v0,v1,v2,v3,.pointer none,.int .i8 0,.slice none 0 0,.slice none 0 0,.slice none 0 0,.int .i8 0,v7,v8]:List Value).toArray):=by
 refine bk (cs := #[v0,v1,v2,v3,.pointer none,.int .i8 0,.slice none 0 0,.slice none 0 0,.slice none 0 0,.int .i8 0,v7,v8]) Tryz.pl151 Tryz.zc151 ?_
 simp [Instr.fill,bZ,h0,h1,h2,h3,h7,h8]
theorem Tryz.pl170:dI Tryz.prog 170=some #[(0,1),(1,1)]:=by kernel_rfl
theorem Tryz.zc170:((Tryz.prog.info? 170).bind (·.zero)).map (·.cells)=some #[.nilFunc,.slice none 0 0]:=by kernel_rfl
@[go_sem ↓] theorem Tryz.bd170_0_1 {v0 v1:Value} {q:Value→Prop} (h0:v0.cells = #[v0]) (h1:v1.cells = #[v1]):cO Tryz.prog 170 ([(0,v0),(1,v1)]:List (Nat × Value)).toArray q=q (.agg ([v0,v1]:List Value).toArray):=by
 refine bk (cs := #[v0,v1]) Tryz.pl170 Tryz.zc170 ?_
 simp [Instr.fill,bZ,h0,h1]
theorem Tryz.pl208:dI Tryz.prog 208=some #[(0,1),(1,1),(2,1),(3,1),(4,1),(5,1),(6,1),(7,1),(8,1)]:=by kernel_rfl
theorem Tryz.zc208:((Tryz.prog.info? 208).bind (·.zero)).map (·.cells)=some #[.nilFunc,.nilFunc,.nilFunc,.nilFunc,.nilFunc,.nilFunc,.nilFunc,.nilFunc,.string .empty]:=by kernel_rfl
@[go_sem ↓] theorem Tryz.bd208_0_1_2_4_6_7_8 {v0 v1 v2 v4 v6 v7 v8:Value} {q:Value→Prop} (h0:v0.cells = #[v0]) (h1:v1.cells = #[v1]) (h2:v2.cells = #[v2]) (h4:v4.cells = #[v4]) (h6:v6.cells = #[v6]) (h7:v7.cells = #[v7]) (h8:v8.cells = #[v8]):cO Tryz.prog 208 ([(0,v0),(1,v1),(2,v2),(4,v4),(6,v6),(7,v7),(8,v8)]:List (Nat × Value)).toArray q=q (.agg ([v0,v1,v2,.nilFunc,v4,.nilFunc,v6,v7,v8]:List Value).toArray):=by
 refine bk (cs := #[v0,v1,v2,.nilFunc,v4,.nilFunc,v6,v7,v8]) Tryz.pl208 Tryz.zc208 ?_
 simp [Instr.fill,bZ,h0,h1,h2,h4,h6,h7,h8]
theorem Tryz.pl256:dI Tryz.prog 256=some #[(0,1),(1,1),(2,1)]:=by kernel_rfl
theorem Tryz.zc256:((Tryz.prog.info? 256).bind (·.zero)).map (·.cells)=some #[.int .u64 0,.slice none 0 0,.slice none 0 0]:=by kernel_rfl
@[go_sem ↓] theorem Tryz.bd256 {q:Value→Prop}  : cO Tryz.prog 256 ([]:List (Nat × Value)).toArray q=q (.agg ([.int .u64 0,.slice none 0 0,.slice none 0 0]:List Value).toArray):=by
 refine bk (cs := #[.int .u64 0,.slice none 0 0,.slice none 0 0]) Tryz.pl256 Tryz.zc256 ?_
 simp [Instr.fill,bZ]
@[go_sem ↓] theorem Tryz.bd256_0_1_2 {v0 v1 v2:Value} {q:Value→Prop} (h0:v0.cells = #[v0]) (h1:v1.cells = #[v1]) (h2:v2.cells = #[v2]):cO Tryz.prog 256 ([(0,v0),(1,v1),(2,v2)]:List (Nat × Value)).toArray q=q (.agg ([v0,v1,v2]:List Value).toArray):=by
 refine bk (cs := #[v0,v1,v2]) Tryz.pl256 Tryz.zc256 ?_
 simp [Instr.fill,bZ,h0,h1,h2]
theorem Tryz.pl261:dI Tryz.prog 261=some #[(0,1),(1,1),(2,1)]:=by kernel_rfl
theorem Tryz.zc261:((Tryz.prog.info? 261).bind (·.zero)).map (·.cells)=some #[.nilFunc,.slice none 0 0,.int .i64 0]:=by kernel_rfl
@[go_sem ↓] theorem Tryz.bd261 {q:Value→Prop}  : cO Tryz.prog 261 ([]:List (Nat × Value)).toArray q=q (.agg ([.nilFunc,.slice none 0 0,.int .i64 0]:List Value).toArray):=by
 refine bk (cs := #[.nilFunc,.slice none 0 0,.int .i64 0]) Tryz.pl261 Tryz.zc261 ?_
 simp [Instr.fill,bZ]
@[go_sem ↓] theorem Tryz.bd261_0_1_2 {v0 v1 v2:Value} {q:Value→Prop} (h0:v0.cells = #[v0]) (h1:v1.cells = #[v1]) (h2:v2.cells = #[v2]):cO Tryz.prog 261 ([(0,v0),(1,v1),(2,v2)]:List (Nat × Value)).toArray q=q (.agg ([v0,v1,v2]:List Value).toArray):=by
 refine bk (cs := #[v0,v1,v2]) Tryz.pl261 Tryz.zc261 ?_
 simp [Instr.fill,bZ,h0,h1,h2]
@[go_sem ↓] theorem Tryz.fd46_2 {u0 u1 u2:Value} {q:Value→Prop}:jq Tryz.prog 46 2 (.agg [u0,u1,u2].toArray) q=q u2:=by
 simp only [jq,Tryz.underlying46]
 simp [kU,ly,show te Tryz.prog 44=false by kernel_rfl,show gw Tryz.prog 44=true by kernel_rfl]
@[go_sem ↓] theorem Tryz.cv3_232 {n:Int} {kd:IntKind} {k:ae} {w:World}:eW Tryz.prog 3 232 (.int kd n) k w=k (.int .u64 (IntKind.u64.wrap n)) w:=by
 simp only [eW,Tryz.underlying3,Tryz.underlying232]
@[go_sem ↓] theorem Tryz.cv3_292 {n:Int} {kd:IntKind} {k:ae} {w:World}:eW Tryz.prog 3 292 (.int kd n) k w=k (.int .u64 (IntKind.u64.wrap n)) w:=by
 simp only [eW,Tryz.underlying3,Tryz.underlying292]
@[go_sem ↓] theorem Tryz.cv5_3 {n:Int} {kd:IntKind} {k:ae} {w:World}:eW Tryz.prog 5 3 (.int kd n) k w=k (.int .i64 (IntKind.i64.wrap n)) w:=by
 simp only [eW,Tryz.underlying5,Tryz.underlying3]
@[go_sem ↓] theorem Tryz.cv23_5 {n:Int} {kd:IntKind} {k:ae} {w:World}:eW Tryz.prog 23 5 (.int kd n) k w=k (.int .u8 (IntKind.u8.wrap n)) w:=by
 simp only [eW,Tryz.underlying23,Tryz.underlying5]
@[go_sem ↓] theorem Tryz.cv23_270 {n:Int} {kd:IntKind} {k:ae} {w:World}:eW Tryz.prog 23 270 (.int kd n) k w=k (.int .u8 (IntKind.u8.wrap n)) w:=by
 simp only [eW,Tryz.underlying23,Tryz.underlying270]
@[go_sem ↓] theorem Tryz.cv232_3 {n:Int} {kd:IntKind} {k:ae} {w:World}:eW Tryz.prog 232 3 (.int kd n) k w=k (.int .i64 (IntKind.i64.wrap n)) w:=by
 simp only [eW,Tryz.underlying232,Tryz.underlying3]
abbrev AL (t:TypeId) (l:List Value):Prop:=∀ {k:ae} {w:World},dW Tryz.prog (Instr.alloc t true (.tuple #[])) k w=k (.pointer (some ⟨w.heap.size,0,none⟩)) (w.alloc (.cells l.toArray t))
theorem H2 {t:TypeId} {l:List Value} (h:z8 Tryz.prog t=some l:=by kernel_rfl):AL t l:=EI h
@[go_sem ↓] theorem HZ:AL 3 [.int .i64 0]∧AL 46 [.string .empty,.string .empty,.slice none 0 0]∧AL 53 [.int .u8 0,.string .empty]∧AL 56 [.string .empty,.string .empty,.slice none 0 0]∧AL 58 [.bool false,.bool false,.string .empty,.string .empty,.slice none 0 0]∧AL 62 [.int .u64 0,.string .empty,.string .empty]∧AL 64 [.string .empty,.string .empty]∧AL 66 [.slice none 0 0]∧AL 88 [.int .u64 0,.string .empty,.string .empty]∧AL 114 [.slice none 0 0,.slice none 0 0,.slice none 0 0,.int .i8 0]∧AL 154 [.int .u64 0,.pointer none,.pointer none,.slice none 0 0,.slice none 0 0,.nilIface,.slice none 0 0,.slice none 0 0,.slice none 0 0,.int .i8 0,.nilIface,.int .i8 0,.nilIface,.int .i8 0,.slice none 0 0,.pointer none,.nilIface,.int .i8 0,.slice none 0 0,.pointer none,.nilIface,.int .i8 0,.slice none 0 0,.pointer none,.nilIface,.int .i8 0,.slice none 0 0,.pointer none,.nilIface,.int .i8 0,.slice none 0 0,.pointer none,.nilIface,.int .i8 0,.slice none 0 0,.pointer none,.nilIface,.int .i8 0,.slice none 0 0,.pointer none,.nilIface,.int .i8 0,.slice none 0 0,.pointer none,.nilIface,.int .i8 0,.slice none 0 0,.pointer none,.nilIface,.int .i8 0,.slice none 0 0,.pointer none,.pointer none,.int .i64 0,.pointer none,.int .i64 0,.pointer none,.int .i64 0,.pointer none,.int .i64 0,.pointer none,.int .i64 0,.pointer none,.int .i64 0,.pointer none,.int .i64 0,.pointer none,.int .i64 0,.pointer none,.int .i64 0,.pointer none,.int .i64 0,.nilIface,.pointer none,.nilFunc,.nilFunc,.slice none 0 0,.slice none 0 0,.pointer none,.pointer none,.int .i8 0,.pointer none,.pointer none,.nilFunc,.nilIface,.pointer none,.int .i8 0,.slice none 0 0,.slice none 0 0,.slice none 0 0,.int .i8 0,.nilIface,.nilFunc,.bool false,.pointer none]∧AL 172 [.slice none 0 0,.slice none 0 0,.nilFunc,.bool false,.slice none 0 0,.slice none 0 0,.slice none 0 0,.slice none 0 0,.slice none 0 0,.nilFunc,.slice none 0 0]∧AL 256 [.int .u64 0,.slice none 0 0,.slice none 0 0]∧AL 292 [.int .u64 0]:=by and_intros <;> exact H2
end Go.Proofs
end
section
namespace Go.E
open Go
def G9 (P:Program) (t:TypeId) (n:Nat) (ps:Array (Nat × Value)) (k:ae) (w:World):Prop:=dW P (Instr.buildSlice t n ps) k w
@[go_sem ↓ high] theorem zu {P:Program} {e:dS} {k:ae} {w:World} {d:Option Tmp} {ty:TypeId} {pos:String} {af:Array Edge} {g:Option (Nat × Bool)} {t:TypeId} {n:Nat} {ps:Array (Nat × Operand)} :
    iF P { dst:=d,op := .buildSlice t n ps,type:=ty,pos,after:=af,guard:=g } e k w=G9 P t n (ps.map fun (i,x)=>(i,ev e x)) k w:=ar rfl
def oQ (P:Program) (ats:Array TypeId) (ty:TypeId) (args:Array Value) (k:ae) (w:World):Prop:=dW P (Builtin.append_ ats ty args) k w
def CO (P:Program) (ats:Array TypeId) (ty:TypeId) (args:Array Value) (k:ae) (w:World):Prop:=dW P (Builtin.copy_ ats ty args) k w
def HA (P:Program) (t:TypeId) (l c:Value) (k:ae) (w:World):Prop:=dW P (Instr.makeSlice t l c) k w
def FC (P:Program) (s d:TypeId) (x:Value) (k:ae) (w:World):Prop:=dW P (convert s d x) k w
section
variable {P:Program} {e:dS} {k:ae} {w:World} {d:Option Tmp} {ty:TypeId} {pos:String} {af:Array Edge} {g:Option (Nat × Bool)}
@[go_sem ↓ high] theorem DH {args:Array Operand} {ats:Array TypeId}:iF P { dst:=d,op := .call { callee := .builtin .append,args,argTypes:=ats },type:=ty,pos,after:=af,guard:=g } e k w=oQ P ats ty (args.map (ev e)) k w:=ar rfl
@[go_sem ↓ high] theorem FD {args:Array Operand} {ats:Array TypeId}:iF P { dst:=d,op := .call { callee := .builtin .copy,args,argTypes:=ats },type:=ty,pos,after:=af,guard:=g } e k w=CO P ats ty (args.map (ev e)) k w:=ar rfl
@[go_sem ↓ high] theorem Ak {t:TypeId} {l c:Operand}:iF P { dst:=d,op := .makeSlice t l c,type:=ty,pos,after:=af,guard:=g } e k w=HA P t (ev e l) (ev e c) k w:=ar rfl
end
end Go.E
namespace Go.Proofs
open Go Go.E
@[go_sem ↓ high] theorem Tryz.cv9_107X {s:ByteArray} {k:ae} {w:World}:eW Tryz.prog 9 107 (.string s) k w=FC Tryz.prog 9 107 (.string s) k w:=by
 simp only [eW,Tryz.underlying9,Tryz.underlying107,FC]
abbrev IV (t:TypeId) (m:String) (f:FuncId):Prop:=∀ {v:Value} {args:Array Value} {k:ae} {w:World},bm Tryz.prog (.iface t v) m args k w=aU Tryz.prog f (#[v]++args) k w
theorem kT {t:TypeId} {m:String} {f:FuncId} (h:th Tryz.prog t m=some f:=by kernel_rfl) (he:gx Tryz.prog f=true:=by kernel_rfl):IV t m f:=wM h he
@[go_sem] theorem Tryz.iv221_ShouldDefragment : IV 221 "ShouldDefragment" 189 := kT
@[go_sem] theorem Tryz.iv221_Transform : IV 221 "Transform" 190 := kT
@[go_sem] theorem Tryz.iv224_Error : IV 224 "Error" 192 := kT
@[go_sem] theorem Tryz.iv224_First : IV 224 "First" 193 := kT
@[go_sem] theorem Tryz.iv224_Last : IV 224 "Last" 194 := kT
@[go_sem] theorem Tryz.iv224_Next : IV 224 "Next" 195 := kT
@[go_sem] theorem Tryz.iv224_Prev : IV 224 "Prev" 196 := kT
@[go_sem] theorem Tryz.iv224_SeekGE : IV 224 "SeekGE" 197 := kT
@[go_sem] theorem Tryz.iv224_SeekLT : IV 224 "SeekLT" 198 := kT
@[go_sem] theorem Tryz.iv226_Error : IV 226 "Error" 229 := kT
@[go_sem] theorem Tryz.iv226_First : IV 226 "First" 230 := kT
@[go_sem] theorem Tryz.iv226_Last : IV 226 "Last" 231 := kT
@[go_sem] theorem Tryz.iv226_Next : IV 226 "Next" 232 := kT
@[go_sem] theorem Tryz.iv226_Prev : IV 226 "Prev" 233 := kT
@[go_sem] theorem Tryz.iv226_SeekGE : IV 226 "SeekGE" 234 := kT
@[go_sem] theorem Tryz.iv226_SeekLT : IV 226 "SeekLT" 235 := kT
@[go_sem] theorem Tryz.iv228_ShouldDefragment : IV 228 "ShouldDefragment" 240 := kT
@[go_sem] theorem Tryz.iv229_First : IV 229 "First" 243 := kT
@[go_sem] theorem Tryz.iv229_Last : IV 229 "Last" 244 := kT
@[go_sem] theorem Tryz.iv229_Next : IV 229 "Next" 245 := kT
@[go_sem] theorem Tryz.iv229_Prev : IV 229 "Prev" 246 := kT
@[go_sem] theorem Tryz.iv229_SeekGE : IV 229 "SeekGE" 247 := kT
@[go_sem] theorem Tryz.iv229_SeekLT : IV 229 "SeekLT" 248 := kT
@[go_sem] theorem Tryz.iv233_Error : IV 233 "Error" 260 := kT
@[go_sem] theorem Tryz.iv233_First : IV 233 "First" 261 := kT
@[go_sem] theorem Tryz.iv233_Last : IV 233 "Last" 262 := kT
@[go_sem] theorem Tryz.iv233_Next : IV 233 "Next" 263 := kT
@[go_sem] theorem Tryz.iv233_Prev : IV 233 "Prev" 264 := kT
@[go_sem] theorem Tryz.iv233_SeekGE : IV 233 "SeekGE" 265 := kT
@[go_sem] theorem Tryz.iv233_SeekLT : IV 233 "SeekLT" 266 := kT
@[go_sem] theorem Tryz.iv252_Len : IV 252 "Len" 270 := kT
@[go_sem] theorem Tryz.iv252_Less : IV 252 "Less" 271 := kT
@[go_sem] theorem Tryz.iv252_Swap : IV 252 "Swap" 272 := kT
@[go_sem] theorem Tryz.iv263_Len : IV 263 "Len" 278 := kT
@[go_sem] theorem Tryz.iv263_Less : IV 263 "Less" 279 := kT
@[go_sem] theorem Tryz.iv263_Swap : IV 263 "Swap" 280 := kT
abbrev BX (t:TypeId) (n:Nat) (el:TypeId):Prop:=∀ {x:Value} {k:ae} {w:World} (h:x.cells.size=n),G9 Tryz.prog t 1 [(0,x)].toArray k w=k (.slice (some ⟨w.heap.size,0,none⟩) 1 1) (w.alloc (.cells x.cells el))
theorem ym {t el:TypeId} {n b:Nat} (h0:fi Tryz.prog t=some (el,n,b)) (hb:n≤16777216:=by decide):BX t n el:=fun h=>CN h0 h hb
@[go_sem] theorem Ha:BX 28 3 46∧BX 33 5 58∧BX 35 1 74∧BX 38 2 53∧BX 44 3 88∧BX 50 2 64∧BX 54 3 62∧BX 66 1 9∧BX 74 3 56∧BX 110 3 256∧BX 161 2 128∧BX 173 1 118∧BX 195 4 114:=⟨ym Tryz.rw28,ym Tryz.rw33,ym Tryz.rw35,ym Tryz.rw38,ym Tryz.rw44,ym Tryz.rw50,ym Tryz.rw54,ym Tryz.rw66,ym Tryz.rw74,ym Tryz.rw110,ym Tryz.rw161,ym Tryz.rw173,ym Tryz.rw195⟩
abbrev BW (t:TypeId) (el:TypeId):Prop:=∀ {k:ae} {w:World},G9 Tryz.prog t 0 ([]:List (Nat × Value)).toArray k w=k (.slice (some ⟨w.heap.size,0,none⟩) 0 0) (w.alloc (.cells #[] el))
theorem H3 {t el:TypeId} {n b:Nat} (h0:fi Tryz.prog t=some (el,n,b)):BW t el:=Ai h0
@[go_sem] theorem Hc:BW 50 64:=H3 Tryz.rw50
end Go.Proofs
end
