/-
  No cell of these rows narrows 'for every input' (looked for: loops, veiled, ifaces, maps, wideKeys, modest, calm, conditions, laid).
  DERIVED. THE GIVEN ROWS OF THIS SEAT. 10 by the template 'for every input the law returns true; each argument reads behind the call as it read before'; 0 by the template 'total and deterministic' (their statements: YtjcbeinpkafjiaaGreatTotals.lean).
  GIVEN WITH THE SEED: the statements are not yours to turn. If you find one false, say at which input.
  Laid BY PROGRAM, IN A SANDBOX (cutbox-rows.mjs): the forced cells as the released guide's own fill.sh prints them over the translation a49d35504e0ca776… (all of the seat's roots in one cut). By AI agents, Wed Nov 11 2026. No macro, syntax, notation, axiom, sorry.
-/
import Derived.Test.YtjcbeinpkafjiaaGreatChecked
import GoSem.Claim
import GoSem.ClaimJoined
import GoSem.ClaimMapViews
import Derived.JoinedTies
import Derived.KernelRfl
namespace Go.Proofs.YtjcbeinpkafjiaaGreat
/- THE CELL 'sum', in the pinned program and in every row, IS THE sha256 OF THE DUMP (.gsa) THAT YtjcbeinpkafjiaaGreatProg.lean LOADS. Nothing in Lean hashes anything: it is a label: what it is worth is what the hold of that sum in a sandbox is worth. -/
noncomputable def Tryz.pinned : Pinned := { name := "ytjcbeinpkafjiaagreat", sum := "a49d35504e0ca77655223425fb702372f768531e97de9c38513841b89d15f20d", checked := Tryz.checked }
namespace Rows
def none {H : Type} : Left H := { results := [], args := [] }

/-- 'laws.FnRangeUser': WHATEVER THE INPUT: true; the input reads as it did. -/
def fnRangeUserSpec : ChangeSpec := { name := "fnRangeUser", fn := fun _ => fun
  | [d1, d2, d3] => { results := [.lit (.bool true)], args := [d1, d2, d3] }
  | _ => none }
def fnRangeUserRow : OpenClaim := { program := "ytjcbeinpkafjiaagreat", sum := "a49d35504e0ca77655223425fb702372f768531e97de9c38513841b89d15f20d", func := "pub-tessella/laws.FnRangeUser", spec := "fnRangeUser", inPlace := ["internal/bytealg.Compare"], unfollowed := true, recurses := true, named := ["encoding/binary.BigEndian", "encoding/binary.LittleEndian"], apart := false }
def FnRangeUserSaid : Prop := fnRangeUserRow.holds Tryz.pinned (OpenSpec.ofChange fnRangeUserSpec)

/-- ITS FALSE NEIGHBOUR: 'it returns false'. Refute it at one input. -/
def fnRangeUserWrong : ChangeSpec := { name := "fnRangeUser", fn := fun _ => fun
  | [d1, d2, d3] => { results := [.lit (.bool false)], args := [d1, d2, d3] }
  | _ => none }
def FnRangeUserWrongFalsely : Prop := fnRangeUserRow.holds Tryz.pinned (OpenSpec.ofChange fnRangeUserWrong)

/-- 'laws.FnRangeUserAt': WHATEVER THE INPUT: true; the input reads as it did. -/
def fnRangeUserAtSpec : ChangeSpec := { name := "fnRangeUserAt", fn := fun _ => fun
  | [d1, d2, d3] => { results := [.lit (.bool true)], args := [d1, d2, d3] }
  | _ => none }
def fnRangeUserAtRow : OpenClaim := { program := "ytjcbeinpkafjiaagreat", sum := "a49d35504e0ca77655223425fb702372f768531e97de9c38513841b89d15f20d", func := "pub-tessella/laws.FnRangeUserAt", spec := "fnRangeUserAt", inPlace := ["internal/bytealg.Compare"], unfollowed := true, recurses := true, named := ["encoding/binary.BigEndian", "encoding/binary.LittleEndian"], apart := false }
def FnRangeUserAtSaid : Prop := fnRangeUserAtRow.holds Tryz.pinned (OpenSpec.ofChange fnRangeUserAtSpec)

/-- ITS FALSE NEIGHBOUR: 'it returns false'. Refute it at one input. -/
def fnRangeUserAtWrong : ChangeSpec := { name := "fnRangeUserAt", fn := fun _ => fun
  | [d1, d2, d3] => { results := [.lit (.bool false)], args := [d1, d2, d3] }
  | _ => none }
def FnRangeUserAtWrongFalsely : Prop := fnRangeUserAtRow.holds Tryz.pinned (OpenSpec.ofChange fnRangeUserAtWrong)

/-- 'laws.FnRangeUserCut': WHATEVER THE INPUT: true; the input reads as it did. -/
def fnRangeUserCutSpec : ChangeSpec := { name := "fnRangeUserCut", fn := fun _ => fun
  | [d1, d2, d3] => { results := [.lit (.bool true)], args := [d1, d2, d3] }
  | _ => none }
def fnRangeUserCutRow : OpenClaim := { program := "ytjcbeinpkafjiaagreat", sum := "a49d35504e0ca77655223425fb702372f768531e97de9c38513841b89d15f20d", func := "pub-tessella/laws.FnRangeUserCut", spec := "fnRangeUserCut", inPlace := ["internal/bytealg.Compare"], unfollowed := true, recurses := true, named := ["encoding/binary.BigEndian", "encoding/binary.LittleEndian"], apart := false }
def FnRangeUserCutSaid : Prop := fnRangeUserCutRow.holds Tryz.pinned (OpenSpec.ofChange fnRangeUserCutSpec)

/-- ITS FALSE NEIGHBOUR: 'it returns false'. Refute it at one input. -/
def fnRangeUserCutWrong : ChangeSpec := { name := "fnRangeUserCut", fn := fun _ => fun
  | [d1, d2, d3] => { results := [.lit (.bool false)], args := [d1, d2, d3] }
  | _ => none }
def FnRangeUserCutWrongFalsely : Prop := fnRangeUserCutRow.holds Tryz.pinned (OpenSpec.ofChange fnRangeUserCutWrong)

/-- 'laws.FnRangeUserForth': WHATEVER THE INPUT: true; the input reads as it did. -/
def fnRangeUserForthSpec : ChangeSpec := { name := "fnRangeUserForth", fn := fun _ => fun
  | [d1, d2] => { results := [.lit (.bool true)], args := [d1, d2] }
  | _ => none }
def fnRangeUserForthRow : OpenClaim := { program := "ytjcbeinpkafjiaagreat", sum := "a49d35504e0ca77655223425fb702372f768531e97de9c38513841b89d15f20d", func := "pub-tessella/laws.FnRangeUserForth", spec := "fnRangeUserForth", inPlace := ["internal/bytealg.Compare"], unfollowed := true, recurses := true, named := ["encoding/binary.BigEndian", "encoding/binary.LittleEndian"], apart := false }
def FnRangeUserForthSaid : Prop := fnRangeUserForthRow.holds Tryz.pinned (OpenSpec.ofChange fnRangeUserForthSpec)

/-- ITS FALSE NEIGHBOUR: 'it returns false'. Refute it at one input. -/
def fnRangeUserForthWrong : ChangeSpec := { name := "fnRangeUserForth", fn := fun _ => fun
  | [d1, d2] => { results := [.lit (.bool false)], args := [d1, d2] }
  | _ => none }
def FnRangeUserForthWrongFalsely : Prop := fnRangeUserForthRow.holds Tryz.pinned (OpenSpec.ofChange fnRangeUserForthWrong)

/-- 'laws.FnRangeUserWithin': WHATEVER THE INPUT: true; the input reads as it did. -/
def fnRangeUserWithinSpec : ChangeSpec := { name := "fnRangeUserWithin", fn := fun _ => fun
  | [d1, d2, d3, d4, d5] => { results := [.lit (.bool true)], args := [d1, d2, d3, d4, d5] }
  | _ => none }
def fnRangeUserWithinRow : OpenClaim := { program := "ytjcbeinpkafjiaagreat", sum := "a49d35504e0ca77655223425fb702372f768531e97de9c38513841b89d15f20d", func := "pub-tessella/laws.FnRangeUserWithin", spec := "fnRangeUserWithin", inPlace := ["internal/bytealg.Compare"], unfollowed := true, recurses := true, named := ["encoding/binary.BigEndian", "encoding/binary.LittleEndian"], apart := false }
def FnRangeUserWithinSaid : Prop := fnRangeUserWithinRow.holds Tryz.pinned (OpenSpec.ofChange fnRangeUserWithinSpec)

/-- ITS FALSE NEIGHBOUR: 'it returns false'. Refute it at one input. -/
def fnRangeUserWithinWrong : ChangeSpec := { name := "fnRangeUserWithin", fn := fun _ => fun
  | [d1, d2, d3, d4, d5] => { results := [.lit (.bool false)], args := [d1, d2, d3, d4, d5] }
  | _ => none }
def FnRangeUserWithinWrongFalsely : Prop := fnRangeUserWithinRow.holds Tryz.pinned (OpenSpec.ofChange fnRangeUserWithinWrong)

/-- 'laws.FnRangeInternal': WHATEVER THE INPUT: true; the input reads as it did. -/
def fnRangeInternalSpec : ChangeSpec := { name := "fnRangeInternal", fn := fun _ => fun
  | [d1, d2, d3, d4] => { results := [.lit (.bool true)], args := [d1, d2, d3, d4] }
  | _ => none }
def fnRangeInternalRow : OpenClaim := { program := "ytjcbeinpkafjiaagreat", sum := "a49d35504e0ca77655223425fb702372f768531e97de9c38513841b89d15f20d", func := "pub-tessella/laws.FnRangeInternal", spec := "fnRangeInternal", inPlace := ["internal/bytealg.Compare"], unfollowed := true, recurses := true, named := ["encoding/binary.BigEndian", "encoding/binary.LittleEndian"], apart := false }
def FnRangeInternalSaid : Prop := fnRangeInternalRow.holds Tryz.pinned (OpenSpec.ofChange fnRangeInternalSpec)

/-- ITS FALSE NEIGHBOUR: 'it returns false'. Refute it at one input. -/
def fnRangeInternalWrong : ChangeSpec := { name := "fnRangeInternal", fn := fun _ => fun
  | [d1, d2, d3, d4] => { results := [.lit (.bool false)], args := [d1, d2, d3, d4] }
  | _ => none }
def FnRangeInternalWrongFalsely : Prop := fnRangeInternalRow.holds Tryz.pinned (OpenSpec.ofChange fnRangeInternalWrong)

/-- 'laws.FnStripeKeysSettled': WHATEVER THE INPUT: true; the input reads as it did. -/
def fnStripeKeysSettledSpec : ChangeSpec := { name := "fnStripeKeysSettled", fn := fun _ => fun
  | [d] => { results := [.lit (.bool true)], args := [d] }
  | _ => none }
def fnStripeKeysSettledRow : OpenClaim := { program := "ytjcbeinpkafjiaagreat", sum := "a49d35504e0ca77655223425fb702372f768531e97de9c38513841b89d15f20d", func := "pub-tessella/laws.FnStripeKeysSettled", spec := "fnStripeKeysSettled", inPlace := ["internal/bytealg.Compare"], unfollowed := true, recurses := true, named := ["encoding/binary.BigEndian", "encoding/binary.LittleEndian"], apart := false }
def FnStripeKeysSettledSaid : Prop := fnStripeKeysSettledRow.holds Tryz.pinned (OpenSpec.ofChange fnStripeKeysSettledSpec)

/-- ITS FALSE NEIGHBOUR: 'it returns false'. Refute it at one input. -/
def fnStripeKeysSettledWrong : ChangeSpec := { name := "fnStripeKeysSettled", fn := fun _ => fun
  | [d] => { results := [.lit (.bool false)], args := [d] }
  | _ => none }
def FnStripeKeysSettledWrongFalsely : Prop := fnStripeKeysSettledRow.holds Tryz.pinned (OpenSpec.ofChange fnStripeKeysSettledWrong)

/-- 'laws.FnStripeKeysUser': WHATEVER THE INPUT: true; the input reads as it did. -/
def fnStripeKeysUserSpec : ChangeSpec := { name := "fnStripeKeysUser", fn := fun _ => fun
  | [d1, d2] => { results := [.lit (.bool true)], args := [d1, d2] }
  | _ => none }
def fnStripeKeysUserRow : OpenClaim := { program := "ytjcbeinpkafjiaagreat", sum := "a49d35504e0ca77655223425fb702372f768531e97de9c38513841b89d15f20d", func := "pub-tessella/laws.FnStripeKeysUser", spec := "fnStripeKeysUser", inPlace := ["internal/bytealg.Compare"], unfollowed := true, recurses := true, named := ["encoding/binary.BigEndian", "encoding/binary.LittleEndian"], apart := false }
def FnStripeKeysUserSaid : Prop := fnStripeKeysUserRow.holds Tryz.pinned (OpenSpec.ofChange fnStripeKeysUserSpec)

/-- ITS FALSE NEIGHBOUR: 'it returns false'. Refute it at one input. -/
def fnStripeKeysUserWrong : ChangeSpec := { name := "fnStripeKeysUser", fn := fun _ => fun
  | [d1, d2] => { results := [.lit (.bool false)], args := [d1, d2] }
  | _ => none }
def FnStripeKeysUserWrongFalsely : Prop := fnStripeKeysUserRow.holds Tryz.pinned (OpenSpec.ofChange fnStripeKeysUserWrong)

/-- 'laws.FnRangeUserFlat': WHATEVER THE INPUT: true; the input reads as it did. -/
def fnRangeUserFlatSpec : ChangeSpec := { name := "fnRangeUserFlat", fn := fun _ => fun
  | [d1, d2] => { results := [.lit (.bool true)], args := [d1, d2] }
  | _ => none }
def fnRangeUserFlatRow : OpenClaim := { program := "ytjcbeinpkafjiaagreat", sum := "a49d35504e0ca77655223425fb702372f768531e97de9c38513841b89d15f20d", func := "pub-tessella/laws.FnRangeUserFlat", spec := "fnRangeUserFlat", inPlace := ["internal/bytealg.Compare"], unfollowed := true, recurses := true, named := ["encoding/binary.BigEndian", "encoding/binary.LittleEndian"], apart := false }
def FnRangeUserFlatSaid : Prop := fnRangeUserFlatRow.holds Tryz.pinned (OpenSpec.ofChange fnRangeUserFlatSpec)

/-- ITS FALSE NEIGHBOUR: 'it returns false'. Refute it at one input. -/
def fnRangeUserFlatWrong : ChangeSpec := { name := "fnRangeUserFlat", fn := fun _ => fun
  | [d1, d2] => { results := [.lit (.bool false)], args := [d1, d2] }
  | _ => none }
def FnRangeUserFlatWrongFalsely : Prop := fnRangeUserFlatRow.holds Tryz.pinned (OpenSpec.ofChange fnRangeUserFlatWrong)

/-- 'laws.FnRangeUserCompacted': WHATEVER THE INPUT: true; the input reads as it did. -/
def fnRangeUserCompactedSpec : ChangeSpec := { name := "fnRangeUserCompacted", fn := fun _ => fun
  | [d] => { results := [.lit (.bool true)], args := [d] }
  | _ => none }
def fnRangeUserCompactedRow : OpenClaim := { program := "ytjcbeinpkafjiaagreat", sum := "a49d35504e0ca77655223425fb702372f768531e97de9c38513841b89d15f20d", func := "pub-tessella/laws.FnRangeUserCompacted", spec := "fnRangeUserCompacted", inPlace := ["internal/bytealg.Compare"], unfollowed := true, recurses := true, named := ["encoding/binary.BigEndian", "encoding/binary.LittleEndian"], apart := false }
def FnRangeUserCompactedSaid : Prop := fnRangeUserCompactedRow.holds Tryz.pinned (OpenSpec.ofChange fnRangeUserCompactedSpec)

/-- ITS FALSE NEIGHBOUR: 'it returns false'. Refute it at one input. -/
def fnRangeUserCompactedWrong : ChangeSpec := { name := "fnRangeUserCompacted", fn := fun _ => fun
  | [d] => { results := [.lit (.bool false)], args := [d] }
  | _ => none }
def FnRangeUserCompactedWrongFalsely : Prop := fnRangeUserCompactedRow.holds Tryz.pinned (OpenSpec.ofChange fnRangeUserCompactedWrong)

/- THE SECOND FORM. 'bulk': how many values and letters a reading holds, each counted each time it is reached (what is shared counts as often as it is met; a slice's spare places count too). A statement '..UptoSaid' is the law's where the arguments, and the package variables that the reading takes, are together of bulk at most 1048576: NARROWER than '..Said'. Prove '..Said' where nothing that the law and all that it calls make is longer than what came in: it says more and counts as full. Else prove '..UptoSaid'. A law counts once. -/
mutual
def uptoBulk {H : Type} : DataW H → Nat
  | .lit (.string bytes) => bytes.length + 1
  | .lit _ => 1
  | .nil => 1
  | .ptr d => uptoBulk d + 1
  | .slice elems spare => uptoBulkAll elems + uptoBulkAll spare + 1
  | .agg parts => uptoBulkAll parts + 1
  | .iface _ d => uptoBulk d + 1
  | .map entries => uptoBulkEntries entries + 1
  | .held _ => 1
def uptoBulkAll {H : Type} : List (DataW H) → Nat
  | [] => 0
  | d :: r => uptoBulk d + uptoBulkAll r
def uptoBulkEntries {H : Type} : List (Lit × DataW H) → Nat
  | [] => 0
  | x :: r => uptoBulkEntry x + uptoBulkEntries r
def uptoBulkEntry {H : Type} : Lit × DataW H → Nat
  | (.string bytes, d) => bytes.length + uptoBulk d + 1
  | (_, d) => uptoBulk d + 1
 end
def uptoSmall : (H : Type) → List (DataW H) → Bool := fun _ ds => decide (uptoBulkAll ds ≤ 1048576)
def OpenSpec.upto (s : _root_.Go.ChangeSpec) : _root_.Go.OpenSpec := { _root_.Go.OpenSpec.ofChange s with cond := some uptoSmall }

/-- 'laws.FnRangeUser', WHERE WHAT IT READS IS OF BULK AT MOST 1048576: true; the input reads as it did. -/
def fnRangeUserUptoRow : OpenClaim := { program := "ytjcbeinpkafjiaagreat", sum := "a49d35504e0ca77655223425fb702372f768531e97de9c38513841b89d15f20d", func := "pub-tessella/laws.FnRangeUser", spec := "fnRangeUser", inPlace := ["internal/bytealg.Compare"], unfollowed := true, recurses := true, named := ["encoding/binary.BigEndian", "encoding/binary.LittleEndian"], apart := false, narrowed := true }
def FnRangeUserUptoSaid : Prop := fnRangeUserUptoRow.holds Tryz.pinned (OpenSpec.upto fnRangeUserSpec)

/-- 'laws.FnRangeUserAt', WHERE WHAT IT READS IS OF BULK AT MOST 1048576: true; the input reads as it did. -/
def fnRangeUserAtUptoRow : OpenClaim := { program := "ytjcbeinpkafjiaagreat", sum := "a49d35504e0ca77655223425fb702372f768531e97de9c38513841b89d15f20d", func := "pub-tessella/laws.FnRangeUserAt", spec := "fnRangeUserAt", inPlace := ["internal/bytealg.Compare"], unfollowed := true, recurses := true, named := ["encoding/binary.BigEndian", "encoding/binary.LittleEndian"], apart := false, narrowed := true }
def FnRangeUserAtUptoSaid : Prop := fnRangeUserAtUptoRow.holds Tryz.pinned (OpenSpec.upto fnRangeUserAtSpec)

/-- 'laws.FnRangeUserCut', WHERE WHAT IT READS IS OF BULK AT MOST 1048576: true; the input reads as it did. -/
def fnRangeUserCutUptoRow : OpenClaim := { program := "ytjcbeinpkafjiaagreat", sum := "a49d35504e0ca77655223425fb702372f768531e97de9c38513841b89d15f20d", func := "pub-tessella/laws.FnRangeUserCut", spec := "fnRangeUserCut", inPlace := ["internal/bytealg.Compare"], unfollowed := true, recurses := true, named := ["encoding/binary.BigEndian", "encoding/binary.LittleEndian"], apart := false, narrowed := true }
def FnRangeUserCutUptoSaid : Prop := fnRangeUserCutUptoRow.holds Tryz.pinned (OpenSpec.upto fnRangeUserCutSpec)

/-- 'laws.FnRangeUserForth', WHERE WHAT IT READS IS OF BULK AT MOST 1048576: true; the input reads as it did. -/
def fnRangeUserForthUptoRow : OpenClaim := { program := "ytjcbeinpkafjiaagreat", sum := "a49d35504e0ca77655223425fb702372f768531e97de9c38513841b89d15f20d", func := "pub-tessella/laws.FnRangeUserForth", spec := "fnRangeUserForth", inPlace := ["internal/bytealg.Compare"], unfollowed := true, recurses := true, named := ["encoding/binary.BigEndian", "encoding/binary.LittleEndian"], apart := false, narrowed := true }
def FnRangeUserForthUptoSaid : Prop := fnRangeUserForthUptoRow.holds Tryz.pinned (OpenSpec.upto fnRangeUserForthSpec)

/-- 'laws.FnRangeUserWithin', WHERE WHAT IT READS IS OF BULK AT MOST 1048576: true; the input reads as it did. -/
def fnRangeUserWithinUptoRow : OpenClaim := { program := "ytjcbeinpkafjiaagreat", sum := "a49d35504e0ca77655223425fb702372f768531e97de9c38513841b89d15f20d", func := "pub-tessella/laws.FnRangeUserWithin", spec := "fnRangeUserWithin", inPlace := ["internal/bytealg.Compare"], unfollowed := true, recurses := true, named := ["encoding/binary.BigEndian", "encoding/binary.LittleEndian"], apart := false, narrowed := true }
def FnRangeUserWithinUptoSaid : Prop := fnRangeUserWithinUptoRow.holds Tryz.pinned (OpenSpec.upto fnRangeUserWithinSpec)

/-- 'laws.FnRangeInternal', WHERE WHAT IT READS IS OF BULK AT MOST 1048576: true; the input reads as it did. -/
def fnRangeInternalUptoRow : OpenClaim := { program := "ytjcbeinpkafjiaagreat", sum := "a49d35504e0ca77655223425fb702372f768531e97de9c38513841b89d15f20d", func := "pub-tessella/laws.FnRangeInternal", spec := "fnRangeInternal", inPlace := ["internal/bytealg.Compare"], unfollowed := true, recurses := true, named := ["encoding/binary.BigEndian", "encoding/binary.LittleEndian"], apart := false, narrowed := true }
def FnRangeInternalUptoSaid : Prop := fnRangeInternalUptoRow.holds Tryz.pinned (OpenSpec.upto fnRangeInternalSpec)

/-- 'laws.FnStripeKeysSettled', WHERE WHAT IT READS IS OF BULK AT MOST 1048576: true; the input reads as it did. -/
def fnStripeKeysSettledUptoRow : OpenClaim := { program := "ytjcbeinpkafjiaagreat", sum := "a49d35504e0ca77655223425fb702372f768531e97de9c38513841b89d15f20d", func := "pub-tessella/laws.FnStripeKeysSettled", spec := "fnStripeKeysSettled", inPlace := ["internal/bytealg.Compare"], unfollowed := true, recurses := true, named := ["encoding/binary.BigEndian", "encoding/binary.LittleEndian"], apart := false, narrowed := true }
def FnStripeKeysSettledUptoSaid : Prop := fnStripeKeysSettledUptoRow.holds Tryz.pinned (OpenSpec.upto fnStripeKeysSettledSpec)

/-- 'laws.FnStripeKeysUser', WHERE WHAT IT READS IS OF BULK AT MOST 1048576: true; the input reads as it did. -/
def fnStripeKeysUserUptoRow : OpenClaim := { program := "ytjcbeinpkafjiaagreat", sum := "a49d35504e0ca77655223425fb702372f768531e97de9c38513841b89d15f20d", func := "pub-tessella/laws.FnStripeKeysUser", spec := "fnStripeKeysUser", inPlace := ["internal/bytealg.Compare"], unfollowed := true, recurses := true, named := ["encoding/binary.BigEndian", "encoding/binary.LittleEndian"], apart := false, narrowed := true }
def FnStripeKeysUserUptoSaid : Prop := fnStripeKeysUserUptoRow.holds Tryz.pinned (OpenSpec.upto fnStripeKeysUserSpec)

/-- 'laws.FnRangeUserFlat', WHERE WHAT IT READS IS OF BULK AT MOST 1048576: true; the input reads as it did. -/
def fnRangeUserFlatUptoRow : OpenClaim := { program := "ytjcbeinpkafjiaagreat", sum := "a49d35504e0ca77655223425fb702372f768531e97de9c38513841b89d15f20d", func := "pub-tessella/laws.FnRangeUserFlat", spec := "fnRangeUserFlat", inPlace := ["internal/bytealg.Compare"], unfollowed := true, recurses := true, named := ["encoding/binary.BigEndian", "encoding/binary.LittleEndian"], apart := false, narrowed := true }
def FnRangeUserFlatUptoSaid : Prop := fnRangeUserFlatUptoRow.holds Tryz.pinned (OpenSpec.upto fnRangeUserFlatSpec)

/-- 'laws.FnRangeUserCompacted', WHERE WHAT IT READS IS OF BULK AT MOST 1048576: true; the input reads as it did. -/
def fnRangeUserCompactedUptoRow : OpenClaim := { program := "ytjcbeinpkafjiaagreat", sum := "a49d35504e0ca77655223425fb702372f768531e97de9c38513841b89d15f20d", func := "pub-tessella/laws.FnRangeUserCompacted", spec := "fnRangeUserCompacted", inPlace := ["internal/bytealg.Compare"], unfollowed := true, recurses := true, named := ["encoding/binary.BigEndian", "encoding/binary.LittleEndian"], apart := false, narrowed := true }
def FnRangeUserCompactedUptoSaid : Prop := fnRangeUserCompactedUptoRow.holds Tryz.pinned (OpenSpec.upto fnRangeUserCompactedSpec)

end Rows
end Go.Proofs.YtjcbeinpkafjiaaGreat
