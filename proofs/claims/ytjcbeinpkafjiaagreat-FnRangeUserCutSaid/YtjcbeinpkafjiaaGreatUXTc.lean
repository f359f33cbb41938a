/- Parts of the proof: Tc. -/
import Derived.Test.YtjcbeinpkafjiaaGreatU27
import Derived.Test.YtjcbeinpkafjiaaGreatUXXz
set_option linter.all false
set_option maxRecDepth 10000
namespace Go.E
open Go Go.Sort Go.Proofs
section
variable {H:Type} {enc:TypeId × Value→H} {w:World} {base:Nat} {spare:Nat→Bool} {held:Bool} {fuel:Nat} {cs:List Value} {x:DataW H × List MemPlace}
theorem texts_of_trod (h:DataW.trod enc Tryz.prog w base spare held fuel 66 cs=some x):∃ v l,cs=[v]∧Sl TxE 1 w v l:=sl_of_trod (sz:=1) Tryz.underlying66 (by kernel_rfl) (by decide) (fun n cs x h=>by
 obtain ⟨l,hl⟩:=str_of_trod h
 exact ⟨l,hl⟩) h
end
end Go.E
