/- Parts of the proof: Tb. -/
import Derived.Test.YtjcbeinpkafjiaaGreatU27
set_option linter.all false
set_option maxRecDepth 10000
namespace Go.E
open Go Go.Sort Go.Proofs Go.Proofs.Tryz
section
variable {H:Type} {enc:TypeId × Value→H} {w:World} {base:Nat} {spare:Nat→Bool} {held:Bool} {fuel:Nat} {cs:List Value} {x:DataW H × List MemPlace}
theorem bound_of_trod (h:DataW.trod enc prog w base spare held fuel 31 cs=some x):∃ (key:Bytes) (has:Bool),cs=[str key,.bool has]:=by
 obtain ⟨xs,n,_,_,hl,hlen,hf⟩:=DataW.trod_struct Tryz.underlying31 h
 rw [show prog.cellsOf 31=2 by kernel_rfl] at hl
 match cs,hl with
 | [c0,c1],_ =>
  match xs,hlen with
  | [y0,y1],_ =>
   have f0:DataW.trod enc prog w base spare held n 9 (([c0,c1].drop 0).take (prog.cellsOf 9))=some y0:=hf 0 _ rfl
   have f1:DataW.trod enc prog w base spare held n 4 (([c0,c1].drop 1).take (prog.cellsOf 4))=some y1:=hf 1 _ rfl
   rw [show prog.cellsOf 9=1 by kernel_rfl] at f0
   rw [show prog.cellsOf 4=1 by kernel_rfl] at f1
   obtain ⟨a,ha⟩:=str_of_trod f0
   obtain ⟨b,hb,_⟩:=DataW.trod_bool Tryz.underlying4 f1
   simp at ha hb
   subst ha hb
   exact ⟨a,b,rfl⟩
end
end Go.E
