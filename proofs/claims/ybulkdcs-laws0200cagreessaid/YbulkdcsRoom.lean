import Derived.Test.YbulkdcsRoomTT
import Derived.Test.YbulkdcsRoomTF
import Derived.Test.YbulkdcsRoomFT
import Derived.Test.YbulkdcsRoomFF
namespace Go.Proofs.Ybulkdcs
open Go.Shelf Go.RowKit Go.Lib Go.Sort
set_option linter.unusedVariables false
set_option linter.unusedSimpArgs false

theorem room_any (p : Seg) (k : Int) (w : World) (hok : p.ok) :
    Calls Yba.prog 10 #[.agg p.arr, .int .u8 k] w fun e w' => e = .returned (.agg (plArr (roomL p k))) ∧ Gr w w' := by
  unfold roomL
  cases hN : kN k <;> cases hA : kA k
  · exact room_FF p k w hok hN hA
  · exact room_FT p k w hok hN hA
  · exact room_TF p k w hok hN hA
  · exact room_TT p k w hok hN hA
end Go.Proofs.Ybulkdcs
