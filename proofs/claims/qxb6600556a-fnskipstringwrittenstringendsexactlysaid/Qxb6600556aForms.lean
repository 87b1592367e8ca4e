import Derived.Test.Qxb6600556aWrite
import Derived.Test.Qxb6600556aSkip1
namespace Go.Proofs.Qxb6600556a
open Go.RowKit
set_option linter.unusedVariables false

set_option maxRecDepth 100000 in
set_option maxHeartbeats 400000 in
theorem wr_big (P C R : ByteArray) (form : Int) (w0 : P.size ≤ maxLen) (w1 : C.size ≤ maxLen) (w3 : R.size ≤ maxLen) (w : World) (hb : 1048576 < P.size + C.size + R.size) :
    Calls Try.prog 4 #[.string P, .string C, .int .i64 form, .string R] w fun e w' => e = .returned (.bool true) ∧ Below w.heap.size w w' := by
  unfold maxLen at w0 w1 w3
  have hb1 : (1048576 : Int) < (P.size : Int) + (C.size : Int) + (R.size : Int) := by omega
  go_enter Try.func4, Try.ntmps4
  go_wp2
  all_goals
    go_ret
    exact ⟨rfl, Below.refl _ _⟩


theorem OwnB.of_make {g cap : Nat} {w : World} (h : w.ownsRow g 5 1 (.slice (some ⟨g, 0, none⟩) 0 cap) 0 []) : OwnB g cap [] w := h

theorem take_snocB (s : ByteArray) (k : Nat) (h : k < s.size) : s.data.toList.take (k + 1) = s.data.toList.take k ++ [s[k]] := by
  rw [List.take_succ_eq_append_getElem (by simpa using h)]; rfl

end Go.Proofs.Qxb6600556a
