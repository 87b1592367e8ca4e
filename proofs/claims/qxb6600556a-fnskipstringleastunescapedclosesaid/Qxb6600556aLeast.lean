import Derived.Test.Qxb6600556aSkip1
import Derived.Test.Qxb6600556aClosed1
namespace Go.Proofs.Qxb6600556a
open Go.RowKit
set_option linter.unusedVariables false

theorem least_ne {c d : UInt8} (h : c ≠ d) : ((c.toNat : Int) != (d.toNat : Int)) = true := by
  rw [bne_iff_ne]; exact fun e => h (UInt8.toNat_inj.1 (by omega))

set_option maxHeartbeats 400000 in
theorem least_big (t : ByteArray) (i : Int) (w0 : t.size ≤ maxLen) (w : World) (hb : 1048576 < t.size) :
    Calls Try.prog 3 #[.string t, .int .i64 i] w fun e w' => e = .returned (.bool true) ∧ Below w.heap.size w w' := by
  unfold maxLen at w0
  go_enter Try.func3, Try.ntmps3
  go_wp2
  go_ret
  exact ⟨rfl, Below.refl _ _⟩

set_option maxHeartbeats 400000 in
theorem least_out (t : ByteArray) (i : Int) (w : World) (hb : t.size ≤ 1048576) (ho : i < 0 ∨ (t.size : Int) ≤ i) :
    Calls Try.prog 3 #[.string t, .int .i64 i] w fun e w' => e = .returned (.bool true) ∧ Below w.heap.size w w' := by
  by_cases h1 : i < 0
  · clear ho
    go_enter Try.func3, Try.ntmps3
    go_wp2
    go_ret
    exact ⟨rfl, Below.refl _ _⟩
  · have h2 : (t.size : Int) ≤ i := by omega
    clear ho
    go_enter Try.func3, Try.ntmps3
    go_wp2
    go_ret
    exact ⟨rfl, Below.refl _ _⟩

set_option maxHeartbeats 400000 in
theorem least_no (t : ByteArray) (n : Nat) (w : World) (hb : t.size ≤ 1048576) (hn : n < t.size) (h1 : t[n] ≠ 34) (h2 : t[n] ≠ 39) :
    Calls Try.prog 3 #[.string t, .int .i64 (n : Int)] w fun e w' => e = .returned (.bool true) ∧ Below w.heap.size w w' := by
  have hn1 : (n : Int) < (t.size : Int) := by omega
  have e1 : ((t[n].toNat : Int) != 34) = true := least_ne (d := 34) h1
  have e2 : ((t[n].toNat : Int) != 39) = true := least_ne (d := 39) h2
  clear h1 h2
  go_enter Try.func3, Try.ntmps3
  go_wp2
  go_ret
  exact ⟨rfl, Below.refl _ _⟩

set_option maxHeartbeats 1000000 in
theorem least_yes (t : ByteArray) (q : UInt8) (hq : q = 34 ∨ q = 39) (n : Nat) (w : World) (hb : t.size ≤ 1048576) (hn : n < t.size) (h1 : t[n] = q) :
    Calls Try.prog 3 #[.string t, .int .i64 (n : Int)] w fun e w' => e = .returned (.bool true) ∧ Below w.heap.size w w' := by
  have hn1 : (n : Int) < (t.size : Int) := by omega
  have HQI : Hid (t.data.toList[n]? = some q) := by show t.data.toList[n]? = some q; rw [get_list t n hn, h1]
  rcases hq with rfl | rfl
  all_goals
    go_enter Try.func3, Try.ntmps3
    go_wp2_with (first | (go_at_call 8; go_in))
    refine (zz_skip t _ (by decide) n _ hn (by omega) HQI.out).mono ?_
    rintro e w1 ⟨k, rfl, hsk, hb1⟩
    have HSK : Hid (Pl.Skip t.data.toList _ n k) := hsk
    have HB1 : Hid (Below w.heap.size w w1) := hb1
    clear hsk hb1
    go_wp2_with fail
    refine (end_any t _ (by decide) n _ hn (by omega) h1).mono ?_
    rintro e w2 ⟨k', rfl, hsk', rfl⟩
    obtain rfl := hsk'.uniq HSK.out
    clear hsk' HSK
    go_wp2
    go_ret
    exact ⟨rfl, HB1.out⟩
end Go.Proofs.Qxb6600556a
