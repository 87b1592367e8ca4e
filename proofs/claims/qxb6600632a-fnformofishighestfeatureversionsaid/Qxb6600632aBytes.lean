import Derived.Test.Qxb6600632aClone
import Derived.Test.Qxb6600632aEntries
namespace Go.Proofs.Qxb6600632a
open Go.RowKit
set_option linter.unusedVariables false

/-- It returns some bool. -/
def SomeBool (e : Ending) : Prop := ∃ b, e = .returned (.bool b)

set_option maxRecDepth 100000 in
set_option maxHeartbeats 4000000 in
theorem zz_no (c0 c3 c4 c5 c6 c7 c8 c9 c10 c11 c12 c13 : Value) (fr to : ByteArray) (oi ot oy od : Option Addr) (ci ct cy cd ni nt n nd : Nat) (w : World)
    (m1 : fr.size ≤ maxLen) (m2 : to.size ≤ maxLen) (m3 : ni ≤ maxLen) (m4 : nt ≤ maxLen) (m5 : n ≤ maxLen) (m6 : nd ≤ maxLen) (hbig : 1048576 < fr.size + to.size + ni + nt + n + nd) :
    Calls Try.prog 5 #[.agg #[c0, .string fr, .string to, c3, c4, c5, c6, c7, c8, c9, c10, c11, c12, c13], .slice oi ni ci, .slice ot nt ct, .slice oy n cy, .slice od nd cd] w fun e w' => e = .returned (.bool false) ∧ Below w.heap.size w w' := by
  unfold maxLen at *
  have hb1 : (1048576 : Int) < (fr.size : Int) + (to.size : Int) + (ni : Int) + (nt : Int) + (n : Int) + (nd : Int) := by omega
  go_enter Try.func5, Try.ntmps5
  go_wp2
  all_goals
    go_ret
    exact ⟨rfl, (Below.refl _ _).alloc (Nat.le_refl _) _⟩

set_option maxRecDepth 100000 in
set_option maxHeartbeats 4000000 in
theorem zz_any (c0 c3 c4 c5 c6 c7 c8 c9 c10 c11 c12 c13 : Value) (fr to : ByteArray) (oi ot oy od : Option Addr) (ci ct cy cd ni nt n nd : Nat) (zd : Nat → ByteArray) (w : World)
    (hd : 0 < nd → ∃ b off, od = some ⟨b, off, none⟩ ∧ ∀ j, j < nd → w.cell? ⟨b, off + j, none⟩ = some (.string (zd j))) (hz : ∀ j, j < nd → (zd j).size ≤ maxLen)
    (hsm : fr.size + to.size + ni + nt + n + nd ≤ 1048576) :
    Calls Try.prog 5 #[.agg #[c0, .string fr, .string to, c3, c4, c5, c6, c7, c8, c9, c10, c11, c12, c13], .slice oi ni ci, .slice ot nt ct, .slice oy n cy, .slice od nd cd] w fun e w' => SomeBool e ∧ Below w.heap.size w w' := by
  have hb1 : (fr.size : Int) + (to.size : Int) + (ni : Int) + (nt : Int) + (n : Int) + (nd : Int) ≤ 1048576 := by omega
  have HD : Hid _ := hd
  have HZ : Hid _ := hz
  clear hd hz
  go_enter Try.func5, Try.ntmps5
  go_wp2
  go_loop [11, 12] (fun sv iv => ∃ (k : Nat) (s : Int), iv = .int .i64 (k : Int) ∧ k ≤ nd ∧ sv = .int .i64 s ∧ 0 ≤ s ∧ s ≤ 1048576) (fun _ iv => nd - (intOf iv).toNat)
  case atStart => exact ⟨0, _, rfl, by omega, rfl, by omega, by omega⟩
  case round =>
    obtain ⟨k, s, rfl, hk, rfl, hs0, hs1⟩ := hrel
    have hnd : (nd : Int) ≤ 1048576 := by omega
    by_cases hlt : k < nd
    · have hlt2 : (k : Int) < (nd : Int) := by omega
      obtain ⟨b, off, rfl, hcell⟩ := HD.out (by omega)
      have e0 := hcell k hlt
      have hb : b < w.heap.size := World.block_lt_of_cell? _ _ e0
      have hz := HZ.out k hlt
      unfold maxLen at hz
      clear hcell HD HZ
      by_cases g1 : (zd k).size ≤ 1048576
      · by_cases g2 : s + ((zd k).size : Int) ≤ 1048576
        · have g1' : ((zd k).size : Int) ≤ 1048576 := by omega
          go_wp2
          exact ⟨⟨k + 1, _, by go_num, by omega, rfl, by omega, by omega⟩, by simp [intOf]; omega⟩
        · have g1' : ((zd k).size : Int) ≤ 1048576 := by omega
          have g2' : 1048576 < s + ((zd k).size : Int) := by omega
          go_wp2
          go_ret
          exact ⟨⟨_, rfl⟩, (Below.refl _ _).alloc (Nat.le_refl _) _⟩
      · have g1' : 1048576 < ((zd k).size : Int) := by omega
        go_wp2
        go_ret
        exact ⟨⟨_, rfl⟩, (Below.refl _ _).alloc (Nat.le_refl _) _⟩
    · have hlt2 : (nd : Int) ≤ (k : Int) := by omega
      clear HD HZ
      go_wp2
      go_ret
      exact ⟨⟨_, rfl⟩, (Below.refl _ _).alloc (Nat.le_refl _) _⟩
end Go.Proofs.Qxb6600632a
