import Derived.Test.Qxb6600632aForm
namespace Go.Proofs.Qxb6600632a
open Go.RowKit
set_option linter.unusedVariables false

/-- The version that the entries alone need. -/
def needN (b : Bool) : Int := if b then 2 else 1

theorem fin_m {a : Int} {ty : Int} {j t h : Bool} (e : a = formV ty j t h) : Ending.returned (.int .u64 a) = .returned (.int .u64 (formV ty j t h)) := by rw [e]

set_option maxHeartbeats 2000000 in
theorem model (ty : Int) (joining transfer : Bool) (zy : Nat → Int) (n : Nat) (v : Value) (w : World) (hv : SlIs (fun j => Value.int .u8 (zy j)) w v n) (hn : n ≤ 1048576) :
    Calls Try.prog 11 #[.int .u8 ty, .bool joining, .bool transfer, v] w fun e w' => e = .returned (.int .u64 (formV ty joining transfer (hasB zy n))) ∧ w' = w := by
  obtain ⟨oa, c, rfl, hc⟩ := hv.form
  have HC : Hid _ := hc
  have hn2 : (n : Int) ≤ 1048576 := by omega
  clear hc hv
  go_enter Try.func11, Try.ntmps11
  go_wp2
  go_loop [9, 10] (fun nv iv => ∃ k : Nat, iv = .int .i64 (k : Int) ∧ k ≤ n ∧ nv = .int .u64 (needN (hasB zy k))) (fun _ iv => n - (intOf iv).toNat)
  case atStart => exact ⟨0, rfl, by omega, rfl⟩
  case round =>
    obtain ⟨k, rfl, hk, rfl⟩ := hrel
    by_cases hlt : k < n
    · have hlt2 : (k : Int) < (n : Int) := by omega
      obtain ⟨b, off, rfl, hcell⟩ := HC.out (by omega)
      have c0 := hcell k hlt
      clear hcell HC
      cases hz : (zy k == 3) with
      | true =>
        have HZ : Hid (hasB zy (k + 1) = true) := hasB_of hz (k + 1) (by omega)
        cases hb : hasB zy k with
        | true =>
          have e2 : needN true = 2 := rfl
          go_wp2
          exact ⟨⟨k + 1, by go_num, by omega, by rw [HZ.out]; rfl⟩, by simp [intOf]; omega⟩
        | false =>
          have e1 : needN false = 1 := rfl
          go_wp2
          exact ⟨⟨k + 1, by go_num, by omega, by rw [HZ.out]; rfl⟩, by simp [intOf]; omega⟩
      | false =>
        have HZ : Hid (hasB zy (k + 1) = hasB zy k) := by show hasB zy (k + 1) = hasB zy k; rw [hasB, hz]; simp
        go_wp2
        exact ⟨⟨k + 1, by go_num, by omega, by rw [HZ.out]⟩, by simp [intOf]; omega⟩
    · have hlt2 : (n : Int) ≤ (k : Int) := by omega
      have ek : k = n := by omega
      subst ek
      clear HC
      cases hb : hasB zy k
      all_goals
        have e1 : needN false = 1 := rfl
        have e2 : needN true = 2 := rfl
        have HB : Hid (hasB zy k = _) := hb
        cases joining
        all_goals
          cases transfer
          all_goals
            cases t10 : (ty == 10)
            all_goals
              cases t11 : (ty == 11)
              all_goals
                cases t12 : (ty == 12)
                all_goals
                  go_wp2
                  go_ret
                  exact ⟨fin_m (by simp [formV, t10, t11, t12]), rfl⟩
end Go.Proofs.Qxb6600632a
