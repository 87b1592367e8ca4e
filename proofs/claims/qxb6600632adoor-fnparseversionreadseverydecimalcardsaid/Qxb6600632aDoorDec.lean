import Derived.Test.Qxb6600632aDoorParse
import Derived.WalkSpells
import Derived.WalkLawsBesides
import Derived.Deep.OwnRows
namespace Go.Proofs.Qxb6600632aDoor
open Go.RowKit Go.Lib
set_option linter.unusedVariables false

def zeros20 : Array Value := #[.int .u8 0, .int .u8 0, .int .u8 0, .int .u8 0, .int .u8 0, .int .u8 0, .int .u8 0, .int .u8 0, .int .u8 0, .int .u8 0, .int .u8 0, .int .u8 0, .int .u8 0, .int .u8 0, .int .u8 0, .int .u8 0, .int .u8 0, .int .u8 0, .int .u8 0, .int .u8 0]

theorem row20 (w : World) : (w.alloc (.cells zeros20 42)).rowIs w.heap.size 42 20 (fun _ => .int .u8 0) :=
  World.rowIs_alloc w zeros20 42 _ (fun i hi => by
    have e : zeros20 = Array.replicate 20 (.int .u8 0) := rfl
    have hi' : i < 20 := hi
    rw [e, Array.getElem?_replicate, if_pos hi'])

theorem nDig_of (u j : Nat) (h1 : 1 ≤ j) (h2 : j ≤ 20) (hn : j = 20 ∨ u / 10 ^ (20 - j) ≠ 0) (hz : u / 10 ^ (20 - j) / 10 = 0) : nDigits u = 21 - j := by
  have hlt : u / 10 ^ (20 - j) < 10 := by omega
  have hp : 0 < 10 ^ (20 - j) := Nat.pow_pos (by omega)
  have h3 : u < 10 ^ (20 - j + 1) := by
    rw [Nat.pow_succ, Nat.mul_comm]
    exact (Nat.div_lt_iff_lt_mul hp).1 hlt
  rcases hn with rfl | hn
  · rw [nDigits_small (by simpa using h3)]
  · have h4 : 10 ^ (20 - j) ≤ u := by
      rcases Nat.lt_or_ge u (10 ^ (20 - j)) with h | h
      · exact absurd (Nat.div_eq_of_lt h) hn
      · exact h
    rw [nDigits_unique (20 - j) u h4 h3]
    omega

set_option maxHeartbeats 1600000 in
set_option maxRecDepth 100000 in
theorem decimal_of (u : Nat) (hu : u < 18446744073709551616) (w : World) :
    Calls Tryd.prog 11 #[.int .u64 u] w fun e w' => e = .returned (.string ⟨(decDigits u).toArray⟩) ∧ Below w.heap.size w w' := by
  go_enter Tryd.func11, Tryd.ntmps11
  go_wp2
  have hrow := row20 w
  have hbel : Below w.heap.size w (w.alloc (.cells zeros20 42)) := (Below.refl _ _).alloc (Nat.le_refl _) _
  unfold zeros20 at hrow hbel
  generalize w.alloc (.cells _ 42) = W1 at hrow hbel ⊢
  have HROW : Hid (W1.rowIs w.heap.size 42 20 (fun _ => .int .u8 0)) := hrow
  have HBEL : Hid (Below w.heap.size w W1) := hbel
  clear hrow hbel
  go_loopw [4, 0] (fun iv nv wl => ∃ (j m : Nat) (f : Nat → Value), iv = .int .i64 (j : Int) ∧ 1 ≤ j ∧ j ≤ 20 ∧ nv = .int .u64 (m : Int) ∧ m < 18446744073709551616 ∧ Hid (m = u / 10 ^ (20 - j)) ∧ Hid (j = 20 ∨ m ≠ 0) ∧ Hid (wl.rowIs w.heap.size 42 20 f) ∧ Hid (∀ t, j ≤ t → t < 20 → f t = .int .u8 ((48 + u / 10 ^ (19 - t) % 10 : Nat) : Int)) ∧ Hid (Below w.heap.size w wl)) (fun iv _ _ => (RowKit.intOf iv).toNat)
  case atStart => exact ⟨20, u, _, rfl, by omega, by omega, rfl, hu, by simp [Hid], Or.inl rfl, HROW.out, fun t h1 h2 => absurd h1 (by omega), HBEL.out⟩
  case round =>
    clear HROW HBEL
    obtain ⟨j, m, f, rfl, hj1, hj2, rfl, hm, em, hnz, hrow, hdig, hbel⟩ := hrel
    obtain ⟨i, rfl⟩ : ∃ i, j = i + 1 := ⟨j - 1, by omega⟩
    have f0 := hrow.out.frozen i
    have f1 : wr.cell? ⟨w.heap.size, i, none⟩ = some (f i) := hrow.out.cell (by omega)
    have em' := em.out
    have hnz' := hnz.out
    have hdig' := hdig.out
    have hrow2 := hrow.out.set i (Value.int .u8 (48 + (m : Int) % 10))
    have hi2 : (i : Int) < 20 := by omega
    have eS : 20 - (i + 1) = 19 - i := by omega
    rw [eS] at em'
    have hdig2 : ∀ t, i ≤ t → t < 20 → (fun j => if j = i then Value.int .u8 (48 + (m : Int) % 10) else f j) t = .int .u8 ((48 + u / 10 ^ (19 - t) % 10 : Nat) : Int) := fun t h1 h2 => by
      show (if t = i then _ else f t) = _
      by_cases e : t = i
      · rw [if_pos e, e, ← em']; simp
      · rw [if_neg e]; exact hdig' t (by omega) h2
    have HROW2 := Lib.hid hrow2
    have HDIG2 := Lib.hid hdig2
    have HB2 : Hid (Below w.heap.size w (wr.setCell ⟨w.heap.size, i, none⟩ (Value.int .u8 (48 + (m : Int) % 10)))) := hbel.out.setCell (Nat.le_refl _) _
    generalize hfi : f i = old at f1
    clear hfi hrow2 hdig2 hdig'
    by_cases hz : m / 10 = 0
    · have hz2 : ((m : Int) / 10 == 0) = true := by
        have : (m : Int) / 10 = ((m / 10 : Nat) : Int) := by omega
        rw [this, hz]; rfl
      have hnd : nDigits u = 20 - i := by
        have := nDig_of u (i + 1) (by omega) hj2 (by rw [eS, ← em']; exact hnz') (by rw [eS, ← em']; exact hz)
        omega
      have hal : Tryd.prog.arrayLen 42 = 20 := by kernel_rfl
      have hsl : ∀ W, (Instr.sliceAt 42 (.pointer (some ⟨w.heap.size, 0, none⟩)) (some (.int .i64 (i : Int))) none none).run Tryd.prog W = .ok (.slice (some ⟨w.heap.size, i, none⟩) (20 - i) (20 - i)) W := fun W => by
        rw [run_sliceAt_array_l W 42 ⟨w.heap.size, 0, none⟩ (by simp [Program.arrayLen, Program.elem, Tryd.underlying42]) .i64 (i : Int) (by omega) (by rw [hal]; omega)]
        go_simp
        all_goals (try simp [hal])
        all_goals omega
      have hcv : (convert 35 9 (.slice (some ⟨w.heap.size, i, none⟩) (20 - i) (20 - i))).run Tryd.prog (wr.setCell ⟨w.heap.size, i, none⟩ (Value.int .u8 (48 + (m : Int) % 10))) = .ok (.string ⟨(decDigits u).toArray⟩) (wr.setCell ⟨w.heap.size, i, none⟩ (Value.int .u8 (48 + (m : Int) % 10))) := by
        have h := run_convert_bytes_back (P := Tryd.prog) (wr.setCell ⟨w.heap.size, i, none⟩ (Value.int .u8 (48 + (m : Int) % 10))) 35 9 5 ⟨w.heap.size, i, none⟩ (20 - i) (decDigits u) Tryd.underlying35 Tryd.underlying5 Tryd.underlying9 (fun j hj => by
          have hl : j < 20 - i := by rw [decDigits_length, hnd] at hj; exact hj
          rw [Lib.add_plain, HROW2.out.cell (i := i + j) (by omega)]
          refine congrArg some ((HDIG2.out (i + j) (by omega) (by omega)).trans ?_)
          congr 1
          have hb : (48 + u / 10 ^ (19 - (i + j)) % 10) < 256 := by omega
          simp only [decDigits_eq u, List.getElem_map, List.getElem_range, hnd, dg]
          rw [UInt8.toNat_ofNat', show 20 - i - 1 - j = 19 - (i + j) by omega]
          omega)
        rw [decDigits_length, hnd] at h
        exact h
      clear hal em' hnz' hz hnd
      go_wp2
      go_ret
      exact ⟨rfl, HB2.out⟩
    · have hz2 : ((m : Int) / 10 == 0) = false := by
        rw [beq_eq_false_iff_ne]; omega
      have hi1 : 1 ≤ i := by
        rcases Nat.eq_zero_or_pos i with rfl | h
        · exfalso
          apply hz
          rw [em', Nat.div_div_eq_div_mul]
          exact Nat.div_eq_of_lt (by omega)
        · exact h
      have EM := Lib.hid em'
      have HZ := Lib.hid hz
      clear em' hnz' hz
      go_wp2
      have em' := EM.out
      have hz := HZ.out
      refine ⟨⟨i, m / 10, _, rfl, hi1, by omega, by simp, by omega, ?_, Or.inr hz, HROW2.out, HDIG2.out, HB2.out⟩, by simp [RowKit.intOf]⟩
      show m / 10 = u / 10 ^ (20 - i)
      rw [em', Nat.div_div_eq_div_mul, ← Nat.pow_succ, show (19 - i).succ = 20 - i by omega]
end Go.Proofs.Qxb6600632aDoor
