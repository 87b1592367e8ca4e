import Derived.Test.Qxb6600632aDoorShelf
import Derived.Test.Qxb6600632aDoorRows
import Derived.Lib.Walk
import Derived.Lib.ItoaMem
import Derived.Lib.AppendIntMem
import Derived.WalkKit
import Derived.BigCall
import Derived.BigGuard
import Derived.ProofKit
namespace Go.Proofs.Qxb6600632aDoor
open Go.RowKit Go.Sort Go.Lib
set_option linter.unusedVariables false

/-- The table's name, as the row lists it. -/
def tabName : String := (Rows.fnParseVersionExactRow.named.drop 2).head!

/-- The table lies in the world. -/
abbrev Tab (w : World) : Prop := Lib.TabIs Tryd.prog w tabName .u64 Lib.pow10Tab

theorem holds_zero0 (w : World) (T : TypeId) (nd : Nat) (hs : nd ≤ 24) : Holds (fun (b : UInt8) => Value.int .u8 (b.toNat : Int)) (w.alloc (.cells Lib.zeros24 T)) w.heap.size 0 (Array.replicate nd (0 : UInt8)) := fun j hj => by
  have hj' : j < nd := by simpa using hj
  refine ⟨?_, World.frozen?_alloc_new _ _ _ _⟩
  rw [World.cell?_alloc_new, Lib.zeros24_at _ (by omega), getElem!_pos _ j hj]
  simp

theorem fin0 (w : World) (o : Obj) (dk : Array UInt8) (k : Nat) : ∃ os, (putRow (fun (b : UInt8) => Value.int .u8 (b.toNat : Int)) (w.alloc o) w.heap.size 0 dk).drewN k = grow (w.drewN k) os := by
  rw [alloc_eq_grow]
  obtain ⟨os', _, e⟩ := putRow_grow_new (fun (b : UInt8) => Value.int .u8 (b.toNat : Int)) w #[o] w.heap.size 0 dk (Nat.le_refl _)
  exact ⟨os', by rw [e]; rfl⟩

set_option maxHeartbeats 6400000 in
set_option maxRecDepth 100000 in
/-- internal FormatUint at base 10. -/
theorem format_in (u : Nat) (hu64 : u < 18446744073709551616) (w : World) (htab : Tab w) :
    Calls Tryd.prog 30 #[.int .u64 u, .int .i64 10] w fun e w' => e = .returned (.string ⟨(Lib.decDigits u).toArray⟩) ∧ Below w.heap.size w w' := by
  by_cases hs : u < 100
  · have hs' : (u : Int) < 100 := by omega
    have hwr : IntKind.i64.wrap (u : Int) = (u : Int) := by rw [IntKind.wrap_i64]; omega
    go_enter Tryd.func30, Tryd.ntmps30
    go_wp2_with (go_at_call 43; refine (Tryd.internal_strconv_small u hs _).mono ?_; rintro e w' ⟨rfl, rfl⟩)
    go_ret
    exact ⟨rfl, Below.refl _ _⟩
  · have hs' : (100 : Int) ≤ u := by omega
    have hu1 : 1 ≤ u := by omega
    have hnd20 : Lib.nDigits u ≤ 20 := by have := Lib.numDigits_eq u hu1 hu64; split at this <;> omega
    have hal : Tryd.prog.arrayLen 66 = 24 := by kernel_rfl
    have hel : Tryd.prog.elem 66 = 5 := by kernel_rfl
    have hsl2 : ∀ W, (Instr.sliceAt 66 (.pointer (some ⟨w.heap.size, 0, none⟩)) none (some (.int .i64 (Lib.nDigits u : Int))) none).run Tryd.prog W = .ok (.slice (some ⟨w.heap.size, 0, none⟩) (Lib.nDigits u) 24) W := fun W => by
      rw [run_sliceAt_array_h W 66 ⟨w.heap.size, 0, none⟩ (by simp [Program.arrayLen, Program.elem, Tryd.underlying66]) .i64 (Lib.nDigits u : Int) (by omega) (by rw [hal]; omega)]
      go_simp
    have hH0 := holds_zero0 w 66 (Lib.nDigits u) (by omega)
    have hfmt := Tryd.internal_strconv_formatBase10 w.heap.size 0 24 u (Array.replicate (Lib.nDigits u) 0) (w.alloc (.cells Lib.zeros24 66)) hH0 (by rw [Array.size_replicate]; exact Lib.lt_pow_nDigits u) hu64 (by rw [Array.size_replicate]; omega)
    rw [Array.size_replicate] at hfmt
    have HH0 := Lib.hid hH0
    clear hH0 hal hel
    go_enter Tryd.func30, Tryd.ntmps30
    go_wp2_with (first
      | (go_at_call 44; refine (Any.internal_strconv_numDigits Tryd.laysM284 u hu1 hu64 _ (Lib.tabIs_alloc htab _)).mono ?_; rintro e w' ⟨rfl, rfl⟩))
    go_at_call 45
    refine hfmt.mono ?_
    rintro e w' ⟨rfl, k, v', dk, rfl, hF⟩
    have hcv : (convert 35 9 (.slice (some ⟨w.heap.size, 0, none⟩) (Lib.nDigits u) 24)).run Tryd.prog ((putRow (fun (b : UInt8) => Value.int .u8 (b.toNat : Int)) (w.alloc (.cells Lib.zeros24 66)) w.heap.size 0 dk).drewN k) = .ok (.string ⟨(Lib.decDigits u).toArray⟩) ((putRow (fun (b : UInt8) => Value.int .u8 (b.toNat : Int)) (w.alloc (.cells Lib.zeros24 66)) w.heap.size 0 dk).drewN k) := by
      have h := run_convert_bytes_back (P := Tryd.prog) ((putRow (fun (b : UInt8) => Value.int .u8 (b.toNat : Int)) (w.alloc (.cells Lib.zeros24 66)) w.heap.size 0 dk).drewN k) 35 9 5 ⟨w.heap.size, 0, none⟩ 24 (Lib.decDigits u) Tryd.underlying35 Tryd.underlying5 Tryd.underlying9 (fun j hj => by
        rw [Lib.row_is_numeral hF j hj, Lib.add_plain, World.cell?_drewN]
        exact cell?_putRow (fun (b : UInt8) => Value.int .u8 (b.toNat : Int)) _ w.heap.size 0 _ dk HH0.out (by rw [hF.size, Array.size_replicate]) j (by rw [hF.size]; rw [Lib.decDigits_length] at hj; exact hj))
      rw [Lib.decDigits_length] at h
      exact h
    go_wp2
    go_ret
    obtain ⟨os, eo⟩ := fin0 w (.cells Lib.zeros24 66) dk k
    refine ⟨rfl, ?_⟩
    show Below _ _ ((putRow (fun (b : UInt8) => Value.int .u8 (b.toNat : Int)) (w.alloc (.cells Lib.zeros24 66)) w.heap.size 0 dk).drewN k)
    rw [eo]
    exact below_grow _ w (Nat.le_refl _) k os

set_option maxHeartbeats 1600000 in
set_option maxRecDepth 100000 in
/-- strconv.FormatUint at base 10. -/
theorem format_out (u : Nat) (hu64 : u < 18446744073709551616) (w : World) (htab : Tab w) :
    Calls Tryd.prog 23 #[.int .u64 u, .int .i64 10] w fun e w' => e = .returned (.string ⟨(Lib.decDigits u).toArray⟩) ∧ Below w.heap.size w w' := by
  go_enter Tryd.func23, Tryd.ntmps23
  go_wp2_with (go_at_call 30; refine (format_in u hu64 _ htab).mono ?_; rintro e w' ⟨rfl, hb⟩)
  go_ret
  exact ⟨rfl, hb⟩
end Go.Proofs.Qxb6600632aDoor
