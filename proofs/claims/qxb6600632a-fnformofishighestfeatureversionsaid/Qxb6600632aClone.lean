import Derived.Test.Qxb6600632aProg
import Derived.WalkKit
import Derived.ProofKit
import Derived.WalkSpells
import Derived.WalkLawsBesides
import Derived.Deep.OwnRows
namespace Go.Proofs.Qxb6600632a
open Go.RowKit
set_option linter.unusedVariables false

/-- The slice v of n elements, each of one cell, reads 'vals'. -/
def SlIs (vals : Nat → Value) (w : World) (v : Value) (n : Nat) : Prop :=
  (v = .slice none 0 0 ∧ n = 0) ∨ (∃ a c, v = .slice (some a) n c ∧ (0 < n → ∃ b off, a = ⟨b, off, none⟩ ∧ ∀ j, j < n → w.cell? ⟨b, off + j, none⟩ = some (vals j)))

theorem SlIs.below {vals : Nat → Value} {w w' : World} {v : Value} {n : Nat} (h : SlIs vals w v n) (hb : Below w.heap.size w w') : SlIs vals w' v n := by
  rcases h with h | ⟨a, c, rfl, h⟩
  · exact Or.inl h
  · refine Or.inr ⟨a, c, rfl, fun hn => ?_⟩
    obtain ⟨b, off, ea, hc⟩ := h hn
    exact ⟨b, off, ea, fun j hj => by have := hc j hj; rw [hb.cell (World.block_lt_of_cell? _ _ this)]; exact this⟩

theorem SlIs.of_row {vals : Nat → Value} {w : World} {g : Nat} {t : TypeId} {n c : Nat} (h : w.rowIs g t n vals) : SlIs vals w (.slice (some ⟨g, 0, none⟩) n c) n :=
  Or.inr ⟨_, c, rfl, fun _ => ⟨g, 0, rfl, fun j hj => by rw [Nat.zero_add]; exact h.cell hj⟩⟩

/-- What the copying loop has laid after k turns. -/
def part (vals : Nat → Value) (z : Value) (k : Nat) : Nat → Value := fun j => if j < k then vals j else z

theorem part_next {w : World} {g : Nat} {t : TypeId} {n k : Nat} {vals : Nat → Value} {z : Value} (h : w.rowIs g t n (part vals z k)) : (w.setCell ⟨g, k, none⟩ (vals k)).rowIs g t n (part vals z (k + 1)) :=
  (h.set k (vals k)).congr fun i _ => by
    unfold part
    by_cases e : i = k
    · rw [if_pos e, if_pos (by omega), e]
    · rw [if_neg e]
      by_cases e2 : i < k
      · rw [if_pos e2, if_pos (by omega)]
      · rw [if_neg e2, if_neg (by omega)]

theorem part_all {w : World} {g : Nat} {t : TypeId} {n k : Nat} {vals : Nat → Value} {z : Value} (h : w.rowIs g t n (part vals z k)) (hk : n ≤ k) : w.rowIs g t n vals :=
  h.congr fun i hi => by unfold part; rw [if_pos (by omega)]

theorem part_zero {w : World} {g : Nat} {t : TypeId} {n : Nat} {vals : Nat → Value} {z : Value} (h : w.rowIs g t n (fun _ => z)) : w.rowIs g t n (part vals z 0) :=
  h.congr fun i _ => by unfold part; rw [if_neg (by omega)]

theorem info22 : (Try.prog.info? 22).map (fun i => (i.zero, i.size, i.bytes)) = some (some (.int .u64 0), 1, 8) := by kernel_rfl

set_option maxHeartbeats 800000 in
theorem clone6 (zs : Nat → Int) (v : Value) (n : Nat) (w : World) (hv : SlIs (fun j => Value.int .u64 (zs j)) w v n) (hn : n ≤ 1048576) :
    Calls Try.prog 6 #[v] w fun e w' => ∃ v', e = .returned v' ∧ SlIs (fun j => Value.int .u64 (zs j)) w' v' n ∧ Below w.heap.size w w' := by
  have q : ∀ (w : World) (a : Option Addr) (n c : Nat), (binOp .eql 25 (.slice a n c) (.slice none 0 0)).run Try.prog w = .ok (.bool a.isNone) w := fun w a n c => Lib.run_eql_slice_nil w _ _ _ _ _ _ _ Try.underlying25
  rcases hv with ⟨rfl, rfl⟩ | ⟨a, c, rfl, hc⟩
  · go_enter Try.func6, Try.ntmps6
    go_wp2
    go_ret
    exact ⟨_, rfl, Or.inl ⟨rfl, rfl⟩, Below.refl _ _⟩
  · have hmk := fun W => run_make_row' (P := Try.prog) 25 22 (.int .u64 0) 8 Try.underlying25 info22 rfl .i64 .i64 n (by omega) (by omega) W
    have hn2 : (n : Int) ≤ 1048576 := by omega
    go_enter Try.func6, Try.ntmps6
    go_wp2
    have hrow : (w.alloc (.cells (madeCells #[.int .u64 0] n) 22)).rowIs w.heap.size 22 n (part (fun j => Value.int .u64 (zs j)) (.int .u64 0) 0) := part_zero (World.rowIs_made w (.int .u64 0) n 22)
    have hbel : Below w.heap.size w (w.alloc (.cells (madeCells #[.int .u64 0] n) 22)) := (Below.refl _ _).alloc (Nat.le_refl _) _
    generalize w.alloc (.cells (madeCells #[.int .u64 0] n) 22) = W1 at hrow hbel ⊢
    have HROW : Hid (W1.rowIs w.heap.size 22 n (part (fun j => Value.int .u64 (zs j)) (.int .u64 0) 0)) := hrow
    have HBEL : Hid (Below w.heap.size w W1) := hbel
    have HC : Hid (0 < n → ∃ b off, a = ⟨b, off, none⟩ ∧ ∀ j, j < n → w.cell? ⟨b, off + j, none⟩ = some (Value.int .u64 (zs j))) := hc
    clear hrow hbel hc hmk q
    go_loopw [4] (fun iv wl => ∃ k : Nat, iv = .int .i64 (k : Int) ∧ k ≤ n ∧ Hid (wl.rowIs w.heap.size 22 n (part (fun j => Value.int .u64 (zs j)) (.int .u64 0) k)) ∧ Hid (Below w.heap.size w wl)) (fun iv _ => n - (intOf iv).toNat)
    case atStart => exact ⟨0, rfl, by omega, HROW.out, HBEL.out⟩
    case round =>
      clear HROW HBEL
      obtain ⟨k, rfl, hk, hrow, hbel⟩ := hrel
      by_cases hlt : k < n
      · have hlt2 : (k : Int) < (n : Int) := by omega
        obtain ⟨b, off, rfl, hc⟩ := HC.out (by omega)
        have c0 := hc k hlt
        have c1 : wr.cell? ⟨b, off + k, none⟩ = some (Value.int .u64 (zs k)) := by rw [hbel.out.cell (World.block_lt_of_cell? _ _ c0)]; exact c0
        have f0 := hrow.out.frozen k
        have f1 : wr.cell? ⟨w.heap.size, k, none⟩ = some (part (fun j => Value.int .u64 (zs j)) (.int .u64 0) k k) := hrow.out.cell hlt
        have HN : Hid ((wr.setCell ⟨w.heap.size, k, none⟩ (Value.int .u64 (zs k))).rowIs w.heap.size 22 n (part (fun j => Value.int .u64 (zs j)) (.int .u64 0) (k + 1))) := part_next hrow.out
        clear hc c0
        generalize part (fun j => Value.int .u64 (zs j)) (.int .u64 0) k k = old at f1
        go_wp2
        exact ⟨⟨k + 1, by go_num, by omega, HN.out, hbel.out.setCell (Nat.le_refl _) _⟩, by simp [intOf]; omega⟩
      · have hlt2 : (n : Int) ≤ (k : Int) := by omega
        go_wp2
        go_ret
        exact ⟨_, rfl, SlIs.of_row (part_all hrow.out (by omega)), hbel.out⟩

theorem info5 : (Try.prog.info? 5).map (fun i => (i.zero, i.size, i.bytes)) = some (some (.int .u8 0), 1, 1) := by kernel_rfl

set_option maxHeartbeats 800000 in
theorem clone7 (zs : Nat → Int) (v : Value) (n : Nat) (w : World) (hv : SlIs (fun j => Value.int .u8 (zs j)) w v n) (hn : n ≤ 1048576) :
    Calls Try.prog 7 #[v] w fun e w' => ∃ v', e = .returned v' ∧ SlIs (fun j => Value.int .u8 (zs j)) w' v' n ∧ Below w.heap.size w w' := by
  have q : ∀ (w : World) (a : Option Addr) (n c : Nat), (binOp .eql 26 (.slice a n c) (.slice none 0 0)).run Try.prog w = .ok (.bool a.isNone) w := fun w a n c => Lib.run_eql_slice_nil w _ _ _ _ _ _ _ Try.underlying26
  rcases hv with ⟨rfl, rfl⟩ | ⟨a, c, rfl, hc⟩
  · go_enter Try.func7, Try.ntmps7
    go_wp2
    go_ret
    exact ⟨_, rfl, Or.inl ⟨rfl, rfl⟩, Below.refl _ _⟩
  · have hmk := fun W => run_make_row' (P := Try.prog) 26 5 (.int .u8 0) 1 Try.underlying26 info5 rfl .i64 .i64 n (by omega) (by omega) W
    have hn2 : (n : Int) ≤ 1048576 := by omega
    go_enter Try.func7, Try.ntmps7
    go_wp2
    have hrow : (w.alloc (.cells (madeCells #[.int .u8 0] n) 5)).rowIs w.heap.size 5 n (part (fun j => Value.int .u8 (zs j)) (.int .u8 0) 0) := part_zero (World.rowIs_made w (.int .u8 0) n 5)
    have hbel : Below w.heap.size w (w.alloc (.cells (madeCells #[.int .u8 0] n) 5)) := (Below.refl _ _).alloc (Nat.le_refl _) _
    generalize w.alloc (.cells (madeCells #[.int .u8 0] n) 5) = W1 at hrow hbel ⊢
    have HROW : Hid (W1.rowIs w.heap.size 5 n (part (fun j => Value.int .u8 (zs j)) (.int .u8 0) 0)) := hrow
    have HBEL : Hid (Below w.heap.size w W1) := hbel
    have HC : Hid (0 < n → ∃ b off, a = ⟨b, off, none⟩ ∧ ∀ j, j < n → w.cell? ⟨b, off + j, none⟩ = some (Value.int .u8 (zs j))) := hc
    clear hrow hbel hc hmk q
    go_loopw [4] (fun iv wl => ∃ k : Nat, iv = .int .i64 (k : Int) ∧ k ≤ n ∧ Hid (wl.rowIs w.heap.size 5 n (part (fun j => Value.int .u8 (zs j)) (.int .u8 0) k)) ∧ Hid (Below w.heap.size w wl)) (fun iv _ => n - (intOf iv).toNat)
    case atStart => exact ⟨0, rfl, by omega, HROW.out, HBEL.out⟩
    case round =>
      clear HROW HBEL
      obtain ⟨k, rfl, hk, hrow, hbel⟩ := hrel
      by_cases hlt : k < n
      · have hlt2 : (k : Int) < (n : Int) := by omega
        obtain ⟨b, off, rfl, hc⟩ := HC.out (by omega)
        have c0 := hc k hlt
        have c1 : wr.cell? ⟨b, off + k, none⟩ = some (Value.int .u8 (zs k)) := by rw [hbel.out.cell (World.block_lt_of_cell? _ _ c0)]; exact c0
        have f0 := hrow.out.frozen k
        have f1 : wr.cell? ⟨w.heap.size, k, none⟩ = some (part (fun j => Value.int .u8 (zs j)) (.int .u8 0) k k) := hrow.out.cell hlt
        have HN : Hid ((wr.setCell ⟨w.heap.size, k, none⟩ (Value.int .u8 (zs k))).rowIs w.heap.size 5 n (part (fun j => Value.int .u8 (zs j)) (.int .u8 0) (k + 1))) := part_next hrow.out
        clear hc c0
        generalize part (fun j => Value.int .u8 (zs j)) (.int .u8 0) k k = old at f1
        go_wp2
        exact ⟨⟨k + 1, by go_num, by omega, HN.out, hbel.out.setCell (Nat.le_refl _) _⟩, by simp [intOf]; omega⟩
      · have hlt2 : (n : Int) ≤ (k : Int) := by omega
        go_wp2
        go_ret
        exact ⟨_, rfl, SlIs.of_row (part_all hrow.out (by omega)), hbel.out⟩

theorem info9 : (Try.prog.info? 9).map (fun i => (i.zero, i.size, i.bytes)) = some (some (.string ⟨#[]⟩), 1, 16) := by kernel_rfl

set_option maxHeartbeats 800000 in
theorem clone8 (zs : Nat → ByteArray) (v : Value) (n : Nat) (w : World) (hv : SlIs (fun j => Value.string (zs j)) w v n) (hn : n ≤ 1048576) :
    Calls Try.prog 8 #[v] w fun e w' => ∃ v', e = .returned v' ∧ SlIs (fun j => Value.string (zs j)) w' v' n ∧ Below w.heap.size w w' := by
  have q : ∀ (w : World) (a : Option Addr) (n c : Nat), (binOp .eql 27 (.slice a n c) (.slice none 0 0)).run Try.prog w = .ok (.bool a.isNone) w := fun w a n c => Lib.run_eql_slice_nil w _ _ _ _ _ _ _ Try.underlying27
  rcases hv with ⟨rfl, rfl⟩ | ⟨a, c, rfl, hc⟩
  · go_enter Try.func8, Try.ntmps8
    go_wp2
    go_ret
    exact ⟨_, rfl, Or.inl ⟨rfl, rfl⟩, Below.refl _ _⟩
  · have hmk := fun W => run_make_row' (P := Try.prog) 27 9 (.string ⟨#[]⟩) 16 Try.underlying27 info9 rfl .i64 .i64 n (by omega) (by omega) W
    have hn2 : (n : Int) ≤ 1048576 := by omega
    go_enter Try.func8, Try.ntmps8
    go_wp2
    have hrow : (w.alloc (.cells (madeCells #[.string ⟨#[]⟩] n) 9)).rowIs w.heap.size 9 n (part (fun j => Value.string (zs j)) (.string ⟨#[]⟩) 0) := part_zero (World.rowIs_made w (.string ⟨#[]⟩) n 9)
    have hbel : Below w.heap.size w (w.alloc (.cells (madeCells #[.string ⟨#[]⟩] n) 9)) := (Below.refl _ _).alloc (Nat.le_refl _) _
    generalize w.alloc (.cells (madeCells #[.string ⟨#[]⟩] n) 9) = W1 at hrow hbel ⊢
    have HROW : Hid (W1.rowIs w.heap.size 9 n (part (fun j => Value.string (zs j)) (.string ⟨#[]⟩) 0)) := hrow
    have HBEL : Hid (Below w.heap.size w W1) := hbel
    have HC : Hid (0 < n → ∃ b off, a = ⟨b, off, none⟩ ∧ ∀ j, j < n → w.cell? ⟨b, off + j, none⟩ = some (Value.string (zs j))) := hc
    clear hrow hbel hc hmk q
    go_loopw [4] (fun iv wl => ∃ k : Nat, iv = .int .i64 (k : Int) ∧ k ≤ n ∧ Hid (wl.rowIs w.heap.size 9 n (part (fun j => Value.string (zs j)) (.string ⟨#[]⟩) k)) ∧ Hid (Below w.heap.size w wl)) (fun iv _ => n - (intOf iv).toNat)
    case atStart => exact ⟨0, rfl, by omega, HROW.out, HBEL.out⟩
    case round =>
      clear HROW HBEL
      obtain ⟨k, rfl, hk, hrow, hbel⟩ := hrel
      by_cases hlt : k < n
      · have hlt2 : (k : Int) < (n : Int) := by omega
        obtain ⟨b, off, rfl, hc⟩ := HC.out (by omega)
        have c0 := hc k hlt
        have c1 : wr.cell? ⟨b, off + k, none⟩ = some (Value.string (zs k)) := by rw [hbel.out.cell (World.block_lt_of_cell? _ _ c0)]; exact c0
        have f0 := hrow.out.frozen k
        have f1 : wr.cell? ⟨w.heap.size, k, none⟩ = some (part (fun j => Value.string (zs j)) (.string ⟨#[]⟩) k k) := hrow.out.cell hlt
        have HN : Hid ((wr.setCell ⟨w.heap.size, k, none⟩ (Value.string (zs k))).rowIs w.heap.size 9 n (part (fun j => Value.string (zs j)) (.string ⟨#[]⟩) (k + 1))) := part_next hrow.out
        clear hc c0
        generalize part (fun j => Value.string (zs j)) (.string ⟨#[]⟩) k k = old at f1
        go_wp2
        exact ⟨⟨k + 1, by go_num, by omega, HN.out, hbel.out.setCell (Nat.le_refl _) _⟩, by simp [intOf]; omega⟩
      · have hlt2 : (n : Int) ≤ (k : Int) := by omega
        go_wp2
        go_ret
        exact ⟨_, rfl, SlIs.of_row (part_all hrow.out (by omega)), hbel.out⟩

end Go.Proofs.Qxb6600632a
