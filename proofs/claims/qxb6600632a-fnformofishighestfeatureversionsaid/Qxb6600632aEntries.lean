import Derived.Test.Qxb6600632aClone
namespace Go.Proofs.Qxb6600632a
open Go.RowKit
set_option linter.unusedVariables false

set_option maxHeartbeats 800000 in
theorem bytes_of (s : ByteArray) (w : World) (hs : s.size ≤ 1048576) :
    Calls Try.prog 14 #[.string s] w fun e w' => ∃ a n c, e = .returned (.slice a n c) ∧ Below w.heap.size w w' := by
  by_cases h0 : s.size = 0
  · have h0' : ((s.size : Int) == 0) = true := by rw [beq_iff_eq]; omega
    clear h0
    go_enter Try.func14, Try.ntmps14
    go_wp2
    go_ret
    exact ⟨_, _, _, rfl, Below.refl _ _⟩
  · have h0' : ((s.size : Int) == 0) = false := by rw [beq_eq_false_iff_ne]; omega
    have hmk := fun W => run_make_row' (P := Try.prog) 26 5 (.int .u8 0) 1 Try.underlying26 info5 rfl .i64 .i64 s.size (by omega) (by omega) W
    have hn2 : (s.size : Int) ≤ 1048576 := by omega
    clear h0
    go_enter Try.func14, Try.ntmps14
    go_wp2
    have hrow : (w.alloc (.cells (madeCells #[.int .u8 0] s.size) 5)).rowIs w.heap.size 5 s.size (fun _ => .int .u8 0) := World.rowIs_made w (.int .u8 0) s.size 5
    have hbel : Below w.heap.size w (w.alloc (.cells (madeCells #[.int .u8 0] s.size) 5)) := (Below.refl _ _).alloc (Nat.le_refl _) _
    generalize w.alloc (.cells (madeCells #[.int .u8 0] s.size) 5) = W1 at hrow hbel ⊢
    have HROW : Hid (W1.rowIs w.heap.size 5 s.size (fun _ => .int .u8 0)) := hrow
    have HBEL : Hid (Below w.heap.size w W1) := hbel
    clear hrow hbel hmk
    go_loopw [4] (fun iv wl => ∃ (k : Nat) (f : Nat → Value), iv = .int .i64 (k : Int) ∧ k ≤ s.size ∧ Hid (wl.rowIs w.heap.size 5 s.size f) ∧ Hid (Below w.heap.size w wl)) (fun iv _ => s.size - (intOf iv).toNat)
    case atStart => exact ⟨0, _, rfl, by omega, HROW.out, HBEL.out⟩
    case round =>
      clear HROW HBEL
      obtain ⟨k, f, rfl, hk, hrow, hbel⟩ := hrel
      by_cases hlt : k < s.size
      · have hlt2 : (k : Int) < (s.size : Int) := by omega
        have f0 := hrow.out.frozen k
        have f1 : wr.cell? ⟨w.heap.size, k, none⟩ = some (f k) := hrow.out.cell hlt
        go_wp2
        exact ⟨⟨k + 1, _, by go_num, by omega, hrow.out.set k _, hbel.out.setCell (Nat.le_refl _) _⟩, by simp [intOf]; omega⟩
      · have hlt2 : (s.size : Int) ≤ (k : Int) := by omega
        go_wp2
        go_ret
        exact ⟨_, _, _, rfl, hbel.out⟩

theorem info45 : (Try.prog.info? 45).map (fun i => (i.zero, i.size, i.bytes)) = some (some (.agg #[.int .u64 0, .int .u64 0, .int .u8 0, .slice none 0 0]), 4, 48) := by kernel_rfl

theorem make_entries (n : Nat) (hn : n ≤ 1048576) (w : World) : (Instr.makeSlice 33 (.int .i64 (n : Int)) (.int .i64 (n : Int))).run Try.prog w =
    .ok (.slice (some ⟨w.heap.size, 0, none⟩) n n) (w.alloc (.cells (madeCells #[.int .u64 0, .int .u64 0, .int .u8 0, .slice none 0 0] (n * 4)) 45)) := by
  obtain ⟨i, hi, hz, hs, hb⟩ := info_parts info45
  have hr := run_make (P := Try.prog) w 33 45 i _ Try.underlying33 hi hz .i64 .i64 n n (by omega) (Int.le_refl _) (by rw [hb]; omega) (by omega)
  simp only [Int.toNat_natCast, hs] at hr
  exact hr

/-- The same in one form: an address that counts only where there is an element. -/
theorem SlIs.form {vals : Nat → Value} {w : World} {v : Value} {n : Nat} (h : SlIs vals w v n) : ∃ oa c, v = .slice oa n c ∧ (0 < n → ∃ b off, oa = some ⟨b, off, none⟩ ∧ ∀ j, j < n → w.cell? ⟨b, off + j, none⟩ = some (vals j)) := by
  rcases h with ⟨rfl, rfl⟩ | ⟨a, c, rfl, h⟩
  · exact ⟨none, 0, rfl, fun h => absurd h (by omega)⟩
  · exact ⟨some a, c, rfl, fun hn => by obtain ⟨b, off, rfl, hc⟩ := h hn; exact ⟨b, off, rfl, hc⟩⟩

/-- One entry's cells: index, term, type, data. -/
def encE (x : Value × Value × Int × Value) : List Value := [x.1, x.2.1, .int .u8 x.2.2.1, x.2.2.2]

/-- The row of entries: the first k are laid. -/
def rowE (f : Nat → Value × Value × Int × Value) (k : Nat) : Nat → Value := fun m => if m / 4 < k then (encE (f (m / 4)))[m % 4]?.getD default else (encE (.int .u64 0, .int .u64 0, 0, .slice none 0 0))[m % 4]?.getD default

def upd (f : Nat → Value × Value × Int × Value) (k : Nat) (x : Value × Value × Int × Value) : Nat → Value × Value × Int × Value := fun j => if j = k then x else f j

theorem row_next {W : World} {g n k : Nat} {f : Nat → Value × Value × Int × Value} {x0 x1 x3 : Value} {ty : Int} (h : W.rowIs g 45 (n * 4) (rowE f k)) :
    ((((W.setCell ⟨g, k * 4, none⟩ x0).setCell ⟨g, k * 4 + 1, none⟩ x1).setCell ⟨g, k * 4 + 2, none⟩ (.int .u8 ty)).setCell ⟨g, k * 4 + 3, none⟩ x3).rowIs g 45 (n * 4) (rowE (upd f k (x0, x1, ty, x3)) (k + 1)) := by
  refine ((((h.set (k * 4) x0).set (k * 4 + 1) x1).set (k * 4 + 2) (.int .u8 ty)).set (k * 4 + 3) x3).congr fun m hm => ?_
  by_cases e : m / 4 = k
  · have hr : m % 4 = 0 ∨ m % 4 = 1 ∨ m % 4 = 2 ∨ m % 4 = 3 := by omega
    have hR : rowE (upd f k (x0, x1, ty, x3)) (k + 1) m = (encE (x0, x1, ty, x3))[m % 4]?.getD default := by
      unfold rowE upd
      rw [if_pos (by omega), if_pos e]
    rw [hR]
    rcases hr with hr | hr | hr | hr <;> rw [hr]
    · rw [if_neg (by omega), if_neg (by omega), if_neg (by omega), if_pos (by omega)]; rfl
    · rw [if_neg (by omega), if_neg (by omega), if_pos (by omega)]; rfl
    · rw [if_neg (by omega), if_pos (by omega)]; rfl
    · rw [if_pos (by omega)]; rfl
  · rw [if_neg (by omega), if_neg (by omega), if_neg (by omega), if_neg (by omega)]
    unfold rowE upd
    by_cases e2 : m / 4 < k
    · rw [if_pos e2, if_pos (by omega), if_neg e]
    · rw [if_neg e2, if_neg (by omega)]

theorem row_zero (w : World) (n : Nat) (f : Nat → Value × Value × Int × Value) : (w.alloc (.cells (madeCells #[.int .u64 0, .int .u64 0, .int .u8 0, .slice none 0 0] (n * 4)) 45)).rowIs w.heap.size 45 (n * 4) (rowE f 0) := by
  have h := World.rowIs_alloc w (madeCells #[.int .u64 0, .int .u64 0, .int .u8 0, .slice none 0 0] (n * 4)) 45 (rowE f 0) (fun m hm => by
    rw [size_madeCells] at hm
    unfold rowE
    rw [if_neg (by omega)]
    have hr : m % 4 = 0 ∨ m % 4 = 1 ∨ m % 4 = 2 ∨ m % 4 = 3 := by omega
    rcases hr with hr | hr | hr | hr <;> simp [madeCells, hm, hr, encE])
  rwa [size_madeCells] at h

theorem upd_types {f : Nat → Value × Value × Int × Value} {zy : Nat → Int} {k : Nat} {x0 x1 x3 : Value} (h : ∀ j, j < k → (f j).2.2.1 = zy j) : ∀ j, j < k + 1 → (upd f k (x0, x1, zy k, x3) j).2.2.1 = zy j := fun j hj => by
  unfold upd
  by_cases e : j = k
  · rw [if_pos e, e]
  · rw [if_neg e]; exact h j (by omega)

theorem cell_al {w : World} {a : Addr} {v : Value} (h : w.cell? a = some v) (o : Obj) : (w.alloc o).cell? a = some v :=
  (((Below.refl _ w).alloc (Nat.le_refl _) o).cell (World.block_lt_of_cell? _ _ h)).trans h

theorem froz_al {w : World} {a : Addr} {b : Bool} (ha : a.block < w.heap.size) (h : w.frozen? a = b) (o : Obj) : (w.alloc o).frozen? a = b :=
  (((Below.refl _ w).alloc (Nat.le_refl _) o).frozen ha).trans h

set_option maxRecDepth 100000 in
set_option maxHeartbeats 1000000 in
theorem entries (zi zt zy : Nat → Int) (zd : Nat → ByteArray) (oi ot od : Option Addr) (ci ct cd : Nat) (a : Addr) (c ni nt n nd : Nat) (w : World)
    (hi : 0 < ni → ∃ b off, oi = some ⟨b, off, none⟩ ∧ ∀ j, j < ni → w.cell? ⟨b, off + j, none⟩ = some (.int .u64 (zi j)))
    (ht : 0 < nt → ∃ b off, ot = some ⟨b, off, none⟩ ∧ ∀ j, j < nt → w.cell? ⟨b, off + j, none⟩ = some (.int .u64 (zt j)))
    (hy : 0 < n → ∃ b off, a = ⟨b, off, none⟩ ∧ ∀ j, j < n → w.cell? ⟨b, off + j, none⟩ = some (.int .u8 (zy j)))
    (hd : 0 < nd → ∃ b off, od = some ⟨b, off, none⟩ ∧ ∀ j, j < nd → w.cell? ⟨b, off + j, none⟩ = some (.string (zd j))) (hzd : ∀ j, j < nd → (zd j).size ≤ 1048576)
    (b1 : ni ≤ 1048576) (b2 : nt ≤ 1048576) (b3 : n ≤ 1048576) (b4 : nd ≤ 1048576) :
    Calls Try.prog 9 #[.slice oi ni ci, .slice ot nt ct, .slice (some a) n c, .slice od nd cd] w fun e w' => ∃ (f : Nat → Value × Value × Int × Value) (g : Nat), e = .returned (.slice (some ⟨g, 0, none⟩) n n) ∧ w'.rowIs g 45 (n * 4) (rowE f n) ∧ (∀ j, j < n → (f j).2.2.1 = zy j) ∧ Below w.heap.size w w' := by
  have q : ∀ (w : World) (a : Option Addr) (n c : Nat), (binOp .eql 26 (.slice a n c) (.slice none 0 0)).run Try.prog w = .ok (.bool a.isNone) w := fun w a n c => Lib.run_eql_slice_nil w _ _ _ _ _ _ _ Try.underlying26
  have hmk := fun W => make_entries n b3 W
  have bb3 : (n : Int) ≤ 1048576 := by omega
  have HI : Hid _ := hi
  have HT : Hid _ := ht
  have HY : Hid _ := hy
  have HD : Hid _ := hd
  have HZD : Hid _ := hzd
  clear hi ht hy hd hzd
  go_enter Try.func9, Try.ntmps9
  go_wp2
  have hrow : ∃ f, (w.alloc (.cells (madeCells #[.int .u64 0, .int .u64 0, .int .u8 0, .slice none 0 0] (n * 4)) 45)).rowIs w.heap.size 45 (n * 4) (rowE f 0)  := ⟨fun _ => (.int .u64 0, .int .u64 0, 0, .slice none 0 0), row_zero w n _⟩
  have hbel : Below w.heap.size w (w.alloc (.cells (madeCells #[.int .u64 0, .int .u64 0, .int .u8 0, .slice none 0 0] (n * 4)) 45)) := (Below.refl _ _).alloc (Nat.le_refl _) _
  generalize w.alloc (.cells (madeCells #[.int .u64 0, .int .u64 0, .int .u8 0, .slice none 0 0] (n * 4)) 45) = W1 at hrow hbel ⊢
  have HROW : Hid (∃ f, W1.rowIs w.heap.size 45 (n * 4) (rowE f 0)) := hrow
  have HBEL : Hid (Below w.heap.size w W1) := hbel
  clear hrow hbel hmk q
  go_loopw [10] (fun iv wl => ∃ (k : Nat) (f : Nat → Value × Value × Int × Value), iv = .int .i64 (k : Int) ∧ k ≤ n ∧ Hid (wl.rowIs w.heap.size 45 (n * 4) (rowE f k)) ∧ Hid (∀ j, j < k → (f j).2.2.1 = zy j) ∧ Hid (Below w.heap.size w wl)) (fun iv _ => n - (intOf iv).toNat)
  case atStart => obtain ⟨f, hf⟩ := HROW.out; exact ⟨0, f, rfl, by omega, hf, fun j hj => absurd hj (by omega), HBEL.out⟩
  case round =>
    clear HROW HBEL
    obtain ⟨k, f, rfl, hk, hrow, hty, hbel⟩ := hrel
    by_cases hlt : k < n
    · have hlt2 : (k : Int) < (n : Int) := by omega
      obtain ⟨by_, offy, rfl, hcy⟩ := HY.out (by omega)
      have y0 := hcy k hlt
      have y1 : wr.cell? ⟨by_, offy + k, none⟩ = some (.int .u8 (zy k)) := by rw [hbel.out.cell (World.block_lt_of_cell? _ _ y0)]; exact y0
      have hby := World.block_lt_of_cell? _ _ y1
      have hlw := hrow.out.lt
      clear hcy y0
      have r0 := hrow.out.cell (i := k * 4) (by omega)
      have r1 := hrow.out.cell (i := k * 4 + 1) (by omega)
      have r2 := hrow.out.cell (i := k * 4 + 2) (by omega)
      have r3 := hrow.out.cell (i := k * 4 + 3) (by omega)
      have f0 := hrow.out.frozen (k * 4)
      have f1 := hrow.out.frozen (k * 4 + 1)
      have f2 := hrow.out.frozen (k * 4 + 2)
      have f3 := hrow.out.frozen (k * 4 + 3)
      have hI : (∃ bi offi, oi = some ⟨bi, offi, none⟩ ∧ (k : Int) < (ni : Int) ∧ bi < wr.heap.size ∧ wr.cell? ⟨bi, offi + k, none⟩ = some (.int .u64 (zi k))) ∨ ((ni : Int) ≤ (k : Int)) := by
        by_cases g : k < ni
        · obtain ⟨bi, offi, e, hc⟩ := HI.out (by omega)
          have x0 := hc k g
          have x1 : wr.cell? ⟨bi, offi + k, none⟩ = some (.int .u64 (zi k)) := by rw [hbel.out.cell (World.block_lt_of_cell? _ _ x0)]; exact x0
          exact Or.inl ⟨bi, offi, e, by omega, World.block_lt_of_cell? _ _ x1, x1⟩
        · exact Or.inr (by omega)
      have hT : (∃ bi offi, ot = some ⟨bi, offi, none⟩ ∧ (k : Int) < (nt : Int) ∧ bi < wr.heap.size ∧ wr.cell? ⟨bi, offi + k, none⟩ = some (.int .u64 (zt k))) ∨ ((nt : Int) ≤ (k : Int)) := by
        by_cases g : k < nt
        · obtain ⟨bi, offi, e, hc⟩ := HT.out (by omega)
          have x0 := hc k g
          have x1 : wr.cell? ⟨bi, offi + k, none⟩ = some (.int .u64 (zt k)) := by rw [hbel.out.cell (World.block_lt_of_cell? _ _ x0)]; exact x0
          exact Or.inl ⟨bi, offi, e, by omega, World.block_lt_of_cell? _ _ x1, x1⟩
        · exact Or.inr (by omega)
      have hD : (∃ bi offi, od = some ⟨bi, offi, none⟩ ∧ (k : Int) < (nd : Int) ∧ bi < wr.heap.size ∧ wr.cell? ⟨bi, offi + k, none⟩ = some (.string (zd k)) ∧ Hid ((zd k).size ≤ 1048576)) ∨ ((nd : Int) ≤ (k : Int)) := by
        by_cases g : k < nd
        · obtain ⟨bi, offi, e, hc⟩ := HD.out (by omega)
          have x0 := hc k g
          have x1 : wr.cell? ⟨bi, offi + k, none⟩ = some (.string (zd k)) := by rw [hbel.out.cell (World.block_lt_of_cell? _ _ x0)]; exact x0
          exact Or.inl ⟨bi, offi, e, by omega, World.block_lt_of_cell? _ _ x1, x1, HZD.out k g⟩
        · exact Or.inr (by omega)
      clear HI HT HD HZD HY
      rcases hD with ⟨bd, offd, rfl, d1, d2, d3, d4⟩ | d1
      · rcases hI with ⟨bi, offi, rfl, i1, i2, i3⟩ | i1 <;> rcases hT with ⟨bt, offt, rfl, t1, t2, t3⟩ | t1
        all_goals
          go_wp2_with fail
          refine (bytes_of (zd k) _ d4.out).mono ?_
          rintro e w1 ⟨a9, n9, c9, rfl, hb9⟩
          clear r0 r1 r2 r3 f0 f1 f2 f3 y1 d3
          try clear i3
          try clear t3
          have e0 := hb9.cell (p := ⟨wr.heap.size, 0, none⟩) (by simp)
          have e1 := hb9.cell (p := ⟨wr.heap.size, 1, none⟩) (by simp)
          have e2 := hb9.cell (p := ⟨wr.heap.size, 2, none⟩) (by simp)
          have e3 := hb9.cell (p := ⟨wr.heap.size, 3, none⟩) (by simp)
          have z3 := hb9.frozen (p := ⟨wr.heap.size, 3, none⟩) (by simp)
          simp at e0 e1 e2 e3 z3
          have HROW1 : Hid (w1.rowIs w.heap.size 45 (n * 4) (rowE f k)) := (hrow.out.alloc _).of_block (hb9.block _ (by simp; omega))
          have HB1 : Hid (Below w.heap.size w w1) := ((hbel.out.alloc (Nat.le_of_lt hlw) _).trans (hb9.mono (by simp; omega)))
          have r0 := HROW1.out.cell (i := k * 4) (by omega)
          have r1 := HROW1.out.cell (i := k * 4 + 1) (by omega)
          have r2 := HROW1.out.cell (i := k * 4 + 2) (by omega)
          have r3 := HROW1.out.cell (i := k * 4 + 3) (by omega)
          have f0 := HROW1.out.frozen (k * 4)
          have f1 := HROW1.out.frozen (k * 4 + 1)
          have f2 := HROW1.out.frozen (k * 4 + 2)
          have f3 := HROW1.out.frozen (k * 4 + 3)
          clear hb9
          go_wp2
          exact ⟨⟨k + 1, upd f k (_, _, zy k, _), by go_num, by omega, row_next (HROW1.out.setOther (by simp; omega) _), upd_types hty.out, (((((HB1.out.setCell (Nat.le_of_lt hlw) _).setCell (Nat.le_refl _) _).setCell (Nat.le_refl _) _).setCell (Nat.le_refl _) _).setCell (Nat.le_refl _) _)⟩, by simp [intOf]; omega⟩
      · rcases hI with ⟨bi, offi, rfl, i1, i2, i3⟩ | i1 <;> rcases hT with ⟨bt, offt, rfl, t1, t2, t3⟩ | t1
        all_goals
          go_wp2
          exact ⟨⟨k + 1, upd f k (_, _, zy k, _), by go_num, by omega, (row_next hrow.out).alloc _, upd_types hty.out, ((((hbel.out.setCell (Nat.le_refl _) _).setCell (Nat.le_refl _) _).setCell (Nat.le_refl _) _).setCell (Nat.le_refl _) _).alloc (by have := hbel.out.size; simp; omega) _⟩, by simp [intOf]; omega⟩
    · have hlt2 : (n : Int) ≤ (k : Int) := by omega
      have ek : k = n := by omega
      clear HI HT HD HZD HY
      go_wp2
      go_ret
      exact ⟨f, w.heap.size, rfl, ek ▸ hrow.out, ek ▸ hty.out, hbel.out⟩
end Go.Proofs.Qxb6600632a
