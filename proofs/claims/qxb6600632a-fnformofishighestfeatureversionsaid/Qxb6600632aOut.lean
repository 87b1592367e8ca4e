import Derived.Test.Qxb6600632aModel
import Derived.Test.Qxb6600632aBytes
import Derived.Laws.IdiomStrings
import Derived.Lib.QuietBelow
import Derived.Deep.RegionHeld3
namespace Go.Proofs.Qxb6600632a
open Go.RowKit
set_option linter.unusedVariables false

/-- A slice that came in, in one form. -/
def In (vals : Nat → Value) (w : World) (oa : Option Addr) (n : Nat) : Prop := 0 < n → ∃ b off, oa = some ⟨b, off, none⟩ ∧ ∀ j, j < n → w.cell? ⟨b, off + j, none⟩ = some (vals j)

theorem In.sl {vals : Nat → Value} {w : World} {oa : Option Addr} {n c : Nat} (h : In vals w oa n) (hn : oa = none → n = 0 ∧ c = 0) : SlIs vals w (.slice oa n c) n := by
  cases oa with
  | none => obtain ⟨rfl, rfl⟩ := hn rfl; exact Or.inl ⟨rfl, rfl⟩
  | some a => exact Or.inr ⟨a, c, rfl, fun h0 => by obtain ⟨b, off, e, hc⟩ := h h0; exact ⟨b, off, Option.some.inj e, hc⟩⟩

set_option maxRecDepth 100000 in
set_option maxHeartbeats 4000000 in
theorem law_no (ty : Int) (joining transfer : Bool) (c3 c4 c5 c6 c7 c8 c9 c10 c11 : Value) (fr to : ByteArray) (oi ot oy od : Option Addr) (ci ct cy cd ni nt n nd : Nat) (w : World)
    (m1 : fr.size ≤ maxLen) (m2 : to.size ≤ maxLen) (m3 : ni ≤ maxLen) (m4 : nt ≤ maxLen) (m5 : n ≤ maxLen) (m6 : nd ≤ maxLen) (hbig : 1048576 < fr.size + to.size + ni + nt + n + nd) :
    Calls Try.prog 3 #[.agg #[.int .u8 ty, .string fr, .string to, c3, c4, c5, c6, c7, c8, c9, c10, c11, .bool joining, .bool transfer], .slice oi ni ci, .slice ot nt ct, .slice oy n cy, .slice od nd cd] w fun e w' => e = .returned (.bool true) ∧ Below w.heap.size w w' := by
  go_enter Try.func3, Try.ntmps3
  go_wp2_with fail
  refine (zz_no _ c3 c4 c5 c6 c7 c8 c9 c10 c11 _ _ fr to oi ot oy od ci ct cy cd ni nt n nd _ m1 m2 m3 m4 m5 m6 hbig).mono ?_
  rintro e w1 ⟨rfl, hb⟩
  have HB : Hid (Below w.heap.size w w1) := ((Below.refl _ w).alloc (Nat.le_refl _) _).trans (hb.mono (by simp))
  clear hb
  go_wp2
  go_ret
  exact ⟨rfl, HB.out⟩

set_option maxRecDepth 100000 in
set_option maxHeartbeats 4000000 in
theorem law_out (ty : Int) (joining transfer : Bool) (c3 c4 c5 c6 c7 c8 c9 c10 c11 : Value) (fr to : ByteArray) (oi ot oy od : Option Addr) (ci ct cy cd ni nt n nd : Nat) (zd : Nat → ByteArray) (w : World)
    (hd : In (fun j => .string (zd j)) w od nd) (hz : ∀ j, j < nd → (zd j).size ≤ maxLen) (hsm : fr.size + to.size + ni + nt + n + nd ≤ 1048576)
    (hout : ¬ (ni ≤ 16384 ∧ nt ≤ 16384 ∧ n ≤ 16384 ∧ nd ≤ 16384 ∧ fr.size + to.size + 8 * ni + 8 * nt + n + 16 * nd ≤ 1048576)) :
    Calls Try.prog 3 #[.agg #[.int .u8 ty, .string fr, .string to, c3, c4, c5, c6, c7, c8, c9, c10, c11, .bool joining, .bool transfer], .slice oi ni ci, .slice ot nt ct, .slice oy n cy, .slice od nd cd] w fun e w' => e = .returned (.bool true) ∧ Below w.heap.size w w' := by
  have HD : Hid (In (fun j => .string (zd j)) w od nd) := hd
  have HZ : Hid (∀ j, j < nd → (zd j).size ≤ maxLen) := hz
  have ho : (16384 : Int) < ni ∨ (16384 : Int) < nt ∨ (16384 : Int) < n ∨ (16384 : Int) < nd ∨ (1048576 : Int) < (fr.size : Int) + to.size + 8 * ni + 8 * nt + n + 16 * nd := by omega
  have hb1 : (fr.size : Int) + (to.size : Int) + (ni : Int) + (nt : Int) + (n : Int) + (nd : Int) ≤ 1048576 := by omega
  clear hd hz hout
  go_enter Try.func3, Try.ntmps3
  go_wp2_with fail
  refine (zz_any _ c3 c4 c5 c6 c7 c8 c9 c10 c11 _ _ fr to oi ot oy od ci ct cy cd ni nt n nd zd _ (fun h0 => ?_) HZ.out hsm).mono ?_
  · obtain ⟨b, off, e, hc⟩ := HD.out h0
    exact ⟨b, off, e, fun j hj => cell_al (hc j hj) _⟩
  rintro e w1 ⟨⟨bb, rfl⟩, hb⟩
  have HB : Hid (Below w.heap.size w w1) := ((Below.refl _ w).alloc (Nat.le_refl _) _).trans (hb.mono (by simp))
  have q1 := hb.cell (p := ⟨w.heap.size, 1, none⟩) (by simp)
  have q2 := hb.cell (p := ⟨w.heap.size, 2, none⟩) (by simp)
  simp at q1 q2
  clear hb HD HZ
  cases bb
  · go_wp2
    go_ret
    exact ⟨rfl, HB.out⟩
  · go_wp2
    all_goals
      go_ret
      exact ⟨rfl, HB.out⟩

/-- The cells cs lie at the head of block b. -/
def BoxIs (b : Nat) (cs : List Value) (w : World) : Prop := ∀ j v, cs[j]? = some v → w.cell? ⟨b, j, none⟩ = some v

theorem BoxIs.below {b : Nat} {cs : List Value} {w w' : World} (h : BoxIs b cs w) (hb : Below w.heap.size w w') : BoxIs b cs w' := fun j v e => by
  have := h j v e
  rw [hb.cell (World.block_lt_of_cell? _ _ this)]; exact this

theorem BoxIs.alloc (w : World) (cs : List Value) (t : TypeId) : BoxIs w.heap.size cs (w.alloc (.cells cs.toArray t)) := fun j v e => by
  rw [World.cell?_alloc_mark w cs.toArray t (0, 0) j]
  simpa using e

/-- entriesFrom, whatever the types' slice. -/
theorem entries_any (zi zt zy : Nat → Int) (zd : Nat → ByteArray) (vi vt vy vd : Value) (ni nt n nd : Nat) (w : World) (hi : SlIs (fun j => Value.int .u64 (zi j)) w vi ni) (ht : SlIs (fun j => Value.int .u64 (zt j)) w vt nt)
    (hy : SlIs (fun j => Value.int .u8 (zy j)) w vy n) (hd : SlIs (fun j => Value.string (zd j)) w vd nd) (hzd : ∀ j, j < nd → (zd j).size ≤ 1048576)
    (b1 : ni ≤ 1048576) (b2 : nt ≤ 1048576) (b3 : n ≤ 1048576) (b4 : nd ≤ 1048576) :
    Calls Try.prog 9 #[vi, vt, vy, vd] w fun e w' => ∃ v, e = .returned v ∧ EntIs zy n w' v ∧ Below w.heap.size w w' := by
  obtain ⟨oi, ci, rfl, ei⟩ := hi.form
  obtain ⟨ot, ct, rfl, et⟩ := ht.form
  obtain ⟨od, cd, rfl, ed⟩ := hd.form
  rcases hy with ⟨rfl, rfl⟩ | ⟨a, c, rfl, ey⟩
  · have q : ∀ (w : World) (a : Option Addr) (n c : Nat), (binOp .eql 26 (.slice a n c) (.slice none 0 0)).run Try.prog w = .ok (.bool a.isNone) w := fun w a n c => Lib.run_eql_slice_nil w _ _ _ _ _ _ _ Try.underlying26
    clear ei et ed hi ht hd hzd
    go_enter Try.func9, Try.ntmps9
    go_wp2
    go_ret
    exact ⟨_, rfl, ⟨none, 0, rfl, fun h => absurd h (by omega)⟩, Below.refl _ _⟩
  · refine (entries zi zt zy zd oi ot od ci ct cd a c ni nt n nd w ei et ey ed hzd b1 b2 b3 b4).mono ?_
    rintro e w' ⟨f, g, rfl, hr, hty, hb⟩
    exact ⟨_, rfl, ⟨_, _, rfl, fun _ => ⟨g, f, rfl, hr, hty⟩⟩, hb⟩

end Go.Proofs.Qxb6600632a
