import Derived.Test.Qxb6600632aEntries
namespace Go.Proofs.Qxb6600632a
open Go.RowKit
set_option linter.unusedVariables false

/-- Some of the first n types is 3 (a configuration). -/
def hasB (zy : Nat → Int) : Nat → Bool
  | 0 => false
  | n + 1 => hasB zy n || (zy n == 3)

theorem hasB_of {zy : Nat → Int} {k : Nat} (hk : (zy k == 3) = true) : ∀ n, k < n → hasB zy n = true
  | 0, h => absurd h (by omega)
  | n + 1, h => by
    unfold hasB
    by_cases e : k < n
    · rw [hasB_of hk n e]; rfl
    · have e2 : k = n := by omega
      rw [← e2, hk]; simp

/-- The entries' slice: n entries whose types are zy. -/
def EntIs (zy : Nat → Int) (n : Nat) (w : World) (v : Value) : Prop :=
  ∃ oe ce, v = .slice oe n ce ∧ (0 < n → ∃ g f, oe = some ⟨g, 0, none⟩ ∧ w.rowIs g 45 (n * 4) (rowE f n) ∧ ∀ j, j < n → (f j).2.2.1 = zy j)

theorem EntIs.below {zy : Nat → Int} {n : Nat} {w w' : World} {v : Value} (h : EntIs zy n w v) (hb : Below w.heap.size w w') : EntIs zy n w' v := by
  obtain ⟨oe, ce, rfl, h⟩ := h
  refine ⟨oe, ce, rfl, fun hn => ?_⟩
  obtain ⟨g, f, e, hr, ht⟩ := h hn
  exact ⟨g, f, e, hr.of_block (hb.block g hr.lt), ht⟩

set_option maxHeartbeats 400000 in
theorem is_conf (a b d : Value) (c : Int) (w : World) : Calls Try.prog 18 #[.agg #[a, b, .int .u8 c, d]] w fun e w' => e = .returned (.bool (c == 3)) ∧ Below w.heap.size w w' := by
  go_enter Try.func18, Try.ntmps18
  go_wp2
  go_ret
  exact ⟨rfl, (Below.refl _ _).alloc (Nat.le_refl _) _⟩

theorem rowE_at (f : Nat → Value × Value × Int × Value) (n k : Nat) (hk : k < n) : rowE f n (k * 4) = (f k).1 ∧ rowE f n (k * 4 + 1) = (f k).2.1 ∧ rowE f n (k * 4 + 2) = .int .u8 (f k).2.2.1 ∧ rowE f n (k * 4 + 3) = (f k).2.2.2 := by
  have d0 : k * 4 / 4 = k := by omega
  have d1 : (k * 4 + 1) / 4 = k := by omega
  have d2 : (k * 4 + 2) / 4 = k := by omega
  have d3 : (k * 4 + 3) / 4 = k := by omega
  have m0 : k * 4 % 4 = 0 := by omega
  have m1 : (k * 4 + 1) % 4 = 1 := by omega
  have m2 : (k * 4 + 2) % 4 = 2 := by omega
  have m3 : (k * 4 + 3) % 4 = 3 := by omega
  refine ⟨?_, ?_, ?_, ?_⟩
  · unfold rowE; rw [d0, m0, if_pos hk]; rfl
  · unfold rowE; rw [d1, m1, if_pos hk]; rfl
  · unfold rowE; rw [d2, m2, if_pos hk]; rfl
  · unfold rowE; rw [d3, m3, if_pos hk]; rfl

set_option maxHeartbeats 800000 in
theorem index_func (zy : Nat → Int) (n : Nat) (v : Value) (w : World) (hv : EntIs zy n w v) (hn : n ≤ 1048576) :
    Calls Try.prog 19 #[v, .func (.func 18) #[] #[]] w fun e w' => ∃ r : Int, e = .returned (.int .i64 r) ∧ (decide (0 ≤ r)) = hasB zy n ∧ Below w.heap.size w w' := by
  obtain ⟨oe, ce, rfl, hr⟩ := hv
  have HR : Hid _ := hr
  have hn2 : (n : Int) ≤ 1048576 := by omega
  clear hr
  go_enter Try.func19, Try.ntmps19
  go_wp2
  go_loopw [8] (fun iv wl => ∃ k : Nat, iv = .int .i64 (k : Int) ∧ k ≤ n ∧ Hid (hasB zy k = false) ∧ Hid (Below w.heap.size w wl)) (fun iv _ => n - (intOf iv).toNat)
  case atStart => exact ⟨0, rfl, by omega, rfl, Below.refl _ _⟩
  case round =>
    obtain ⟨k, rfl, hk, hno, hbel⟩ := hrel
    by_cases hlt : k < n
    · have hlt2 : (k : Int) < (n : Int) := by omega
      obtain ⟨g, f, rfl, hrow, hty⟩ := HR.out (by omega)
      have hrow1 : wr.rowIs g 45 (n * 4) (rowE f n) := hrow.of_block (hbel.out.block g hrow.lt)
      obtain ⟨a0, a1, a2, a3⟩ := rowE_at f n k hlt
      have r0 := hrow1.cell (i := k * 4) (by omega)
      have r1 := hrow1.cell (i := k * 4 + 1) (by omega)
      have r2 := hrow1.cell (i := k * 4 + 2) (by omega)
      have r3 := hrow1.cell (i := k * 4 + 3) (by omega)
      rw [a0] at r0
      rw [a1] at r1
      rw [a2, hty k hlt] at r2
      rw [a3] at r3
      clear a0 a1 a2 a3 hrow hrow1 hty HR
      generalize (f k).1 = x0 at r0
      generalize (f k).2.1 = x1 at r1
      generalize (f k).2.2.2 = x3 at r3
      go_wp2_with fail
      refine (is_conf x0 x1 x3 (zy k) _).mono ?_
      rintro e w1 ⟨rfl, hb1⟩
      have HB1 : Hid (Below w.heap.size w w1) := hbel.out.trans (hb1.mono hbel.out.size)
      clear hb1 r0 r1 r2 r3
      cases hz : (zy k == 3) with
      | true =>
        have HZ : Hid (hasB zy n = true) := hasB_of hz n hlt
        clear hz
        go_wp2
        go_ret
        exact ⟨(k : Int), rfl, by rw [HZ.out]; simp, HB1.out⟩
      | false =>
        have HZ : Hid (hasB zy (k + 1) = false) := by show hasB zy (k + 1) = false; unfold hasB; rw [hno.out, hz]; rfl
        clear hz
        go_wp2
        exact ⟨⟨k + 1, by go_num, by omega, HZ.out, HB1.out⟩, by simp [intOf]; omega⟩
    · have hlt2 : (n : Int) ≤ (k : Int) := by omega
      have ek : k = n := by omega
      have HNO : Hid (hasB zy n = false) := ek ▸ hno.out
      clear ek hno HR
      go_wp2
      go_ret
      exact ⟨-1, rfl, by rw [HNO.out]; rfl, hbel.out⟩

set_option maxHeartbeats 400000 in
theorem contains_func (zy : Nat → Int) (n : Nat) (v : Value) (w : World) (hv : EntIs zy n w v) (hn : n ≤ 1048576) :
    Calls Try.prog 17 #[v, .func (.func 18) #[] #[]] w fun e w' => e = .returned (.bool (hasB zy n)) ∧ Below w.heap.size w w' := by
  have HV : Hid (EntIs zy n w v) := hv
  clear hv
  go_enter Try.func17, Try.ntmps17
  go_wp2_with fail
  refine (index_func zy n v _ HV.out hn).mono ?_
  rintro e w1 ⟨r, rfl, hr, hb⟩
  have HR : Hid (decide (0 ≤ r) = hasB zy n) := hr
  have HB : Hid (Below w.heap.size w w1) := hb
  clear hr hb
  go_wp2
  go_ret
  exact ⟨by rw [← HR.out]; rfl, HB.out⟩

/-- The form that the features need. -/
def formV (ty : Int) (joining transfer has : Bool) : Int :=
  if ty == 10 || ty == 11 || ty == 12 || transfer then 4 else if joining then 3 else if has then 2 else 1

theorem formV_four {ty : Int} {j t h : Bool} (e : (ty == 10 || ty == 11 || ty == 12 || t) = true) : Ending.returned (.int .u64 4) = .returned (.int .u64 (formV ty j t h)) := by
  simp only [formV, e, if_true]
theorem formV_three {ty : Int} {h : Bool} (e : (ty == 10 || ty == 11 || ty == 12 || false) = false) : Ending.returned (.int .u64 3) = .returned (.int .u64 (formV ty true false h)) := by
  simp only [formV, e]; rfl
theorem formV_two {ty : Int} (e : (ty == 10 || ty == 11 || ty == 12 || false) = false) : Ending.returned (.int .u64 2) = .returned (.int .u64 (formV ty false false true)) := by
  simp only [formV, e]; rfl
theorem formV_one {ty : Int} (e : (ty == 10 || ty == 11 || ty == 12 || false) = false) : Ending.returned (.int .u64 1) = .returned (.int .u64 (formV ty false false false)) := by
  simp only [formV, e]; rfl

set_option maxHeartbeats 800000 in
theorem form_of (ty : Int) (c1 c2 c3 c4 c5 c6 c7 c8 c9 c10 c11 : Value) (joining transfer : Bool) (zy : Nat → Int) (n : Nat) (v : Value) (w : World) (hv : EntIs zy n w v) (hn : n ≤ 1048576) :
    Calls Try.prog 15 #[.agg #[.int .u8 ty, c1, c2, c3, c4, c5, c6, c7, c8, c9, c10, c11, .bool joining, .bool transfer, v]] w fun e w' => e = .returned (.int .u64 (formV ty joining transfer (hasB zy n))) ∧ Below w.heap.size w w' := by
  have HV : Hid (EntIs zy n w v) := hv
  clear hv
  cases t10 : (ty == 10) with
  | true =>
    have HF := formV_four (j := joining) (t := transfer) (h := hasB zy n) (ty := ty) (by rw [t10]; rfl)
    have HF : Hid (Ending.returned (.int .u64 4) = .returned (.int .u64 (formV ty joining transfer (hasB zy n)))) := HF
    go_enter Try.func15, Try.ntmps15
    go_wp2
    go_ret
    exact ⟨HF.out, (Below.refl _ _).alloc (Nat.le_refl _) _⟩
  | false =>
    cases t11 : (ty == 11) with
    | true =>
      have HF : Hid (Ending.returned (.int .u64 4) = .returned (.int .u64 (formV ty joining transfer (hasB zy n)))) := formV_four (by rw [t10, t11]; rfl)
      go_enter Try.func15, Try.ntmps15
      go_wp2
      go_ret
      exact ⟨HF.out, (Below.refl _ _).alloc (Nat.le_refl _) _⟩
    | false =>
      cases t12 : (ty == 12) with
      | true =>
        have HF : Hid (Ending.returned (.int .u64 4) = .returned (.int .u64 (formV ty joining transfer (hasB zy n)))) := formV_four (by rw [t10, t11, t12]; rfl)
        go_enter Try.func15, Try.ntmps15
        go_wp2
        go_ret
        exact ⟨HF.out, (Below.refl _ _).alloc (Nat.le_refl _) _⟩
      | false =>
        have HT : Hid ((ty == 10 || ty == 11 || ty == 12 || false) = false) := by show _ = false; rw [t10, t11, t12]; rfl
        cases transfer with
        | true =>
          have HF : Hid (Ending.returned (.int .u64 4) = .returned (.int .u64 (formV ty joining true (hasB zy n)))) := formV_four (by rw [t10, t11, t12]; rfl)
          go_enter Try.func15, Try.ntmps15
          go_wp2
          go_ret
          exact ⟨HF.out, (Below.refl _ _).alloc (Nat.le_refl _) _⟩
        | false =>
          cases joining with
          | true =>
            have HF : Hid (Ending.returned (.int .u64 3) = .returned (.int .u64 (formV ty true false (hasB zy n)))) := formV_three HT.out
            go_enter Try.func15, Try.ntmps15
            go_wp2
            go_ret
            exact ⟨HF.out, (Below.refl _ _).alloc (Nat.le_refl _) _⟩
          | false =>
            cases hh : hasB zy n with
            | true =>
              have HH : Hid (hasB zy n = true) := hh
              have HF : Hid (Ending.returned (.int .u64 2) = .returned (.int .u64 (formV ty false false true))) := formV_two HT.out
              clear hh
              go_enter Try.func15, Try.ntmps15
              go_wp2_with fail
              have hc := contains_func zy n v (w.alloc (.cells #[.int .u8 ty, c1, c2, c3, c4, c5, c6, c7, c8, c9, c10, c11, .bool false, .bool false, v] 36)) (HV.out.below ((Below.refl _ w).alloc (Nat.le_refl _) _)) hn
              rw [HH.out] at hc
              refine hc.mono ?_
              rintro e w1 ⟨rfl, hb⟩
              have HB : Hid (Below w.heap.size w w1) := ((Below.refl _ w).alloc (Nat.le_refl _) _).trans (hb.mono (by simp))
              clear hb hc
              go_wp2
              go_ret
              exact ⟨HF.out, HB.out⟩
            | false =>
              have HH : Hid (hasB zy n = false) := hh
              have HF : Hid (Ending.returned (.int .u64 1) = .returned (.int .u64 (formV ty false false false))) := formV_one HT.out
              clear hh
              go_enter Try.func15, Try.ntmps15
              go_wp2_with fail
              have hc := contains_func zy n v (w.alloc (.cells #[.int .u8 ty, c1, c2, c3, c4, c5, c6, c7, c8, c9, c10, c11, .bool false, .bool false, v] 36)) (HV.out.below ((Below.refl _ w).alloc (Nat.le_refl _) _)) hn
              rw [HH.out] at hc
              refine hc.mono ?_
              rintro e w1 ⟨rfl, hb⟩
              have HB : Hid (Below w.heap.size w w1) := ((Below.refl _ w).alloc (Nat.le_refl _) _).trans (hb.mono (by simp))
              clear hb hc
              go_wp2
              go_ret
              exact ⟨HF.out, HB.out⟩

set_option maxHeartbeats 800000 in
theorem zz_form (ty : Int) (c1 c2 c3 c4 c5 c6 c7 c8 c9 c10 c11 : Value) (joining transfer : Bool) (zy : Nat → Int) (n : Nat) (v : Value) (w : World) (hv : EntIs zy n w v) (hn : n ≤ 1048576) :
    Calls Try.prog 10 #[.agg #[.int .u8 ty, c1, c2, c3, c4, c5, c6, c7, c8, c9, c10, c11, .bool joining, .bool transfer, v]] w fun e w' => e = .returned (.int .u64 (formV ty joining transfer (hasB zy n))) ∧ Below w.heap.size w w' := by
  have HV : Hid (EntIs zy n w v) := hv
  clear hv
  go_enter Try.func10, Try.ntmps10
  go_wp2_with fail
  refine (form_of ty c1 c2 c3 c4 c5 c6 c7 c8 c9 c10 c11 joining transfer zy n v _ (HV.out.below ((Below.refl _ w).alloc (Nat.le_refl _) _)) hn).mono ?_
  rintro e w1 ⟨rfl, hb⟩
  have HB : Hid (Below w.heap.size w w1) := ((Below.refl _ w).alloc (Nat.le_refl _) _).trans (hb.mono (by simp))
  clear hb
  go_wp2
  go_ret
  exact ⟨rfl, HB.out⟩
end Go.Proofs.Qxb6600632a
