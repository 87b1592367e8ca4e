/-
  THE PLAIN MATHEMATICS of this seat: what cutDigits and cutZone compute, over lists of bytes. No Go in sight.
-/
namespace Go.Proofs.Qxb6600494a.Pl

/-- A decimal digit. -/
def dig (c : UInt8) : Bool := decide (48 ≤ c.toNat) && decide (c.toNat ≤ 57)

def val (c : UInt8) : Int := (c.toNat : Int) - 48

/-- cutDigits(s, 2). -/
def cutDig : List UInt8 → Option Int
  | a :: b :: _ => if dig a && dig b then some (val a * 10 + val b) else none
  | _ => none

/-- The loop of cutZone over the units that are left. -/
def parts : List Int → Int → List UInt8 → Option (Int × List UInt8)
  | [], off, rest => some (off, rest)
  | u :: us, off, rest =>
    match rest with
    | [] => some (off, [])
    | c :: part =>
      if c = 58 then
        match cutDig part with
        | some n => if n ≤ 59 then parts us (off + n * u) (part.drop 2) else none
        | none => none
      else some (off, c :: part)

/-- cutZone(s): the offset and the rest; none: refused. -/
def zone (s : List UInt8) : Option (Int × List UInt8) :=
  match s with
  | [] => none
  | c :: t =>
    if c = 43 ∨ c = 45 then
      match cutDig t with
      | some h =>
        if h ≤ 15 then
          match parts [60, 1] (h * 3600) (t.drop 2) with
          | some (o, r) => some (if c = 45 then -o else o, r)
          | none => none
        else none
      | none => none
    else none

/-- The two digits of n, of 0 to 99. -/
def two (n : Int) : List UInt8 := [UInt8.ofNat (48 + n / 10).toNat, UInt8.ofNat (48 + n % 10).toNat]

theorem val_of (n : Int) (h0 : 0 ≤ n) (h1 : n ≤ 9) : dig (UInt8.ofNat (48 + n).toNat) = true ∧ val (UInt8.ofNat (48 + n).toNat) = n := by
  have e : (UInt8.ofNat (48 + n).toNat).toNat = (48 + n).toNat := by
    rw [UInt8.toNat_ofNat']
    omega
  unfold dig val
  rw [e]
  constructor
  · rw [Bool.and_eq_true, decide_eq_true_eq, decide_eq_true_eq]; omega
  · omega

theorem cutDig_two (n : Int) (h0 : 0 ≤ n) (h1 : n ≤ 99) (l : List UInt8) : cutDig (two n ++ l) = some n := by
  obtain ⟨a1, a2⟩ := val_of (n / 10) (by omega) (by omega)
  obtain ⟨b1, b2⟩ := val_of (n % 10) (by omega) (by omega)
  simp only [two, List.cons_append, List.nil_append, cutDig, a1, b1, a2, b2, Bool.and_self, if_true]
  congr 1
  omega

theorem drop_two (n : Int) (l : List UInt8) : (two n ++ l).drop 2 = l := rfl

/-- Not a colon ahead: the loop leaves. -/
theorem parts_stop (us : List Int) (off : Int) (r : List UInt8) (h : r.head? ≠ some 58) : parts us off r = some (off, r) := by
  cases us with
  | nil => rfl
  | cons u us =>
    cases r with
    | nil => rfl
    | cons c r =>
      have hc : c ≠ 58 := fun e => h (by rw [e]; rfl)
      simp only [parts, if_neg hc]

theorem parts_step (u : Int) (us : List Int) (off n : Int) (h0 : 0 ≤ n) (h1 : n ≤ 59) (r : List UInt8) : parts (u :: us) off (58 :: (two n ++ r)) = parts us (off + n * u) r := by
  simp only [parts, if_true, cutDig_two n h0 (by omega) r, if_pos h1, drop_two]

theorem zone_step (neg : Bool) (h : Int) (h0 : 0 ≤ h) (h1 : h ≤ 15) (r : List UInt8) (o : Int) (r' : List UInt8) (hp : parts [60, 1] (h * 3600) r = some (o, r')) :
    zone ((if neg then 45 else 43) :: (two h ++ r)) = some (if neg then -o else o, r') := by
  cases neg <;> simp [zone, cutDig_two h h0 (by omega) r, h1, drop_two, hp]

/-- Style 0: +-HH. -/
theorem zone0 (neg : Bool) (h : Int) (h0 : 0 ≤ h) (h1 : h ≤ 15) (r : List UInt8) (hr : r.head? ≠ some 58) :
    zone ((if neg then 45 else 43) :: (two h ++ r)) = some (if neg then -(h * 3600) else h * 3600, r) :=
  zone_step neg h h0 h1 r _ _ (parts_stop _ _ _ hr)

/-- Style 1: +-HH:MM. -/
theorem zone1 (neg : Bool) (h m : Int) (h0 : 0 ≤ h) (h1 : h ≤ 15) (m0 : 0 ≤ m) (m1 : m ≤ 59) (r : List UInt8) (hr : r.head? ≠ some 58) :
    zone ((if neg then 45 else 43) :: (two h ++ (58 :: (two m ++ r)))) = some (if neg then -(h * 3600 + m * 60) else h * 3600 + m * 60, r) :=
  zone_step neg h h0 h1 _ _ _ (by rw [parts_step _ _ _ _ m0 m1, parts_stop _ _ _ hr])

/-- Style 2: +-HH:MM:SS. -/
theorem zone2 (neg : Bool) (h m s : Int) (h0 : 0 ≤ h) (h1 : h ≤ 15) (m0 : 0 ≤ m) (m1 : m ≤ 59) (s0 : 0 ≤ s) (s1 : s ≤ 59) (r : List UInt8) :
    zone ((if neg then 45 else 43) :: (two h ++ (58 :: (two m ++ (58 :: (two s ++ r)))))) = some (if neg then -(h * 3600 + m * 60 + s * 1) else h * 3600 + m * 60 + s * 1, r) :=
  zone_step neg h h0 h1 _ _ _ (by rw [parts_step _ _ _ _ m0 m1, parts_step _ _ _ _ s0 s1]; rfl)

/-! ### Bounds and refusals -/
theorem cutDig_some {l : List UInt8} {n : Int} (h : cutDig l = some n) : ∃ a b t, l = a :: b :: t ∧ dig a = true ∧ dig b = true ∧ n = val a * 10 + val b := by
  match l, h with
  | a :: b :: t, h =>
    simp only [cutDig] at h
    by_cases hd : (dig a && dig b) = true
    · rw [if_pos hd] at h
      rw [Bool.and_eq_true] at hd
      exact ⟨a, b, t, rfl, hd.1, hd.2, (Option.some.inj h).symm⟩
    · rw [if_neg hd] at h; cases h

theorem dig_val {c : UInt8} (h : dig c = true) : 0 ≤ val c ∧ val c ≤ 9 := by
  unfold dig at h
  rw [Bool.and_eq_true, decide_eq_true_eq, decide_eq_true_eq] at h
  unfold val
  omega

theorem parts_one {off : Int} {r r' : List UInt8} {o : Int} (h : parts [1] off r = some (o, r')) :
    ∃ k, (k = 0 ∨ k = 3) ∧ r' = r.drop k ∧ k ≤ r.length ∧ off ≤ o ∧ o ≤ off + 59 := by
  cases r with
  | nil => simp only [parts, Option.some.injEq, Prod.mk.injEq] at h; exact ⟨0, Or.inl rfl, h.2.symm, Nat.le_refl _, by omega, by omega⟩
  | cons c part =>
    simp only [parts] at h
    by_cases hc : c = 58
    · rw [if_pos hc] at h
      cases hd : cutDig part with
      | none => rw [hd] at h; cases h
      | some n =>
        rw [hd] at h
        simp only at h
        by_cases hn : n ≤ 59
        · rw [if_pos hn] at h
          simp only [Option.some.injEq, Prod.mk.injEq] at h
          obtain ⟨a, b, t, rfl, da, db, rfl⟩ := cutDig_some hd
          have := dig_val da
          have := dig_val db
          exact ⟨3, Or.inr rfl, h.2.symm, by simp, by omega, by omega⟩
        · rw [if_neg hn] at h; cases h
    · rw [if_neg hc] at h
      simp only [Option.some.injEq, Prod.mk.injEq] at h
      exact ⟨0, Or.inl rfl, h.2.symm, Nat.zero_le _, by omega, by omega⟩

theorem parts_two {off : Int} {r r' : List UInt8} {o : Int} (h : parts [60, 1] off r = some (o, r')) :
    ∃ k, (k = 0 ∨ k = 3 ∨ k = 6) ∧ r' = r.drop k ∧ k ≤ r.length ∧ off ≤ o ∧ o ≤ off + 3599 := by
  cases r with
  | nil => simp only [parts, Option.some.injEq, Prod.mk.injEq] at h; exact ⟨0, Or.inl rfl, h.2.symm, Nat.le_refl _, by omega, by omega⟩
  | cons c part =>
    unfold parts at h
    by_cases hc : c = 58
    · simp only [if_pos hc] at h
      cases hd : cutDig part with
      | none => rw [hd] at h; cases h
      | some n =>
        rw [hd] at h
        simp only at h
        by_cases hn : n ≤ 59
        · rw [if_pos hn] at h
          obtain ⟨a, b, t, rfl, da, db, rfl⟩ := cutDig_some hd
          have := dig_val da
          have := dig_val db
          obtain ⟨k, hk, hr, hl, h1, h2⟩ := parts_one h
          simp only [List.drop_succ_cons, List.drop_zero] at hr hl
          refine ⟨k + 3, by omega, ?_, by simp; omega, by omega, by omega⟩
          rw [hr]; rfl
        · rw [if_neg hn] at h; cases h
    · simp only [if_neg hc, Option.some.injEq, Prod.mk.injEq] at h
      exact ⟨0, Or.inl rfl, h.2.symm, Nat.zero_le _, by omega, by omega⟩

theorem zone_some {s : List UInt8} {o : Int} {r : List UInt8} (h : zone s = some (o, r)) :
    ∃ c a b t k, s = c :: a :: b :: t ∧ (c = 43 ∨ c = 45) ∧ dig a = true ∧ dig b = true ∧ val a * 10 + val b ≤ 15 ∧ (k = 3 ∨ k = 6 ∨ k = 9) ∧ r = s.drop k ∧ k ≤ s.length ∧
      (c = 43 → (val a * 10 + val b) * 3600 ≤ o ∧ o ≤ (val a * 10 + val b) * 3600 + 3599) ∧ (c = 45 → (val a * 10 + val b) * 3600 ≤ -o ∧ -o ≤ (val a * 10 + val b) * 3600 + 3599) := by
  cases s with
  | nil => cases h
  | cons c t =>
    simp only [zone] at h
    by_cases hc : c = 43 ∨ c = 45
    · rw [if_pos hc] at h
      cases hd : cutDig t with
      | none => rw [hd] at h; cases h
      | some n =>
        rw [hd] at h
        simp only at h
        by_cases hn : n ≤ 15
        · rw [if_pos hn] at h
          obtain ⟨a, b, t, rfl, da, db, rfl⟩ := cutDig_some hd
          simp only [List.drop_succ_cons, List.drop_zero] at h
          cases hp : parts [60, 1] ((val a * 10 + val b) * 3600) t with
          | none => rw [hp] at h; cases h
          | some pr =>
            obtain ⟨o', r'⟩ := pr
            rw [hp] at h
            simp only [Option.some.injEq, Prod.mk.injEq] at h
            obtain ⟨k, hk, hr, hl, h1, h2⟩ := parts_two hp
            refine ⟨c, a, b, t, k + 3, rfl, hc, da, db, hn, by omega, ?_, by simp; omega, ?_, ?_⟩
            · rw [← h.2, hr]; rfl
            · intro e; rw [if_neg (by rw [e]; decide)] at h; omega
            · intro e; rw [if_pos e] at h; omega
        · rw [if_neg hn] at h; cases h
    · rw [if_neg hc] at h; cases h

end Go.Proofs.Qxb6600494a.Pl
