import Derived.Test.Qxb6600632aDoorCan
namespace Go.Proofs.Qxb6600632aDoor
open Go.Lib
set_option linter.unusedVariables false

theorem dec_big {u : Nat} (h : ¬ u < 10) : decDigits u = decDigits (u / 10) ++ [UInt8.ofNat (48 + u % 10)] := by rw [decDigits, dif_neg h]

theorem ofNat_digit {c : UInt8} (h1 : 48 ≤ c.toNat) (h2 : c.toNat ≤ 57) : UInt8.ofNat (48 + (c.toNat - 48)) = c := by
  apply UInt8.toNat_inj.1
  rw [UInt8.toNat_ofNat']
  omega

theorem digit_ofNat (d : Nat) (h : d < 10) : (UInt8.ofNat (48 + d)).toNat = 48 + d := by
  rw [UInt8.toNat_ofNat']; omega

/-- The numeral of what a run of digits reads is the run. -/
theorem dec_of_parse {M : Nat} : ∀ (l : List UInt8) (acc u : Nat), acc ≠ 0 → parseUintM M acc l = .ok u → u ≠ 0 ∧ decDigits u = decDigits acc ++ l
  | [], acc, u, h, e => by
    simp only [parseUintM, NumEnd.ok.injEq] at e
    subst e
    exact ⟨h, by simp⟩
  | c :: r, acc, u, h, e => by
    unfold parseUintM at e
    split at e
    · rename_i hc
      split at e
      · cases e
      · split at e
        · cases e
        · obtain ⟨h1, h2⟩ := dec_of_parse r _ u (by omega) e
          refine ⟨h1, ?_⟩
          rw [h2, dec_big (by omega), show (acc * 10 + (c.toNat - 48)) / 10 = acc by omega, show (acc * 10 + (c.toNat - 48)) % 10 = c.toNat - 48 by omega, ofNat_digit hc.1 hc.2]
          simp
    · cases e

/-- A number that is not 0: its numeral opens with 1 .. 9. -/
theorem dec_head : ∀ (u : Nat), u ≠ 0 → ∃ c r, decDigits u = c :: r ∧ 49 ≤ c.toNat ∧ c.toNat ≤ 57 := fun u => by
  induction u using Nat.strongRecOn with
  | _ u ih =>
    intro h
    by_cases h10 : u < 10
    · refine ⟨_, [], decDigits_one h10, ?_⟩
      rw [digit_ofNat u h10]
      omega
    · obtain ⟨c, r, e, h1⟩ := ih (u / 10) (by omega) (by omega)
      exact ⟨c, r ++ _, by rw [dec_big h10, e]; rfl, h1⟩

theorem parse_append {M : Nat} : ∀ (l t : List UInt8) (acc a : Nat), parseUintM M acc l = .ok a → parseUintM M acc (l ++ t) = parseUintM M a t
  | [], t, acc, a, e => by
    simp only [parseUintM, NumEnd.ok.injEq] at e
    subst e
    rfl
  | c :: r, t, acc, a, e => by
    unfold parseUintM at e
    rw [List.cons_append, parseUintM]
    split at e
    · rename_i hc
      rw [if_pos hc]
      split at e
      · cases e
      · rename_i h1
        rw [if_neg h1]
        split at e
        · cases e
        · rename_i h2
          rw [if_neg h2]
          exact parse_append r t _ a e
    · cases e

theorem parse_one (M a d : Nat) (hd : d < 10) (ha : a < 1844674407370955162) (hM : a * 10 + d ≤ M) : parseUintM M a [UInt8.ofNat (48 + d)] = .ok (a * 10 + d) := by
  rw [parseUintM, digit_ofNat d hd, if_pos (by omega), if_neg (by omega), if_neg (by omega), parseUintM]
  congr 1
  omega

/-- A numeral is read as its number. -/
theorem parse_dec : ∀ (u : Nat), u ≤ 18446744073709551615 → parseUintM 18446744073709551615 0 (decDigits u) = .ok u := fun u => by
  induction u using Nat.strongRecOn with
  | _ u ih =>
    intro h
    by_cases h10 : u < 10
    · rw [decDigits_one h10, parse_one _ 0 u h10 (by omega) (by omega)]
      congr 1
      omega
    · rw [dec_big h10, parse_append _ _ _ _ (ih (u / 10) (by omega) (by omega)), parse_one _ _ _ (by omega) (by omega) (by omega)]
      congr 1
      omega

/-- parseVersion takes the canonical decimals alone. -/
theorem pv_eq (s : ByteArray) : pv s = cdL s.data.toList := by
  have key : pv s = match parseUintB 64 s.data.toList with
      | .ok u => if u = 0 ∨ decDigits u ≠ s.data.toList then none else some u
      | _ => none := by
    have e : ∀ u : Nat, ((⟨(decDigits u).toArray⟩ : ByteArray) ≠ s) ↔ (decDigits u ≠ s.data.toList) := fun u => by
      constructor
      · intro h e; exact h (by rw [e])
      · intro h e; exact h (by rw [← e])
    unfold pv
    simp only [e]
    rfl
  rw [key]
  generalize s.data.toList = l
  cases l with
  | nil => rfl
  | cons c r =>
    have eB : parseUintB 64 (c :: r) = parseUintM 18446744073709551615 0 (c :: r) := by
      unfold parseUintB
      rw [if_neg (by simp)]
    rw [eB]
    simp only [cdL]
    cases hP : parseUintM 18446744073709551615 0 (c :: r) with
    | ok u =>
      by_cases hc : 49 ≤ c.toNat ∧ c.toNat ≤ 57
      · have hh : u ≠ 0 ∧ decDigits u = c :: r := by
          unfold parseUintM at hP
          rw [if_pos (by omega), if_neg (by omega), if_neg (by omega)] at hP
          obtain ⟨h1, h2⟩ := dec_of_parse r _ u (by omega) hP
          refine ⟨h1, ?_⟩
          rw [h2, decDigits_one (by omega), Nat.zero_mul, Nat.zero_add, ofNat_digit (by omega) hc.2]
          rfl
        rw [if_pos hc]
        simp [hh.1, hh.2, ofEnd]
      · rw [if_neg hc]
        show (if u = 0 ∨ decDigits u ≠ c :: r then none else some u) = none
        rw [if_pos]
        by_cases h0 : u = 0
        · exact Or.inl h0
        · refine Or.inr fun e => ?_
          obtain ⟨c', r', e', h1, h2⟩ := dec_head u h0
          rw [e] at e'
          cases e'
          exact hc ⟨h1, h2⟩
    | range => simp [ofEnd]
    | _ => simp [ofEnd]

theorem pv_dec (u : Nat) (h : u ≤ 18446744073709551615) : pv ⟨(decDigits u).toArray⟩ = if u = 0 then none else some u := by
  rw [pv_eq]
  show cdL (decDigits u) = _
  by_cases h0 : u = 0
  · subst h0
    rw [if_pos rfl, decDigits_one (by omega)]
    rfl
  · rw [if_neg h0]
    obtain ⟨c, r, e, h1⟩ := dec_head u h0
    have hp := parse_dec u h
    rw [e] at hp ⊢
    simp only [cdL]
    rw [if_pos h1, hp]
    rfl

theorem dec_size (u : Nat) (h : u ≤ 18446744073709551615) : (⟨(decDigits u).toArray⟩ : ByteArray).size ≤ 1048576 := by
  show (decDigits u).toArray.size ≤ 1048576
  rw [List.size_toArray, decDigits_length]
  by_cases h0 : u = 0
  · subst h0; rw [nDigits_small (by omega)]; omega
  · have := numDigits_eq u (by omega) (by omega)
    split at this <;> omega
end Go.Proofs.Qxb6600632aDoor
