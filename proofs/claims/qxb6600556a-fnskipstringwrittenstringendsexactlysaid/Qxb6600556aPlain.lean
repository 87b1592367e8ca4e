/-
  THE PLAIN MATHEMATICS of this seat: where a string that opens at i ends, over lists of bytes. No Go in sight.
-/
namespace Go.Proofs.Qxb6600556a.Pl

/-- The run of backslashes just before p, not looking before lo, is odd. -/
def oddRun (t : List UInt8) (lo : Nat) : Nat → Bool
  | 0 => false
  | p + 1 => if lo ≤ p ∧ t[p]? = some 92 then !(oddRun t lo p) else false

/-- A closing byte on one line. -/
def Cl1 (t : List UInt8) (q : UInt8) (p : Nat) : Prop := t[p]? = some q ∨ t[p]? = some 10
/-- A closing trio. -/
def Cl3 (t : List UInt8) (q : UInt8) (p : Nat) : Prop := t[p]? = some q ∧ t[p + 1]? = some q ∧ t[p + 2]? = some q

/-- Unescaped. -/
def Stop (C : Nat → Prop) (t : List UInt8) (q : UInt8) (lo p : Nat) : Prop := C p ∧ (q = 34 → oddRun t lo p = false)

/-- k is the first place from lo on, before n, where S holds; n where there is none. -/
def First (S : Nat → Prop) (lo n k : Nat) : Prop := lo ≤ k ∧ k ≤ n ∧ (∀ p, lo ≤ p → p < k → ¬ S p) ∧ (k < n → S k)

theorem First.uniq {S : Nat → Prop} {lo n k k' : Nat} (h : First S lo n k) (h' : First S lo n k') : k = k' := by
  obtain ⟨a1, a2, a3, a4⟩ := h
  obtain ⟨b1, b2, b3, b4⟩ := h'
  by_cases c : k < k'
  · exact absurd (a4 (by omega)) (b3 k a1 c)
  · by_cases d : k' < k
    · exact absurd (b4 (by omega)) (a3 k' b1 d)
    · omega

/-- e is the end of the run of q's from k on, of at most five. -/
def Run (t : List UInt8) (q : UInt8) (k e : Nat) : Prop := k ≤ e ∧ e ≤ k + 5 ∧ (∀ p, k ≤ p → p < e → t[p]? = some q) ∧ (e < k + 5 → t[e]? ≠ some q)

theorem Run.uniq {t : List UInt8} {q : UInt8} {k e e' : Nat} (h : Run t q k e) (h' : Run t q k e') : e = e' := by
  obtain ⟨a1, a2, a3, a4⟩ := h
  obtain ⟨b1, b2, b3, b4⟩ := h'
  by_cases c : e < e'
  · exact absurd (b3 e a1 c) (a4 (by omega))
  · by_cases d : e' < e
    · exact absurd (a3 e' b1 d) (b4 (by omega))
    · omega

/-- Where the string that opens at i with the quote q ends. -/
def Skip (t : List UInt8) (q : UInt8) (i e : Nat) : Prop :=
  (Cl3 t q i ∧ ∃ k, First (Stop (Cl3 t q) t q (i + 3)) (i + 3) t.length k ∧ Run t q k e) ∨
  (¬ Cl3 t q i ∧ ∃ k, First (Stop (Cl1 t q) t q (i + 1)) (i + 1) t.length k ∧ e = min (k + 1) t.length)

theorem Skip.uniq {t : List UInt8} {q : UInt8} {i e e' : Nat} (h : Skip t q i e) (h' : Skip t q i e') : e = e' := by
  rcases h with ⟨c, k, f, r⟩ | ⟨c, k, f, r⟩ <;> rcases h' with ⟨c', k', f', r'⟩ | ⟨c', k', f', r'⟩
  · rw [f.uniq f'] at r; exact r.uniq r'
  · exact absurd c c'
  · exact absurd c' c
  · rw [f.uniq f'] at r; rw [r, r']

/-! ### The scanner's own loop -/
/-- What the scanner keeps at place k. -/
def Inv (C : Nat → Prop) (t : List UInt8) (q : UInt8) (lo k : Nat) : Prop :=
  lo ≤ k ∧ k ≤ t.length ∧ (∀ p, lo ≤ p → p < k → ¬ Stop C t q lo p) ∧ (k < t.length → q = 34 → oddRun t lo k = false)

theorem oddRun_lo (t : List UInt8) (lo : Nat) : oddRun t lo lo = false := by
  cases lo with
  | zero => rfl
  | succ p => simp only [oddRun]; rw [if_neg (by omega)]

theorem Inv.start {C : Nat → Prop} {t : List UInt8} {q : UInt8} {lo : Nat} (h : lo ≤ t.length) : Inv C t q lo lo :=
  ⟨Nat.le_refl _, h, fun p h1 h2 => absurd h1 (by omega), fun _ _ => oddRun_lo t lo⟩

theorem odd_next {t : List UInt8} {lo k : Nat} (hlo : lo ≤ k) (h : t[k]? = some 92) : oddRun t lo (k + 1) = !(oddRun t lo k) := by
  simp only [oddRun]; rw [if_pos ⟨hlo, h⟩]

theorem odd_zero {t : List UInt8} {lo k : Nat} (h : t[k]? ≠ some 92) : oddRun t lo (k + 1) = false := by
  simp only [oddRun]; rw [if_neg (fun e => h e.2)]

/-- An escape: two bytes on. -/
theorem Inv.two {C : Nat → Prop} {t : List UInt8} {q : UInt8} {lo k : Nat} (h : Inv C t q lo k) (hC : ¬ C k) (hq : q = 34) (hb : t[k]? = some 92) (hn : k + 1 < t.length) : Inv C t q lo (k + 2) := by
  obtain ⟨a1, a2, a3, a4⟩ := h
  have o1 : oddRun t lo (k + 1) = true := by rw [odd_next a1 hb, a4 (by omega) hq]; rfl
  refine ⟨by omega, by omega, fun p h1 h2 => ?_, fun _ _ => ?_⟩
  · by_cases e : p < k
    · exact a3 p h1 e
    · by_cases e1 : p = k
      · rw [e1]; exact fun s => hC s.1
      · have e2 : p = k + 1 := by omega
        rw [e2]; exact fun s => by rw [s.2 hq] at o1; cases o1
  · by_cases e : t[k + 1]? = some 92
    · rw [odd_next (by omega) e, o1]; rfl
    · exact odd_zero e

/-- No escape: one byte on. -/
theorem Inv.one {C : Nat → Prop} {t : List UInt8} {q : UInt8} {lo k : Nat} (h : Inv C t q lo k) (hC : ¬ C k) (hk : k < t.length) (hb : q = 34 → t[k]? = some 92 → ¬ k + 1 < t.length) : Inv C t q lo (k + 1) := by
  obtain ⟨a1, a2, a3, a4⟩ := h
  refine ⟨by omega, by omega, fun p h1 h2 => ?_, fun h1 h2 => ?_⟩
  · by_cases e : p < k
    · exact a3 p h1 e
    · have e1 : p = k := by omega
      rw [e1]; exact fun s => hC s.1
  · exact odd_zero (fun e => hb h2 e h1)

theorem Inv.stop {C : Nat → Prop} {t : List UInt8} {q : UInt8} {lo k : Nat} (h : Inv C t q lo k) (hC : k < t.length → C k) : First (Stop C t q lo) lo t.length k :=
  ⟨h.1, h.2.1, h.2.2.1, fun hk => ⟨hC hk, h.2.2.2 hk⟩⟩

/-! ### The closed form's loop: every place is looked at -/
def Inv' (C : Nat → Prop) (t : List UInt8) (q : UInt8) (lo k : Nat) : Prop := lo ≤ k ∧ k ≤ t.length ∧ ∀ p, lo ≤ p → p < k → ¬ Stop C t q lo p

theorem Inv'.start {C : Nat → Prop} {t : List UInt8} {q : UInt8} {lo : Nat} (h : lo ≤ t.length) : Inv' C t q lo lo :=
  ⟨Nat.le_refl _, h, fun p h1 h2 => absurd h1 (by omega)⟩

theorem Inv'.next {C : Nat → Prop} {t : List UInt8} {q : UInt8} {lo k : Nat} (h : Inv' C t q lo k) (hk : k < t.length) (hs : ¬ Stop C t q lo k) : Inv' C t q lo (k + 1) := by
  obtain ⟨a1, a2, a3⟩ := h
  refine ⟨by omega, by omega, fun p h1 h2 => ?_⟩
  by_cases e : p < k
  · exact a3 p h1 e
  · have e1 : p = k := by omega
    rw [e1]; exact hs

theorem Inv'.stop {C : Nat → Prop} {t : List UInt8} {q : UInt8} {lo k : Nat} (h : Inv' C t q lo k) (hs : k < t.length → Stop C t q lo k) : First (Stop C t q lo) lo t.length k :=
  ⟨h.1, h.2.1, h.2.2, hs⟩

/-! ### Bounds, and what follows the text -/
theorem lt_of_some {t : List UInt8} {p : Nat} {c : UInt8} (h : t[p]? = some c) : p < t.length := (List.getElem?_eq_some_iff.1 h).1

theorem Skip.bounds {t : List UInt8} {q : UInt8} {i e : Nat} (hi : i < t.length) (h : Skip t q i e) : i < e ∧ e ≤ t.length := by
  rcases h with ⟨c, k, f, r⟩ | ⟨c, k, f, r⟩
  · obtain ⟨f1, f2, f3, f4⟩ := f
    obtain ⟨r1, r2, r3, r4⟩ := r
    refine ⟨by omega, ?_⟩
    by_cases he : k < e
    · have := lt_of_some (r3 (e - 1) (by omega) (by omega)); omega
    · omega
  · obtain ⟨f1, f2, f3, f4⟩ := f
    omega

theorem Skip.last {t : List UInt8} {q : UInt8} {i e : Nat} (h : Skip t q i e) (he : e < t.length) : t[e - 1]? = some q ∨ t[e - 1]? = some 10 := by
  rcases h with ⟨c, k, f, r⟩ | ⟨c, k, f, r⟩
  · obtain ⟨f1, f2, f3, f4⟩ := f
    obtain ⟨r1, r2, r3, r4⟩ := r
    left
    have hk : k < t.length := by omega
    have ck := (f4 hk).1
    have : k < e := by
      by_cases e1 : k < e
      · exact e1
      · have e2 : e = k := by omega
        exact absurd (e2 ▸ ck.1) (r4 (by omega))
    exact r3 (e - 1) (by omega) (by omega)
  · obtain ⟨f1, f2, f3, f4⟩ := f
    have hk : k < t.length := by omega
    have := (f4 hk).1
    have e1 : e - 1 = k := by omega
    rw [e1]; exact this

theorem get_append {t u : List UInt8} {p : Nat} (h : p < t.length) : (t ++ u)[p]? = t[p]? := List.getElem?_append_left h

theorem odd_append {t u : List UInt8} {lo : Nat} : ∀ p, p ≤ t.length → oddRun (t ++ u) lo p = oddRun t lo p
  | 0, _ => rfl
  | p + 1, h => by simp only [oddRun]; rw [get_append (by omega), odd_append p (by omega)]

theorem Skip.stable {t u : List UInt8} {q : UInt8} {i e : Nat} (hi : i < t.length) (h : Skip t q i e) (he : e < t.length) : Skip (t ++ u) q i e := by
  rcases h with ⟨c, k, f, r⟩ | ⟨c, k, f, r⟩
  · obtain ⟨f1, f2, f3, f4⟩ := f
    obtain ⟨r1, r2, r3, r4⟩ := r
    have hk : k < t.length := by omega
    have ck := f4 hk
    have c2 := lt_of_some ck.1.2.2
    have i2 := lt_of_some c.2.2
    left
    refine ⟨⟨by rw [get_append hi]; exact c.1, by rw [get_append (by omega)]; exact c.2.1, by rw [get_append (by omega)]; exact c.2.2⟩, k, ⟨f1, by rw [List.length_append]; omega, fun p h1 h2 s => ?_, fun _ => ?_⟩, r1, r2, fun p h1 h2 => ?_, fun h1 => ?_⟩
    · obtain ⟨⟨s1, s2, s3⟩, s4⟩ := s
      rw [get_append (by omega)] at s1 s2 s3
      rw [odd_append p (by omega)] at s4
      exact f3 p h1 h2 ⟨⟨s1, s2, s3⟩, s4⟩
    · obtain ⟨⟨s1, s2, s3⟩, s4⟩ := ck
      refine ⟨⟨?_, ?_, ?_⟩, ?_⟩
      · rw [get_append (by omega)]; exact s1
      · rw [get_append (by omega)]; exact s2
      · rw [get_append (by omega)]; exact s3
      · rw [odd_append k (by omega)]; exact s4
    · rw [get_append (by omega)]; exact r3 p h1 h2
    · rw [get_append (by omega)]; exact r4 h1
  · obtain ⟨f1, f2, f3, f4⟩ := f
    have hk : k + 1 < t.length := by omega
    have ck := f4 (by omega)
    right
    refine ⟨fun c' => c ?_, k, ⟨f1, by rw [List.length_append]; omega, fun p h1 h2 s => ?_, fun _ => ?_⟩, by rw [List.length_append]; omega⟩
    · -- a trio at i in the longer text would stop the scan at once
      obtain ⟨c1, c2, c3⟩ := c'
      have hi1 : i + 1 < t.length := by omega
      rw [get_append hi] at c1
      rw [get_append hi1] at c2
      have st : Stop (Cl1 t q) t q (i + 1) (i + 1) := ⟨Or.inl c2, fun _ => oddRun_lo t (i + 1)⟩
      have hk1 : k = i + 1 := by
        by_cases e1 : i + 1 < k
        · exact absurd st (f3 (i + 1) (Nat.le_refl _) e1)
        · omega
      rw [get_append (by omega)] at c3
      exact ⟨c1, c2, c3⟩
    · obtain ⟨s1, s4⟩ := s
      unfold Cl1 at s1
      rw [get_append (by omega)] at s1
      rw [odd_append p (by omega)] at s4
      exact f3 p h1 h2 ⟨s1, s4⟩
    · obtain ⟨s1, s4⟩ := ck
      refine ⟨?_, ?_⟩
      · unfold Cl1 at s1 ⊢; rw [get_append (by omega)]; exact s1
      · rw [odd_append k (by omega)]; exact s4

end Go.Proofs.Qxb6600556a.Pl
