import Derived.Test.Qxb6600556aPlain
/-
  THE PLAIN MATHEMATICS of a string that was written in one of the four forms. No Go in sight.
-/
namespace Go.Proofs.Qxb6600556a.Pl

/-- How one byte of the content is written in form f. -/
def escB (f : Nat) (c : UInt8) : List UInt8 :=
  if f = 0 ∨ f = 2 then (if c = 34 ∨ c = 92 then [92, c] else if c = 10 ∧ f = 0 then [92, 110] else [c]) else [c]

def escL (f : Nat) : List UInt8 → List UInt8
  | [] => []
  | c :: l => escB f c ++ escL f l

theorem escL_append (f : Nat) : ∀ a b, escL f (a ++ b) = escL f a ++ escL f b
  | [], b => rfl
  | c :: a, b => by simp only [List.cons_append, escL, escL_append f a b, List.append_assoc]

theorem escB_length (f : Nat) (c : UInt8) : (escB f c).length ≤ 2 := by
  unfold escB
  split
  · split
    · simp
    · split <;> simp
  · simp

theorem escL_length (f : Nat) : ∀ l, (escL f l).length ≤ 2 * l.length
  | [] => by simp [escL]
  | c :: l => by have := escL_length f l; have := escB_length f c; simp only [escL, List.length_append, List.length_cons]; omega

theorem escL_lit (f : Nat) (hf : f = 1 ∨ f = 3) : ∀ l, escL f l = l
  | [] => rfl
  | c :: l => by
    have hn : ¬ (f = 0 ∨ f = 2) := by omega
    simp only [escL, escL_lit f hf l, escB, if_neg hn]; rfl

/-- The whole text. -/
def wrote (P : List UInt8) (q : UInt8) (m : Nat) (C R : List UInt8) : List UInt8 := P ++ (List.replicate m q ++ (C ++ (List.replicate m q ++ R)))

theorem gd {t : List UInt8} {k : Nat} {a : UInt8} {s : List UInt8} (h : t.drop k = a :: s) : t[k]? = some a := by
  have : (t.drop k)[0]? = t[k + 0]? := List.getElem?_drop
  rw [h, Nat.add_zero] at this
  exact this.symm

theorem gn {t : List UInt8} {k : Nat} (h : t.drop k = []) : t[k]? = none := by
  have : (t.drop k)[0]? = t[k + 0]? := List.getElem?_drop
  rw [h, Nat.add_zero] at this
  exact this.symm

theorem dd {t : List UInt8} {k : Nat} {l s : List UInt8} (h : t.drop k = l ++ s) : t.drop (k + l.length) = s := by
  rw [← List.drop_drop, h, List.drop_left]

theorem d1 {t : List UInt8} {k : Nat} {a : UInt8} {s : List UInt8} (h : t.drop k = a :: s) : t.drop (k + 1) = s := dd (l := [a]) h

/-- The scan goes over what was written in a basic string. -/
theorem scan_basic {C : Nat → Prop} {t : List UInt8} {lo f : Nat} (hf : f = 0 ∨ f = 2) (tail : List UInt8) (ht : tail ≠ [])
    (hC : ∀ p c, t[p]? = some c → c ≠ 34 → (f = 0 → c ≠ 10) → ¬ C p) :
    ∀ (rem : List UInt8) (k : Nat), t.drop k = escL f rem ++ tail → Inv C t 34 lo k → Inv C t 34 lo (k + (escL f rem).length)
  | [], k, _, h => h
  | c :: rem, k, hd, h => by
    have hd' : t.drop k = escB f c ++ (escL f rem ++ tail) := by rw [hd]; simp only [escL, List.append_assoc]
    have step : Inv C t 34 lo (k + (escB f c).length) := by
      unfold escB at hd' ⊢
      rw [if_pos hf] at hd' ⊢
      by_cases h1 : c = 34 ∨ c = 92
      · rw [if_pos h1] at hd' ⊢
        have g0 := gd hd'
        have g1 := gd (d1 hd')
        exact h.two (hC k 92 g0 (by decide) (fun _ => by decide)) rfl g0 (lt_of_some g1)
      · rw [if_neg h1] at hd' ⊢
        by_cases h2 : c = 10 ∧ f = 0
        · rw [if_pos h2] at hd' ⊢
          have g0 := gd hd'
          have g1 := gd (d1 hd')
          exact h.two (hC k 92 g0 (by decide) (fun _ => by decide)) rfl g0 (lt_of_some g1)
        · rw [if_neg h2] at hd' ⊢
          have g0 := gd hd'
          refine h.one (hC k c g0 (fun e => h1 (Or.inl e)) (fun e e2 => h2 ⟨e2, e⟩)) (lt_of_some g0) (fun _ e => ?_)
          rw [g0] at e
          exact absurd (Or.inr (Option.some.inj e)) h1
    have := scan_basic hf tail ht hC rem (k + (escB f c).length) (dd hd') step
    simp only [escL, List.length_append]
    rwa [Nat.add_assoc] at this

/-- The scan goes over what was written in a literal string. -/
theorem scan_lit {C : Nat → Prop} {t : List UInt8} {lo : Nat} (tail : List UInt8) :
    ∀ (rem : List UInt8) (k : Nat), (∀ p, k ≤ p → p < k + rem.length → ¬ C p) → t.drop k = rem ++ tail → Inv C t 39 lo k → Inv C t 39 lo (k + rem.length)
  | [], k, _, _, h => h
  | c :: rem, k, hC, hd, h => by
    have g0 := gd (s := rem ++ tail) hd
    have step : Inv C t 39 lo (k + 1) := h.one (hC k (Nat.le_refl _) (by simp)) (lt_of_some g0) (fun e => absurd e (by decide))
    have := scan_lit tail rem (k + 1) (fun p h1 h2 => hC p (by omega) (by simp; omega)) (d1 hd) step
    rwa [show k + (c :: rem).length = k + 1 + rem.length by simp; omega]

/-- What follows does not open with the quote. -/
def NoOpen (q : UInt8) (R : List UInt8) : Prop := R.head? ≠ some q

theorem noOpen_at {t R : List UInt8} {k : Nat} {q : UInt8} (h : t.drop k = R) (hR : NoOpen q R) : t[k]? ≠ some q := by
  cases R with
  | nil => rw [gn h]; exact fun e => by cases e
  | cons a R => rw [gd h]; exact hR

theorem wrote_drop (P : List UInt8) (q : UInt8) (m : Nat) (C R : List UInt8) : (wrote P q m C R).drop P.length = List.replicate m q ++ (C ++ (List.replicate m q ++ R)) := by
  unfold wrote; rw [List.drop_left]

theorem wrote_length (P : List UInt8) (q : UInt8) (m : Nat) (C R : List UInt8) : (wrote P q m C R).length = P.length + m + C.length + m + R.length := by
  unfold wrote; simp only [List.length_append, List.length_replicate]; omega

/-- On one line, with one mark. -/
theorem one_line {t P C R : List UInt8} {q : UInt8} (ht : t = wrote P q 1 C R) (hopen : ¬ Cl3 t q P.length)
    (hinv : Inv (Cl1 t q) t q (P.length + 1) (P.length + 1 + C.length)) : Skip t q P.length (P.length + 1 + C.length + 1) := by
  have hd : t.drop P.length = [q] ++ (C ++ (q :: R)) := by rw [ht, wrote_drop]; rfl
  have d2 := dd hd
  have d3 := dd d2
  have hl : t.length = P.length + 1 + C.length + 1 + R.length := by rw [ht, wrote_length]
  have gq := gd d3
  simp only [List.length_cons, List.length_nil] at gq
  refine Or.inr ⟨hopen, P.length + 1 + C.length, hinv.stop (fun _ => Or.inl gq), by omega⟩

theorem skip_form0 (P content R : List UInt8) (h : content = [] → NoOpen 34 R) : Skip (wrote P 34 1 (escL 0 content) R) 34 P.length (P.length + 1 + (escL 0 content).length + 1) := by
  have hd : (wrote P 34 1 (escL 0 content) R).drop P.length = [34] ++ (escL 0 content ++ (34 :: R)) := by rw [wrote_drop]; rfl
  have hl := wrote_length P 34 1 (escL 0 content) R
  refine one_line rfl ?_ ?_
  · generalize wrote P 34 1 (escL 0 content) R = t at *
    rintro ⟨_, c1, c2⟩
    have d2 : t.drop (P.length + 1) = escL 0 content ++ (34 :: R) := dd hd
    cases content with
    | nil =>
      have d3 : t.drop (P.length + 1 + 1) = R := d1 d2
      exact noOpen_at d3 (h rfl) c2
    | cons c rem =>
      have hne : ∃ a s, escB 0 c = a :: s ∧ a ≠ 34 := by
        unfold escB
        rw [if_pos (Or.inl rfl)]
        by_cases h1 : c = 34 ∨ c = 92
        · rw [if_pos h1]; exact ⟨92, [c], rfl, by decide⟩
        · rw [if_neg h1]
          by_cases h2 : c = 10 ∧ (0 : Nat) = 0
          · rw [if_pos h2]; exact ⟨92, [110], rfl, by decide⟩
          · rw [if_neg h2]; exact ⟨c, [], rfl, fun e => h1 (Or.inl e)⟩
      obtain ⟨a, s, ea, ha⟩ := hne
      have d3 : t.drop (P.length + 1) = a :: (s ++ (escL 0 rem ++ (34 :: R))) := by rw [d2]; simp only [escL, ea, List.cons_append, List.append_assoc]
      rw [gd d3] at c1
      exact ha (Option.some.inj c1)
  · generalize wrote P 34 1 (escL 0 content) R = t at *
    refine scan_basic (f := 0) (Or.inl rfl) (34 :: R) (by simp) (fun p c hp h1 h2 hc => ?_) content (P.length + 1) (dd hd) (Inv.start (by omega))
    rcases hc with e | e
    · rw [hp] at e; exact h1 (Option.some.inj e)
    · rw [hp] at e; exact h2 rfl (Option.some.inj e)

theorem skip_form1 (P content R : List UInt8) (h : content = [] → NoOpen 39 R) (h39 : ¬ 39 ∈ content) (h10 : ¬ 10 ∈ content) :
    Skip (wrote P 39 1 (escL 1 content) R) 39 P.length (P.length + 1 + (escL 1 content).length + 1) := by
  rw [escL_lit 1 (Or.inl rfl)]
  have hd : (wrote P 39 1 content R).drop P.length = [39] ++ (content ++ (39 :: R)) := by rw [wrote_drop]; rfl
  have hl := wrote_length P 39 1 content R
  refine one_line rfl ?_ ?_
  · generalize wrote P 39 1 content R = t at *
    rintro ⟨_, c1, c2⟩
    have d2 : t.drop (P.length + 1) = content ++ (39 :: R) := dd hd
    cases content with
    | nil =>
      have d3 : t.drop (P.length + 1 + 1) = R := d1 d2
      exact noOpen_at d3 (h rfl) c2
    | cons c rem =>
      rw [gd d2] at c1
      exact h39 (by rw [Option.some.inj c1]; simp)
  · generalize wrote P 39 1 content R = t at *
    have d2 : t.drop (P.length + 1) = content ++ (39 :: R) := dd hd
    refine scan_lit (39 :: R) content (P.length + 1) (fun p h1 h2 hc => ?_) d2 (Inv.start (by omega))
    have hp : t[p]? = content[p - (P.length + 1)]? := by
      have e : (t.drop (P.length + 1))[p - (P.length + 1)]? = t[P.length + 1 + (p - (P.length + 1))]? := List.getElem?_drop
      rw [show P.length + 1 + (p - (P.length + 1)) = p by omega] at e
      rw [← e, d2, List.getElem?_append_left (by omega)]
    rcases hc with e | e
    · rw [hp] at e; exact h39 (List.mem_of_getElem? e)
    · rw [hp] at e; exact h10 (List.mem_of_getElem? e)

theorem skip_form2 (P content R : List UInt8) (h : NoOpen 34 R) : Skip (wrote P 34 3 (escL 2 content) R) 34 P.length (P.length + 3 + (escL 2 content).length + 3) := by
  have hd : (wrote P 34 3 (escL 2 content) R).drop P.length = [34, 34, 34] ++ (escL 2 content ++ ([34, 34, 34] ++ R)) := by rw [wrote_drop]; rfl
  have hl := wrote_length P 34 3 (escL 2 content) R
  generalize wrote P 34 3 (escL 2 content) R = t at *
  have d2 : t.drop (P.length + 3) = escL 2 content ++ ([34, 34, 34] ++ R) := dd hd
  have d3 : t.drop (P.length + 3 + (escL 2 content).length) = [34, 34, 34] ++ R := dd d2
  have g0 := gd d3
  have g1 := gd (d1 d3)
  have g2 := gd (d1 (d1 d3))
  have d6 : t.drop (P.length + 3 + (escL 2 content).length + 3) = R := dd d3
  have hinv : Inv (Cl3 t 34) t 34 (P.length + 3) (P.length + 3 + (escL 2 content).length) :=
    scan_basic (f := 2) (Or.inr rfl) ([34, 34, 34] ++ R) (by simp) (fun p c hp h1 _ hc => by have := hc.1; rw [hp] at this; exact h1 (Option.some.inj this)) content (P.length + 3) d2 (Inv.start (by omega))
  generalize P.length + 3 + (escL 2 content).length = k at *
  refine Or.inl ⟨⟨gd hd, gd (d1 hd), gd (d1 (d1 hd))⟩, k, hinv.stop (fun _ => ⟨g0, g1, g2⟩), by omega, by omega, fun p h1 h2 => ?_, fun _ => noOpen_at d6 h⟩
  have : p = k ∨ p = k + 1 ∨ p = k + 2 := by omega
  rcases this with rfl | rfl | rfl
  · exact g0
  · exact g1
  · exact g2

/-- No three quotes in a row. -/
def NoTriple (l : List UInt8) : Prop := ∀ k : Nat, ¬ (l[k]? = some 39 ∧ l[k + 1]? = some 39 ∧ l[k + 2]? = some 39)

/-- The quotes at the content's end. -/
theorem split_tail : ∀ (l : List UInt8), NoTriple l → ∃ body r, l = body ++ List.replicate r 39 ∧ r ≤ 2 ∧ body.getLast? ≠ some 39 := by
  intro l h
  have last : ∀ (b : List UInt8), b.getLast? ≠ some 39 ∨ ∃ b', b = b' ++ [39] := by
    intro b
    by_cases e : b.getLast? = some 39
    · right
      obtain ⟨hne, he⟩ := List.getLast?_eq_some_iff.1 e
      exact ⟨hne, he⟩
    · exact Or.inl e
  rcases last l with h1 | ⟨b1, rfl⟩
  · exact ⟨l, 0, by simp, by omega, h1⟩
  · rcases last b1 with h2 | ⟨b2, rfl⟩
    · exact ⟨b1, 1, rfl, by omega, h2⟩
    · rcases last b2 with h3 | ⟨b3, rfl⟩
      · exact ⟨b2, 2, by simp, by omega, h3⟩
      · exfalso
        have hh : (b3 ++ [39] ++ [39] ++ [39]).drop b3.length = [39, 39, 39] := by simp
        exact h b3.length ⟨gd hh, gd (d1 hh), gd (d1 (d1 hh))⟩

theorem skip_form3 (P content R : List UInt8) (h : NoOpen 39 R) (h3 : NoTriple content) :
    Skip (wrote P 39 3 (escL 3 content) R) 39 P.length (P.length + 3 + (escL 3 content).length + 3) := by
  rw [escL_lit 3 (Or.inr rfl)]
  obtain ⟨body, r, hcb, hr, hb⟩ := split_tail content h3
  have hd : (wrote P 39 3 content R).drop P.length = [39, 39, 39] ++ (body ++ (List.replicate (r + 3) 39 ++ R)) := by
    rw [wrote_drop, hcb, ← List.replicate_append_replicate]
    simp only [List.append_assoc]
    rfl
  have hl := wrote_length P 39 3 content R
  have hcl : content.length = body.length + r := by rw [hcb]; simp
  generalize wrote P 39 3 content R = t at *
  have d2 : t.drop (P.length + 3) = body ++ (List.replicate (r + 3) 39 ++ R) := dd hd
  have d3 : t.drop (P.length + 3 + body.length) = List.replicate (r + 3) 39 ++ R := dd d2
  have d6 : t.drop (P.length + 3 + body.length + (r + 3)) = R := by
    have := dd d3; rwa [List.length_replicate] at this
  have gb : ∀ j, j < body.length → t[P.length + 3 + j]? = body[j]? := fun j hj => by
    have e : (t.drop (P.length + 3))[j]? = t[P.length + 3 + j]? := List.getElem?_drop
    rw [← e, d2, List.getElem?_append_left hj]
  have gc : ∀ j, j < content.length → t[P.length + 3 + j]? = content[j]? := fun j hj => by
    have d2' : t.drop (P.length + 3) = content ++ ([39, 39, 39] ++ R) := by
      rw [d2, hcb, List.append_assoc, ← List.replicate_append_replicate, List.append_assoc]
      rfl
    have e : (t.drop (P.length + 3))[j]? = t[P.length + 3 + j]? := List.getElem?_drop
    rw [← e, d2', List.getElem?_append_left hj]
  have gq : ∀ j, j < r + 3 → t[P.length + 3 + body.length + j]? = some 39 := fun j hj => by
    have e : (t.drop (P.length + 3 + body.length))[j]? = t[P.length + 3 + body.length + j]? := List.getElem?_drop
    rw [← e, d3, List.getElem?_append_left (by simpa using hj)]
    rw [List.getElem?_replicate, if_pos hj]
  have hinv : Inv (Cl3 t 39) t 39 (P.length + 3) (P.length + 3 + body.length) := by
    refine scan_lit (List.replicate (r + 3) 39 ++ R) body (P.length + 3) (fun p h1 h2 hc => ?_) d2 (Inv.start (by omega))
    obtain ⟨c0, c1, c2⟩ := hc
    obtain ⟨j, rfl⟩ : ∃ j, p = P.length + 3 + j := ⟨p - (P.length + 3), by omega⟩
    have hj : j < body.length := by omega
    by_cases e2 : j + 2 < content.length
    · rw [gc j (by omega)] at c0
      rw [show P.length + 3 + j + 1 = P.length + 3 + (j + 1) by omega, gc (j + 1) (by omega)] at c1
      rw [show P.length + 3 + j + 2 = P.length + 3 + (j + 2) by omega, gc (j + 2) e2] at c2
      exact h3 j ⟨c0, c1, c2⟩
    · -- the body's last byte is among the three
      have hlast : body.getLast? = body[body.length - 1]? := List.getLast?_eq_getElem?
      have : body.length - 1 = j ∨ body.length - 1 = j + 1 := by omega
      rcases this with e | e
      · rw [gb j hj, ← e, ← hlast] at c0
        exact hb c0
      · rw [show P.length + 3 + j + 1 = P.length + 3 + (j + 1) by omega, gb (j + 1) (by omega), ← e, ← hlast] at c1
        exact hb c1
  have k0 := gq 0 (by omega)
  have k1 := gq 1 (by omega)
  have k2 := gq 2 (by omega)
  have ek : P.length + 3 + content.length + 3 = P.length + 3 + body.length + (r + 3) := by omega
  rw [ek]
  refine Or.inl ⟨⟨gd hd, gd (d1 hd), gd (d1 (d1 hd))⟩, P.length + 3 + body.length, hinv.stop (fun _ => ⟨k0, k1, k2⟩), by omega, by omega, fun p h1 h2 => ?_, fun _ => noOpen_at d6 h⟩
  have := gq (p - (P.length + 3 + body.length)) (by omega)
  rwa [show P.length + 3 + body.length + (p - (P.length + 3 + body.length)) = p by omega] at this

end Go.Proofs.Qxb6600556a.Pl
