import Derived.Test.Qxb6600556aProg
import Derived.Test.Qxb6600556aPlain
import Derived.Test.Qxb6600556aShelf
import Derived.WalkKit
import Derived.ProofKit
import Derived.WalkSpells
import Derived.WalkLawsBesides
import Derived.Deep.QuietTactic
import Derived.BigQuiet
import Derived.RegionTactic
import Derived.Deep.RegionWith
namespace Go.Proofs.Qxb6600556a
open Go.RowKit
set_option linter.unusedVariables false

/-- The scanner at block b: its text, its place. -/
def Scan (b : Nat) (t : ByteArray) (j : Nat) (w : World) : Prop := w.cell? ⟨b, 0, none⟩ = some (.string t) ∧ w.cell? ⟨b, 1, none⟩ = some (.int .i64 (j : Int)) ∧ w.frozen? ⟨b, 1, none⟩ = false

set_option maxHeartbeats 400000 in
theorem esc_lit (b : Nat) (t : ByteArray) (j : Nat) (w : World) (h : Scan b t j w) :
    Calls Try.prog 24 #[.pointer (some ⟨b, 0, none⟩), .string ⟨#[39]⟩] w fun e w' => e = .returned (.int .i64 1) ∧ ∃ n, w' = w.drewN n := by
  obtain ⟨h0, h1, h2⟩ := h
  go_enter Try.func24, Try.ntmps24
  go_wp2
  go_quiet (fail)
  go_wp2
  go_ret
  exact ⟨rfl, _, rfl⟩

set_option maxHeartbeats 400000 in
theorem esc_two (b : Nat) (t : ByteArray) (j : Nat) (w : World) (h : Scan b t j w) (hj : j + 1 < t.size) (hb : t[j] = 92) (hs : t.size ≤ 4194304) :
    Calls Try.prog 24 #[.pointer (some ⟨b, 0, none⟩), .string ⟨#[34]⟩] w fun e w' => e = .returned (.int .i64 2) ∧ ∃ n, w' = w.drewN n := by
  obtain ⟨h0, h1, h2⟩ := h
  have hj1 : (j : Int) + 1 < (t.size : Int) := by omega
  have hj2 : j < t.size := by omega
  go_enter Try.func24, Try.ntmps24
  go_wp2
  go_quiet (fail)
  go_wp2
  go_ret
  exact ⟨rfl, _, rfl⟩

set_option maxHeartbeats 400000 in
theorem esc_other (b : Nat) (t : ByteArray) (j : Nat) (w : World) (h : Scan b t j w) (hj : j < t.size) (hb : t[j] ≠ 92) (hs : t.size ≤ 4194304) :
    Calls Try.prog 24 #[.pointer (some ⟨b, 0, none⟩), .string ⟨#[34]⟩] w fun e w' => e = .returned (.int .i64 1) ∧ ∃ n, w' = w.drewN n := by
  obtain ⟨h0, h1, h2⟩ := h
  have hc : ((t[j].toNat : Int) == 92) = false := beq_eq_false_iff_ne.2 (fun e => hb (UInt8.toNat_inj.1 (by have : (92 : UInt8).toNat = 92 := rfl; omega)))
  have hj1 : (j : Int) < (t.size : Int) := by omega
  go_enter Try.func24, Try.ntmps24
  go_wp2
  go_quiet (fail)
  go_wp2
  go_ret
  exact ⟨rfl, _, rfl⟩

set_option maxHeartbeats 400000 in
theorem esc_end (b : Nat) (t : ByteArray) (j : Nat) (w : World) (h : Scan b t j w) (hj : j < t.size) (hj1 : ¬ j + 1 < t.size) (hb : t[j] = 92) (hs : t.size ≤ 4194304) :
    Calls Try.prog 24 #[.pointer (some ⟨b, 0, none⟩), .string ⟨#[34]⟩] w fun e w' => e = .returned (.int .i64 1) ∧ ∃ n, w' = w.drewN n := by
  obtain ⟨h0, h1, h2⟩ := h
  have hj3 : (j : Int) < (t.size : Int) := by omega
  have hj2 : decide ((j : Int) + 1 < (t.size : Int)) = false := by simp; omega
  clear hj1
  go_enter Try.func24, Try.ntmps24
  go_wp2
  go_quiet (fail)
  go_wp2
  go_ret
  exact ⟨rfl, _, rfl⟩

/-- Two for an escape in a basic string, else one. -/
def escN (t : ByteArray) (q : UInt8) (j : Nat) : Nat := if q = 34 ∧ t.data.toList[j]? = some 92 ∧ j + 1 < t.size then 2 else 1

theorem get_list (t : ByteArray) (j : Nat) (h : j < t.size) : t.data.toList[j]? = some t[j] := by
  have hl : t.data.toList.length = t.size := by simp
  rw [List.getElem?_eq_getElem (by rw [hl]; exact h)]
  rfl

theorem esc_any (b : Nat) (t : ByteArray) (q : UInt8) (hq : q = 34 ∨ q = 39) (j : Nat) (w : World) (h : Scan b t j w) (hj : j < t.size) (hs : t.size ≤ 4194304) :
    Calls Try.prog 24 #[.pointer (some ⟨b, 0, none⟩), .string ⟨#[q]⟩] w fun e w' => e = .returned (.int .i64 (escN t q j : Int)) ∧ ∃ n, w' = w.drewN n := by
  have hg := get_list t j hj
  rcases hq with rfl | rfl
  · by_cases hb : t[j] = 92
    · by_cases hj1 : j + 1 < t.size
      · have e : escN t 34 j = 2 := by unfold escN; rw [if_pos ⟨rfl, by rw [hg, hb], hj1⟩]
        rw [e]
        exact esc_two b t j w h hj1 hb hs
      · have e : escN t 34 j = 1 := by unfold escN; rw [if_neg (fun x => hj1 x.2.2)]
        rw [e]
        exact esc_end b t j w h hj hj1 hb hs
    · have e : escN t 34 j = 1 := by unfold escN; rw [if_neg (fun x => hb (by have := x.2.1; rw [hg] at this; exact Option.some.inj this))]
      rw [e]
      exact esc_other b t j w h hj hb hs
  · have e : escN t 39 j = 1 := by unfold escN; rw [if_neg (fun x => absurd x.1 (by decide))]
    rw [e]
    exact esc_lit b t j w h

end Go.Proofs.Qxb6600556a
