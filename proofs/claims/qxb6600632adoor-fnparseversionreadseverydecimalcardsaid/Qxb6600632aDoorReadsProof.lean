import Derived.Test.Qxb6600632aDoorRow
import Derived.Test.Qxb6600632aDoorTie
import Derived.Test.Qxb6600632aDoorCards
import Derived.SevenTiedAt
namespace Go.Proofs.Qxb6600632aDoor.fnParseVersionReadsEveryDecimal
open Go.ChangeShapes Go.WideShapes Go.ChangeAt Go.RowKit
open Go.ChangeMaps (open_string shut_string)
set_option linter.unusedVariables false

set_option maxRecDepth 100000 in
theorem lifted (os : Os) (started : os.Started) (H : Type) (enc : TypeId × Value → H) :
    ReturnsInHanded {} Tryd.checked os 4 .any (fun w args => (Rows.fnParseVersionReadsEveryDecimalSpec.pre enc Tryd.prog Tryd.f4 [] false w args ∧ laidMetH Tryd.prog Rows.fnParseVersionExactRow.laid w) ∧ sizedMet enc Tryd.prog Tryd.f4 (OpenSpec.ofChange Rows.fnParseVersionReadsEveryDecimalSpec) false w args)
      (Rows.fnParseVersionReadsEveryDecimalSpec.post enc Tryd.prog Tryd.f4 false true false false) := by
  refine returnsInHanded_of_change_and (C := Tryd.checked) (X := fun w _ => laidMetH Tryd.prog Rows.fnParseVersionExactRow.laid w) (fun _ _ _ hh h => h.of_heap hh) own started (by kernel_rfl) Tryd.func4
    (ChangeSpec.witness_shaped (enc := enc) (C := Tryd.checked) (os := os) (X := fun w _ => laidMetH Tryd.prog Rows.fnParseVersionExactRow.laid w) false (World.doorLaid Tryd.prog 96 os) #[.int .u64 0] 8 rfl (World.shaped_of_RefB (by kernel_rfl) (by kernel_rfl)) (by kernel_rfl) (by kernel_rfl) (by kernel_rfl) (door_met os _)) ?_
  intro W base args ds gs before hval0 hW _ _ hL _
  have hval : ∀ (j : Nat) t v, Tryd.f4.params[j]? = some t → args[j]? = some v → Value.okWide Tryd.prog W .any base t v := hval0
  have hW' := hW
  obtain ⟨p, q, hA0, hV, rfl, hfz, hnd⟩ := hW
  have hA : DataW.TrodAll enc Tryd.prog W 0 (fun _ => true) true Tryd.f4.params.toList args.toList ds p := hA0
  rw [Tryd.params4] at hA hval
  obtain ⟨v0, d0, rfl, rfl, h0⟩ := trodAll_one hA
  obtain ⟨rfl, rfl⟩ := trodVars_none hV
  obtain ⟨a0, rfl, rfl, rfl, w0⟩ := open_int Tryd.underlying26 (hval 0 26 v0 rfl rfl) h0
  obtain ⟨htab, ⟨t1, p1, hsyn⟩, ⟨t2, p2, hrng⟩⟩ := of_laid hL
  clear hA0 hval0
  simp only [List.append_nil] at hW'
  have w0' : 0 ≤ a0 ∧ a0 ≤ 18446744073709551615 := by
    have h := w0
    unfold Lit.wf at h
    rw [Bool.and_eq_true, decide_eq_true_eq, decide_eq_true_eq] at h
    have e1 : IntKind.u64.min = 0 := by decide
    have e2 : IntKind.u64.max = 18446744073709551615 := by decide
    rw [e1, e2] at h
    exact h
  obtain ⟨n, rfl⟩ := Int.eq_ofNat_of_zero_le w0'.1
  refine (law_reads n (by omega) W htab t1 t2 p1 p2 hsyn hrng).mono fun e W' ⟨he, bel⟩ => ?_
  subst he
  exact ⟨_, rfl, _, _, _, [], _, [], hW', trodAll_mk1 (shut_bool Tryd.underlying4 _), trodAll_mk1 (shut_int Tryd.underlying26 w0), rfl, bel.frame _, fun h => by cases h⟩

theorem over : Rows.FnParseVersionReadsEveryDecimalSaid :=
  OpenClaim.holds_of_wide 4 Tryd.f4 rfl rfl rfl rfl rfl rfl rfl ⟨rfl, rfl, rfl, rfl, rfl⟩ rfl rfl rfl rfl rfl (by kernel_rfl) Tryd.func4 (by kernel_rfl)
    (of_decide_eq_true (by kernel_rfl)) (by unfold Func.isWrapper; first | (rw [if_pos (by decide +kernel)]; kernel_rfl) | (rw [if_neg (by decide +kernel)]; exact ⟨rfl, rfl⟩))
    (fun os started H enc _ => lifted os started H enc)

/-- ████ THE STATEMENT: the tied card ████ -/
theorem proved : Rows.FnParseVersionReadsEveryDecimalCardSaid :=
  Claim7.holds_tied_plain_at .later [] [.data, .data, .data, .sentinel, .sentinel] true Rows.fnParseVersionReadsEveryDecimalCard.stood.harness true
    over (fun _ h => by cases h) (by kernel_rfl) (fun _ h => by cases h) fnParseVersionReadsEveryDecimal_row_tie rfl ⟨rfl, rfl⟩ (by kernel_rfl) rfl
    (fun f fn hf hfn => by
      obtain rfl : f = 4 := Option.some.inj ((show Tryd.prog.funcNamed Rows.fnParseVersionReadsEveryDecimalRow.func = some 4 by kernel_rfl).symm.trans hf) |>.symm
      obtain rfl : fn = Tryd.f4 := (Option.some.inj (Tryd.func4.symm.trans hfn)).symm
      exact ⟨by kernel_rfl, fun j t ht => by
        rw [Tryd.params4] at ht
        have h3 : t = 26 := by
          rcases j with _ | j
          · simpa using ht.symm
          · simp at ht
        subst h3
        exact (show Tryd.prog.wantsStandIn 26 = false by kernel_rfl)⟩)
    (by kernel_rfl)
end Go.Proofs.Qxb6600632aDoor.fnParseVersionReadsEveryDecimal
