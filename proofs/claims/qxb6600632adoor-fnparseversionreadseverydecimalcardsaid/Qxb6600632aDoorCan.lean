import Derived.Test.Qxb6600632aDoorDec
namespace Go.Proofs.Qxb6600632aDoor
open Go.RowKit Go.Lib
set_option linter.unusedVariables false

def ofEnd : NumEnd Nat → Option Nat
  | .ok u => some u
  | _ => none

/-- What canonicalDecimal reads. -/
def cdL : List UInt8 → Option Nat
  | [] => none
  | c :: r => if 49 ≤ c.toNat ∧ c.toNat ≤ 57 then ofEnd (Lib.parseUintM 18446744073709551615 0 (c :: r)) else none

theorem size_len (s : ByteArray) : s.size = s.data.toList.length := rfl

theorem at_list (s : ByteArray) (k : Nat) (h : k < s.size) : s[k]'h = s.data.toList[k]'(by rw [← size_len]; exact h) := by
  simp [ByteArray.getElem_eq_getElem_data]

set_option maxHeartbeats 1600000 in
set_option maxRecDepth 100000 in
theorem canonical (s : ByteArray) (hs : s.size ≤ 1048576) (w : World) :
    Calls Tryd.prog 9 #[.string s] w fun e w' => e = .returned (.tuple #[.int .u64 ((cdL s.data.toList).getD 0 : Nat), .bool (cdL s.data.toList).isSome]) ∧ w' = w := by
  have hs2 : (s.size : Int) ≤ 1048576 := by omega
  cases hl : s.data.toList with
  | nil =>
    obtain rfl : s = ByteArray.empty := by
      have h2 : s.data = #[] := by rw [← Array.toList_eq_nil_iff]; exact hl
      cases s; cases h2; rfl
    clear hl
    go_enter Tryd.func9, Tryd.ntmps9
    go_wp2
    go_ret2
    exact ⟨rfl, rfl⟩
  | cons c r =>
    have hsz : s.size = r.length + 1 := by rw [size_len, hl]; rfl
    have hp : 0 < s.size := by omega
    have hne : ¬ s = ByteArray.empty := fun e => by rw [e] at hp; simp at hp
    have hp2 : (0 : Int) < (s.size : Int) := by omega
    have hz : ((s.size : Int) == 0) = false := by rw [beq_eq_false_iff_ne]; omega
    have e0 : s[0]'hp = c := by rw [at_list]; simp [hl]
    clear hsz
    by_cases h1 : 49 ≤ c.toNat
    · have h1' : (49 : Int) ≤ (c.toNat : Int) := by omega
      by_cases h2 : c.toNat ≤ 57
      · have h2' : (c.toNat : Int) ≤ 57 := by omega
        have ecd : cdL (c :: r) = ofEnd (Lib.parseUintM 18446744073709551615 0 s.data.toList) := by
          simp only [cdL]
          rw [if_pos ⟨h1, h2⟩, hl]
        rw [ecd]
        clear ecd hl
        go_enter Tryd.func9, Tryd.ntmps9
        go_wp2
        clear hz e0 h1 h1' h2 h2' hne hp hp2
        go_loop [5, 6] (fun nv iv => ∃ (k acc : Nat), iv = .int .i64 (k : Int) ∧ k ≤ s.size ∧ nv = .int .u64 (acc : Int) ∧ acc < 18446744073709551616 ∧ Hid (Lib.parseUintM 18446744073709551615 0 s.data.toList = Lib.parseUintM 18446744073709551615 acc (s.data.toList.drop k))) (fun _ iv => s.size - (RowKit.intOf iv).toNat)
        case atStart => exact ⟨0, 0, rfl, by omega, rfl, by omega, rfl⟩
        case round =>
          obtain ⟨k, acc, rfl, hk, rfl, hacc, heq⟩ := hrel
          by_cases hlt : k < s.size
          · have hlt2 : (k : Int) < (s.size : Int) := by omega
            have hll : k < s.data.toList.length := by rw [← size_len]; exact hlt
            have e1 := at_list s k hlt
            have e2 := List.drop_eq_getElem_cons hll
            have heq' := heq.out
            rw [e2] at heq'
            generalize s.data.toList[k] = d at e1 heq'
            clear e2
            rw [Lib.parseUintM] at heq'
            by_cases d1 : 48 ≤ d.toNat
            · have d1' : (48 : Int) ≤ (d.toNat : Int) := by omega
              by_cases d2 : d.toNat ≤ 57
              · have d2' : (d.toNat : Int) ≤ 57 := by omega
                rw [if_pos ⟨d1, d2⟩] at heq'
                have w1 : IntKind.u8.wrap ((d.toNat : Int) - 48) = (d.toNat : Int) - 48 := by rw [IntKind.wrap_u8]; omega
                have w2 : IntKind.u64.wrap ((d.toNat : Int) - 48) = (d.toNat : Int) - 48 := by rw [IntKind.wrap_u64]; omega
                have w3 : IntKind.u64.wrap (18446744073709551615 - ((d.toNat : Int) - 48)) = 18446744073709551615 - ((d.toNat : Int) - 48) := by rw [IntKind.wrap_u64]; omega
                by_cases g : acc * 10 + (d.toNat - 48) ≤ 18446744073709551615
                · have g' : (acc : Int) ≤ (18446744073709551615 - ((d.toNat : Int) - 48)) / 10 := by omega
                  rw [if_neg (by omega), if_neg (by omega)] at heq'
                  have HE := Lib.hid heq'
                  clear heq'
                  go_wp2
                  exact ⟨⟨k + 1, acc * 10 + (d.toNat - 48), by go_num, by omega, by congr 1; omega, by omega, HE.out⟩, by simp [RowKit.intOf]; omega⟩
                · have g' : (18446744073709551615 - ((d.toNat : Int) - 48)) / 10 < (acc : Int) := by omega
                  have hr : Lib.parseUintM 18446744073709551615 0 s.data.toList = .range := by
                    rw [heq']
                    split
                    · rfl
                    · rw [if_pos (by omega)]
                  have HR := Lib.hid hr
                  clear heq' hr
                  go_wp2
                  go_ret2
                  rw [HR.out]
                  exact ⟨rfl, rfl⟩
              · have d2' : (57 : Int) < (d.toNat : Int) := by omega
                rw [if_neg (by omega)] at heq'
                have HR := Lib.hid heq'
                clear heq'
                go_wp2
                go_ret2
                rw [HR.out]
                exact ⟨rfl, rfl⟩
            · have d1' : (d.toNat : Int) < 48 := by omega
              rw [if_neg (by omega)] at heq'
              have HR := Lib.hid heq'
              clear heq'
              go_wp2
              go_ret2
              rw [HR.out]
              exact ⟨rfl, rfl⟩
          · have hlt2 : (s.size : Int) ≤ (k : Int) := by omega
            have heq' := heq.out
            rw [List.drop_eq_nil_of_le (by rw [← size_len]; omega)] at heq'
            have HR := Lib.hid heq'
            clear heq'
            go_wp2
            go_ret2
            rw [HR.out]
            exact ⟨rfl, rfl⟩
      · have h2' : (57 : Int) < (c.toNat : Int) := by omega
        have ecd : cdL (c :: r) = none := by
          simp only [cdL]
          rw [if_neg (by omega)]
        rw [ecd]
        clear ecd
        go_enter Tryd.func9, Tryd.ntmps9
        go_wp2
        go_ret2
        exact ⟨rfl, rfl⟩
    · have h1' : (c.toNat : Int) < 49 := by omega
      have ecd : cdL (c :: r) = none := by
        simp only [cdL]
        rw [if_neg (by omega)]
      rw [ecd]
      clear ecd
      go_enter Tryd.func9, Tryd.ntmps9
      go_wp2
      go_ret2
      exact ⟨rfl, rfl⟩
end Go.Proofs.Qxb6600632aDoor
