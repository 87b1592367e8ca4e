import Derived.Test.Qxb6600556aForms0
import Derived.Test.Qxb6600556aForms1
import Derived.Test.Qxb6600556aForms2
namespace Go.Proofs.Qxb6600556a
open Go.RowKit

theorem rest_ways (R : ByteArray) (q : UInt8) (n : Int) (hn : n = (q.toNat : Int)) : (¬ 0 < R.size ∧ Pl.NoOpen q R.data.toList) ∨ (∃ _ : 0 < R.size, ((R[0].toNat : Int) == n) = false ∧ Pl.NoOpen q R.data.toList) ∨ (∃ _ : 0 < R.size, ((R[0].toNat : Int) == n) = true) := by
  subst hn
  have hl : R.data.toList.length = R.size := by simp
  by_cases h0 : 0 < R.size
  · right
    have hg := get_list R 0 h0
    have hh : R.data.toList.head? = some R[0] := by rw [List.head?_eq_getElem?]; exact hg
    by_cases hq : R[0] = q
    · right; exact ⟨h0, by rw [hq]; simp⟩
    · left
      refine ⟨h0, eq_litW hq, ?_⟩
      unfold Pl.NoOpen
      rw [hh]
      exact fun e => hq (Option.some.inj e)
  · left
    refine ⟨h0, ?_⟩
    have : R.data.toList = [] := List.eq_nil_of_length_eq_zero (by omega)
    unfold Pl.NoOpen
    rw [this]
    exact fun e => by cases e

theorem content_ways (C : ByteArray) : (((C.size : Int) == 0) = true) ∨ (((C.size : Int) == 0) = false ∧ ∀ p : Prop, C.data.toList = [] → p) := by
  have hl : C.data.toList.length = C.size := by simp
  by_cases h : C.size = 0
  · left; rw [beq_iff_eq]; omega
  · right
    refine ⟨by rw [beq_eq_false_iff_ne]; omega, fun p e => ?_⟩
    rw [e] at hl
    exact absurd hl.symm h

theorem wr_all (P C R : ByteArray) (form : Int) (w0 : P.size ≤ maxLen) (w1 : C.size ≤ maxLen) (w3 : R.size ≤ maxLen) (w : World) :
    Calls Try.prog 4 #[.string P, .string C, .int .i64 form, .string R] w fun e w' => e = .returned (.bool true) ∧ Below w.heap.size w w' := by
  by_cases hbig : 1048576 < P.size + C.size + R.size
  · exact wr_big P C R form w0 w1 w3 w hbig
  · have hb : P.size + C.size + R.size ≤ 1048576 := by omega
    have hf : form % 4 = 0 ∨ form % 4 = 1 ∨ form % 4 = 2 ∨ form % 4 = 3 := by omega
    rcases hf with hf | hf | hf | hf
    · rcases rest_ways R 34 34 rfl with ⟨r, no⟩ | ⟨r, r0, no⟩ | ⟨r, r0⟩ <;> rcases content_ways C with c | ⟨c, cn⟩
      · exact wr_0ay P C R form w hb hf r c (fun _ => no)
      · exact wr_0an P C R form w hb hf r c (fun _ => no)
      · exact wr_0by P C R form w hb hf r r0 c (fun _ => no)
      · exact wr_0bn P C R form w hb hf r r0 c (fun _ => no)
      · exact wr_0e P C R form w hb hf r r0 c
      · exact wr_0cn P C R form w hb hf r r0 c (cn _)
    · by_cases h39 : (39 : UInt8) ∈ C.data.toList
      · rcases rest_ways R 39 39 rfl with ⟨r, no⟩ | ⟨r, r0, no⟩ | ⟨r, r0⟩
        · exact wr_1qa P C R form w hb hf r h39
        · exact wr_1qb P C R form w hb hf r r0 h39
        · exact wr_1qc P C R form w hb hf r r0 h39
      · by_cases h10 : (10 : UInt8) ∈ C.data.toList
        · rcases rest_ways R 39 39 rfl with ⟨r, no⟩ | ⟨r, r0, no⟩ | ⟨r, r0⟩
          · exact wr_1la P C R form w hb hf r h39 h10
          · exact wr_1lb P C R form w hb hf r r0 h39 h10
          · exact wr_1lc P C R form w hb hf r r0 h39 h10
        · rcases rest_ways R 39 39 rfl with ⟨r, no⟩ | ⟨r, r0, no⟩ | ⟨r, r0⟩ <;> rcases content_ways C with c | ⟨c, cn⟩
          · exact wr_1ay P C R form w hb hf r c h39 h10 (fun _ => no)
          · exact wr_1an P C R form w hb hf r c h39 h10 (fun _ => no)
          · exact wr_1by P C R form w hb hf r r0 c h39 h10 (fun _ => no)
          · exact wr_1bn P C R form w hb hf r r0 c h39 h10 (fun _ => no)
          · exact wr_1e P C R form w hb hf r r0 c h39 h10
          · exact wr_1cn P C R form w hb hf r r0 c h39 h10 (cn _)
    · rcases rest_ways R 34 34 rfl with ⟨r, no⟩ | ⟨r, r0, no⟩ | ⟨r, r0⟩
      · exact wr_2a P C R form w hb hf r no
      · exact wr_2b P C R form w hb hf r r0 no
      · exact wr_2e P C R form w hb hf r r0
    · by_cases h3 : Pl.NoTriple C.data.toList
      · rcases rest_ways R 39 39 rfl with ⟨r, no⟩ | ⟨r, r0, no⟩ | ⟨r, r0⟩
        · exact wr_3a P C R form w hb hf r h3 no
        · exact wr_3b P C R form w hb hf r r0 h3 no
        · exact wr_3e P C R form w hb hf r r0 h3
      · rcases rest_ways R 39 39 rfl with ⟨r, no⟩ | ⟨r, r0, no⟩ | ⟨r, r0⟩
        · exact wr_3ta P C R form w hb hf r h3
        · exact wr_3tb P C R form w hb hf r r0 h3
        · exact wr_3tc P C R form w hb hf r r0 h3
end Go.Proofs.Qxb6600556a
