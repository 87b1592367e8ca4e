import Derived.Test.Qxb6600556aCalls
import Derived.Test.Qxb6600556aPlainW
import Derived.Laws.IdiomStrings
import Derived.Laws.BitsLemmas
namespace Go.Proofs.Qxb6600556a
open Go.RowKit
set_option linter.unusedVariables false

theorem i64_and3 (n : Int) : bits .and .i64 n 3 = n % 4 := by
  have h3 : (BitVec.ofInt 64 3).toNat = 2 ^ 2 - 1 := by decide
  have key : (BitVec.ofInt 64 n &&& BitVec.ofInt 64 3).toNat = (n % ((2 ^ 64 : Nat) : Int)).toNat % 2 ^ 2 := by
    rw [BitVec.toNat_and, BitVec.toNat_ofInt, h3, Nat.and_two_pow_sub_one_eq_mod]
  show IntKind.i64.wrap ((BitVec.ofInt 64 n &&& BitVec.ofInt 64 3).toNat : Nat) = n % 4
  rw [key, IntKind.wrap_i64]
  omega

theorem eq_litW {c d : UInt8} (h : c ≠ d) : ((c.toNat : Int) == (d.toNat : Int)) = false := by
  rw [beq_eq_false_iff_ne]; exact fun e => h (UInt8.toNat_inj.1 (by omega))

/-- No place before k holds c. -/
def NotYet (t : ByteArray) (c : UInt8) (k : Nat) : Prop := ∀ j, j < k → t.data.toList[j]? ≠ some c

theorem NotYet.next {t : ByteArray} {c : UInt8} {k : Nat} (h : NotYet t c k) (hk : k < t.size) (hc : t[k] ≠ c) : NotYet t c (k + 1) := fun j hj => by
  by_cases e : j < k
  · exact h j e
  · have e2 : j = k := by omega
    rw [e2, get_list t k hk]; exact fun x => hc (Option.some.inj x)

set_option maxHeartbeats 400000 in
theorem has_byte (t : ByteArray) (c : UInt8) (n : Int) (hn : n = (c.toNat : Int)) (v : Bool) (hv : v = true ↔ c ∈ t.data.toList) (w : World) (hs : t.size ≤ 4194304) :
    Calls Try.prog 12 #[.string t, .int .u8 n] w fun e w' => e = .returned (.bool v) ∧ w' = w := by
  subst hn
  have hl : t.data.toList.length = t.size := by simp
  have HV : Hid (v = true ↔ c ∈ t.data.toList) := hv
  clear hv
  go_enter Try.func12, Try.ntmps12
  go_wp2
  go_loop [5] (fun kv => ∃ k : Nat, kv = .int .i64 (k : Int) ∧ k ≤ t.size ∧ Hid (NotYet t c k)) (fun kv => t.size - (intOf kv).toNat)
  case atStart => exact ⟨0, rfl, by omega, fun j hj => absurd hj (by omega)⟩
  case round =>
    obtain ⟨k, rfl, hk, hny⟩ := hrel
    by_cases hk2 : k < t.size
    · have hk3 : (k : Int) < (t.size : Int) := by omega
      by_cases hc : t[k] = c
      · have hv : v = true := HV.out.2 (List.mem_of_getElem? (by rw [get_list t k hk2, hc]))
        have HVV : Hid (v = true) := hv
        clear hv HV hl
        go_wp2
        go_ret
        exact ⟨by rw [HVV.out]; rfl, rfl⟩
      · have hc' : ((t[k].toNat : Int) == (c.toNat : Int)) = false := eq_litW hc
        have HN : Hid (NotYet t c (k + 1)) := hny.out.next hk2 hc
        clear hc hl
        go_wp2
        exact ⟨⟨k + 1, by go_num, by omega, HN.out⟩, by simp [intOf]; omega⟩
    · have hk3 : (t.size : Int) ≤ (k : Int) := by omega
      have hv : v = false := by
        cases hv : v with
        | false => rfl
        | true =>
          obtain ⟨j, hj, hje⟩ := List.mem_iff_getElem.1 (HV.out.1 hv)
          exact absurd (by rw [List.getElem?_eq_getElem hj, hje]) (hny.out j (by omega))
      have HVV : Hid (v = false) := hv
      clear hv HV hl
      go_wp2
      go_ret
      exact ⟨by rw [HVV.out]; rfl, rfl⟩

/-- No three quotes at a place before k. -/
def NoTri (t : ByteArray) (k : Nat) : Prop := ∀ j, j < k → ¬ (t.data.toList[j]? = some 39 ∧ t.data.toList[j + 1]? = some 39 ∧ t.data.toList[j + 2]? = some 39)

theorem NoTri.next {t : ByteArray} {k : Nat} (h : NoTri t k) (hk : ¬ (t.data.toList[k]? = some 39 ∧ t.data.toList[k + 1]? = some 39 ∧ t.data.toList[k + 2]? = some 39)) : NoTri t (k + 1) := fun j hj => by
  by_cases e : j < k
  · exact h j e
  · have e2 : j = k := by omega
    rw [e2]; exact hk

theorem noTri_all {t : ByteArray} {k : Nat} (h : NoTri t k) (hk : t.size ≤ k + 2) : Pl.NoTriple t.data.toList := fun j hj => by
  have hl : t.data.toList.length = t.size := by simp
  have := Pl.lt_of_some hj.2.2
  exact h j (by omega) hj

set_option maxHeartbeats 800000 in
theorem has_triple (t : ByteArray) (v : Bool) (hv : v = true ↔ ¬ Pl.NoTriple t.data.toList) (w : World) (hs : t.size ≤ 4194304) :
    Calls Try.prog 13 #[.string t] w fun e w' => e = .returned (.bool v) ∧ w' = w := by
  have hl : t.data.toList.length = t.size := by simp
  have HV : Hid (v = true ↔ ¬ Pl.NoTriple t.data.toList) := hv
  clear hv
  go_enter Try.func13, Try.ntmps13
  go_wp2
  go_loop [3] (fun kv => ∃ k : Nat, kv = .int .i64 (k : Int) ∧ k ≤ t.size ∧ Hid (NoTri t k)) (fun kv => t.size - (intOf kv).toNat)
  case atStart => exact ⟨0, rfl, by omega, fun j hj => absurd hj (by omega)⟩
  case round =>
    obtain ⟨k, rfl, hk, hnt⟩ := hrel
    have kb : (k : Int) ≤ 4194304 := by omega
    by_cases hk2 : k + 2 < t.size
    · have hk3 : (k : Int) + 2 < (t.size : Int) := by omega
      have hk4 : (k : Int) + 1 < (t.size : Int) := by omega
      have hk5 : (k : Int) < (t.size : Int) := by omega
      have k0 : k < t.size := by omega
      have k1 : k + 1 < t.size := by omega
      by_cases ga : t[k] = 39
      · by_cases gb : t[k + 1] = 39
        · by_cases gc : t[k + 2] = 39
          · have hv : v = true := HV.out.2 (fun hn => hn k ⟨by rw [get_list t k k0, ga], by rw [get_list t (k + 1) k1, gb], by rw [get_list t (k + 2) hk2, gc]⟩)
            have HVV : Hid (v = true) := hv
            clear hv HV hl
            go_wp2
            go_ret
            exact ⟨by rw [HVV.out]; rfl, rfl⟩
          · have g' : ((t[k + 2].toNat : Int) == 39) = false := eq_litW (d := 39) gc
            have HN : Hid (NoTri t (k + 1)) := hnt.out.next (fun x => gc (by have := x.2.2; rw [get_list t (k + 2) hk2] at this; exact Option.some.inj this))
            clear gc hl
            go_wp2
            exact ⟨⟨k + 1, by go_num, by omega, HN.out⟩, by simp [intOf]; omega⟩
        · have g' : ((t[k + 1].toNat : Int) == 39) = false := eq_litW (d := 39) gb
          have HN : Hid (NoTri t (k + 1)) := hnt.out.next (fun x => gb (by have := x.2.1; rw [get_list t (k + 1) k1] at this; exact Option.some.inj this))
          clear gb hl
          go_wp2
          exact ⟨⟨k + 1, by go_num, by omega, HN.out⟩, by simp [intOf]; omega⟩
      · have g' : ((t[k].toNat : Int) == 39) = false := eq_litW (d := 39) ga
        have HN : Hid (NoTri t (k + 1)) := hnt.out.next (fun x => ga (by have := x.1; rw [get_list t k k0] at this; exact Option.some.inj this))
        clear ga hl
        go_wp2
        exact ⟨⟨k + 1, by go_num, by omega, HN.out⟩, by simp [intOf]; omega⟩
    · have hk3 : (t.size : Int) ≤ (k : Int) + 2 := by omega
      have hv : v = false := by
        cases hv : v with
        | false => rfl
        | true => exact absurd (noTri_all hnt.out (by omega)) (HV.out.1 hv)
      have HVV : Hid (v = false) := hv
      clear hv HV hl
      go_wp2
      go_ret
      exact ⟨by rw [HVV.out]; rfl, rfl⟩

/-! ### The buffer: a made slice, within its capacity -/
def bval (c : UInt8) : Value := .int .u8 (c.toNat : Int)

/-- The slice over block g, of capacity cap, holds the bytes bs. -/
def OwnB (g cap : Nat) (bs : List UInt8) (w : World) : Prop := w.ownsRow g 5 1 (.slice (some ⟨g, 0, none⟩) bs.length cap) bs.length (bs.map bval)

theorem info5 : (Try.prog.info? 5).map (fun i => (i.zero, i.size, i.bytes)) = some (some (.int .u8 0), 1, 1) := by kernel_rfl

theorem bval_one (c : UInt8) : (bval c).oneCell' = true := rfl

theorem OwnB.lt {g cap : Nat} {bs : List UInt8} {w : World} (h : OwnB g cap bs w) : g < w.heap.size := by
  obtain ⟨_, ⟨e, _⟩ | ⟨g', cap', cur, e, _, hb, _⟩⟩ := h
  · cases e
  · cases e
    exact (Array.getElem?_eq_some_iff.1 hb).1

theorem OwnB.cell {g cap : Nat} {bs : List UInt8} {w : World} (h : OwnB g cap bs w) (j : Nat) (hj : j < bs.length) : w.cell? ⟨g, j, none⟩ = some (bval bs[j]) := by
  obtain ⟨hl, ⟨e, _⟩ | ⟨g', cap', cur, e, _, hb, hn, hm, hsz, ht⟩⟩ := h
  · cases e
  · cases e
    have h1 : w.cell? ⟨g, j, none⟩ = cur[j]? := by
      unfold World.cell?
      rw [hb]
      simp
    rw [h1]
    have h2 : (cur.toList.take (bs.length * 1))[j]? = some (bval bs[j]) := by
      rw [ht, List.getElem?_map, List.getElem?_eq_getElem hj]; rfl
    rw [List.getElem?_take, if_pos (by omega)] at h2
    rw [← h2]
    simp

theorem OwnB.string {g cap : Nat} {bs : List UInt8} {w : World} (h : OwnB g cap bs w) : (convert 27 9 (.slice (some ⟨g, 0, none⟩) bs.length cap)).run Try.prog w = .ok (.string ⟨bs.toArray⟩) w :=
  run_convert_bytes_back (P := Try.prog) w 27 9 5 ⟨g, 0, none⟩ cap bs Try.underlying27 Try.underlying5 Try.underlying9 (fun j hj => by
    rw [Addr.add_lit, Nat.zero_add]
    exact h.cell j hj)

theorem wp_app1 {ops : Array Oper} {rest : List Oper} {o : Oper} {a : Act} {Q : Exit → Act → World → Prop} (w : World) (hg : o.guard = none) (s x : Operand)
    (hop : o.op = Op.call { callee := Callee.builtin Builtin.append, args := #[s, x], argTypes := #[27, 27] }) (g cap : Nat) (bs : List UInt8) (c : UInt8) (xv : Value)
    (hs : a.eval s = .slice (some ⟨g, 0, none⟩) bs.length cap) (hx : a.eval x = .slice (some ⟨w.heap.size, 0, none⟩) 1 1) (hxv : xv = bval c)
    (hown : OwnB g cap bs w) (hfit : bs.length + 1 ≤ cap)
    (hK : ∀ w', OwnB g cap (bs ++ [c]) w' → Below g w w' → wpList Try.prog ops Q rest (a.put o.dst (.slice (some ⟨g, 0, none⟩) (bs.length + 1) cap)) w') :
    wpList Try.prog ops Q (o :: rest) a (w.alloc (.cells #[xv] 5)) := by
  subst hxv
  obtain ⟨i0, hi, hz0, hz1, hz2⟩ := info_parts info5
  have hlt := hown.lt
  refine wpList_append_fits _ hg s x 27 hop g 5 i0 1 Try.underlying27 hi hz1 g bs.length cap (bs.map bval) hs (World.ownsRow.alloc hown _) ⟨w.heap.size, 0, none⟩ 1 1 [bval c] hx rfl ?_ ?_ hfit ?_
  · intro j u hj
    match j, hj with
    | 0, hj => simp at hj; subst hj; simp [Addr.add]
  · intro u hu; simp at hu; subst hu; exact bval_one c
  · intro w' hown' hgrow
    refine hK w' ?_ ?_
    · have : OwnB g cap (bs ++ [c]) w' := by
        unfold OwnB
        rw [List.length_append, List.map_append]
        exact hown'
      exact this
    · exact ((Below.refl g w).alloc (Nat.le_of_lt hlt) _).grown hgrow (by simp; omega) (fun k hk => by cases hk; exact Nat.le_refl _)

theorem wp_app2 {ops : Array Oper} {rest : List Oper} {o : Oper} {a : Act} {Q : Exit → Act → World → Prop} (w : World) (hg : o.guard = none) (s x : Operand)
    (hop : o.op = Op.call { callee := Callee.builtin Builtin.append, args := #[s, x], argTypes := #[27, 27] }) (g cap : Nat) (bs : List UInt8) (c d : UInt8) (xv yv : Value)
    (hs : a.eval s = .slice (some ⟨g, 0, none⟩) bs.length cap) (hx : a.eval x = .slice (some ⟨w.heap.size, 0, none⟩) 2 2) (hxv : xv = bval c) (hyv : yv = bval d)
    (hown : OwnB g cap bs w) (hfit : bs.length + 2 ≤ cap)
    (hK : ∀ w', OwnB g cap (bs ++ [c, d]) w' → Below g w w' → wpList Try.prog ops Q rest (a.put o.dst (.slice (some ⟨g, 0, none⟩) (bs.length + 2) cap)) w') :
    wpList Try.prog ops Q (o :: rest) a (w.alloc (.cells #[xv, yv] 5)) := by
  subst hxv hyv
  obtain ⟨i0, hi, hz0, hz1, hz2⟩ := info_parts info5
  have hlt := hown.lt
  refine wpList_append_fits _ hg s x 27 hop g 5 i0 1 Try.underlying27 hi hz1 g bs.length cap (bs.map bval) hs (World.ownsRow.alloc hown _) ⟨w.heap.size, 0, none⟩ 2 2 [bval c, bval d] hx rfl ?_ ?_ hfit ?_
  · intro j u hj
    match j, hj with
    | 0, hj => simp at hj; subst hj; simp [Addr.add]
    | 1, hj => simp at hj; subst hj; simp [Addr.add]
  · intro u hu
    simp at hu
    rcases hu with rfl | rfl <;> exact bval_one _
  · intro w' hown' hgrow
    refine hK w' ?_ ?_
    · have : OwnB g cap (bs ++ [c, d]) w' := by
        unfold OwnB
        rw [List.length_append, List.map_append]
        exact hown'
      exact this
    · exact ((Below.refl g w).alloc (Nat.le_of_lt hlt) _).grown hgrow (by simp; omega) (fun k hk => by cases hk; exact Nat.le_refl _)
end Go.Proofs.Qxb6600556a
