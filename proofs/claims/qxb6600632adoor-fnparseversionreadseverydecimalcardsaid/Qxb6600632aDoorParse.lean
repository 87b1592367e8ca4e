import Derived.Test.Qxb6600632aDoorFmt
namespace Go.Proofs.Qxb6600632aDoor
open Go.RowKit Go.Sort Go.Lib
set_option linter.unusedVariables false

/-- The number that the bytes spell, if parseVersion takes them. -/
def pv (s : ByteArray) : Option Nat :=
  match Lib.parseUintB 64 s.data.toList with
  | .ok u => if u = 0 ∨ (⟨(Lib.decDigits u).toArray⟩ : ByteArray) ≠ s then none else some u
  | _ => none

theorem parseUintM_le {M : Nat} : ∀ (l : List UInt8) (acc u : Nat), acc ≤ M → Lib.parseUintM M acc l = .ok u → u ≤ M
  | [], acc, u, h, e => by simp only [Lib.parseUintM, NumEnd.ok.injEq] at e; omega
  | c :: r, acc, u, h, e => by
    unfold Lib.parseUintM at e
    split at e
    · split at e
      · cases e
      · split at e
        · cases e
        · exact parseUintM_le r _ u (by omega) e
    · cases e

theorem parseUintB_lt {l : List UInt8} {u : Nat} (e : Lib.parseUintB 64 l = .ok u) : u < 18446744073709551616 := by
  unfold Lib.parseUintB at e
  split at e
  · cases e
  · have := parseUintM_le l 0 u (by omega) e
    omega

set_option maxHeartbeats 6400000 in
set_option maxRecDepth 100000 in
theorem parse_version (s : ByteArray) (hs : s.size ≤ 1048576) (w : World) (htab : Tab w) (t1 t2 : TypeId) (p1 p2 : Value)
    (hsyn : w.var? Tryd.prog "strconv.ErrSyntax" = some #[.iface t1 p1]) (hrng : w.var? Tryd.prog "strconv.ErrRange" = some #[.iface t2 p2]) :
    Calls Tryd.prog 19 #[.string s] w fun e w' => e = .returned (.tuple #[.int .u64 ((pv s).getD 0 : Nat), .bool (pv s).isSome]) ∧ Below w.heap.size w w' := by
  cases hP : Lib.parseUintB 64 s.data.toList with
  | ok u =>
    have hu := parseUintB_lt hP
    have htb := tabBelow_of_tabIs htab
    by_cases h0 : u = 0
    · subst h0
      have hpv : pv s = none := by simp [pv, hP]
      rw [hpv]
      go_enter Tryd.func19, Tryd.ntmps19
      go_wp2_with fail
      refine (Tryd.strconv_ParseUint_10_at0_ok s (by omega) 0 hP _).mono ?_
      rintro e w1 ⟨rfl, hw⟩
      have HB : Hid (Below w.heap.size w w1) := by
        rcases hw with rfl | rfl
        · exact Below.refl _ _
        · exact Lib.bytesWorld_below _ _ _
      clear hw htb
      go_wp2
      go_ret2
      exact ⟨rfl, HB.out⟩
    · have h0' : ((u : Nat) : Int) ≠ 0 := by omega
      by_cases hd : (⟨(Lib.decDigits u).toArray⟩ : ByteArray) = s
      · have hpv : pv s = some u := by simp [pv, hP, h0, hd]
        rw [hpv]
        go_enter Tryd.func19, Tryd.ntmps19
        go_wp2_with fail
        refine (Tryd.strconv_ParseUint_10_at0_ok s (by omega) u hP _).mono ?_
        rintro e w1 ⟨rfl, hw⟩
        have HB : Hid (Below w.heap.size w w1) := by
          rcases hw with rfl | rfl
          · exact Below.refl _ _
          · exact Lib.bytesWorld_below _ _ _
        clear hw
        go_wp2_with fail
        refine (format_out u hu _ (htb.on HB.out).here).mono ?_
        rintro e w2 ⟨rfl, hb2⟩
        have HB2 : Hid (Below w.heap.size w w2) := HB.out.trans (hb2.mono HB.out.size)
        rw [hd]
        clear HB hb2 htb
        go_wp2
        go_ret2
        exact ⟨rfl, HB2.out⟩
      · have hpv : pv s = none := by simp [pv, hP, h0, hd]
        rw [hpv]
        go_enter Tryd.func19, Tryd.ntmps19
        go_wp2_with fail
        refine (Tryd.strconv_ParseUint_10_at0_ok s (by omega) u hP _).mono ?_
        rintro e w1 ⟨rfl, hw⟩
        have HB : Hid (Below w.heap.size w w1) := by
          rcases hw with rfl | rfl
          · exact Below.refl _ _
          · exact Lib.bytesWorld_below _ _ _
        clear hw
        go_wp2_with fail
        refine (format_out u hu _ (htb.on HB.out).here).mono ?_
        rintro e w2 ⟨rfl, hb2⟩
        have HB2 : Hid (Below w.heap.size w w2) := HB.out.trans (hb2.mono HB.out.size)
        have hd2 : (Lib.decDigits u == s.toList) = false := by
          rw [Lib.toList_data, beq_eq_false_iff_ne]
          intro e
          exact hd (by rw [e])
        clear HB hb2 htb
        go_wp2
        go_ret2
        exact ⟨rfl, HB2.out⟩
  | range =>
    have hpv : pv s = none := by simp [pv, hP]
    rw [hpv]
    go_enter Tryd.func19, Tryd.ntmps19
    go_wp2_with fail
    refine (Any.strconv_ParseUint_10_at0_range_var Tryd.laysPu14 s (by omega) hP _ _ _ hrng).mono ?_
    rintro e w1 ⟨N, rfl, hN, hc, hb⟩
    have HB : Hid (Below w.heap.size w w1) := hb
    clear hb hc
    go_wp2
    go_ret2
    exact ⟨rfl, HB.out⟩
  | _ =>
    have hpv : pv s = none := by simp [pv, hP]
    rw [hpv]
    go_enter Tryd.func19, Tryd.ntmps19
    go_wp2_with fail
    refine (Any.strconv_ParseUint_10_at0_syntax_var Tryd.laysPu14 s (by omega) hP _ _ _ hsyn).mono ?_
    rintro e w1 ⟨N, rfl, hN, hc, hb⟩
    have HB : Hid (Below w.heap.size w w1) := hb
    clear hb hc
    go_wp2
    go_ret2
    exact ⟨rfl, HB.out⟩

set_option maxRecDepth 100000 in
theorem zz_version (s : ByteArray) (hs : s.size ≤ 1048576) (w : World) (htab : Tab w) (t1 t2 : TypeId) (p1 p2 : Value)
    (hsyn : w.var? Tryd.prog "strconv.ErrSyntax" = some #[.iface t1 p1]) (hrng : w.var? Tryd.prog "strconv.ErrRange" = some #[.iface t2 p2]) :
    Calls Tryd.prog 10 #[.string s] w fun e w' => e = .returned (.tuple #[.int .u64 ((pv s).getD 0 : Nat), .bool (pv s).isSome]) ∧ Below w.heap.size w w' := by
  go_enter Tryd.func10, Tryd.ntmps10
  go_wp2_with (go_at_call 19; refine (parse_version s hs _ htab t1 t2 p1 p2 hsyn hrng).mono ?_; rintro e w' ⟨rfl, hb⟩)
  go_ret2
  exact ⟨rfl, hb⟩
end Go.Proofs.Qxb6600632aDoor
