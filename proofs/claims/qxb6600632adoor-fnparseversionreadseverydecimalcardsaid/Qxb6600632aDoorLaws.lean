import Derived.Test.Qxb6600632aDoorPlain
namespace Go.Proofs.Qxb6600632aDoor
open Go.RowKit Go.Lib
set_option linter.unusedVariables false

set_option maxRecDepth 100000 in
theorem zz_yes (s : ByteArray) (hs : s.size ≤ 1048576) (w : World) :
    Calls Tryd.prog 8 #[.string s] w fun e w' => e = .returned (.bool true) ∧ w' = w := by
  have hs2 : (s.size : Int) ≤ 1048576 := by omega
  go_enter Tryd.func8, Tryd.ntmps8
  go_wp2
  go_ret
  exact ⟨rfl, rfl⟩

set_option maxRecDepth 100000 in
theorem zz_no (s : ByteArray) (hm : s.size ≤ maxLen) (hs : 1048576 < s.size) (w : World) :
    Calls Tryd.prog 8 #[.string s] w fun e w' => e = .returned (.bool false) ∧ w' = w := by
  have hs2 : (1048576 : Int) < (s.size : Int) := by omega
  unfold maxLen at hm
  have hm2 : (s.size : Int) ≤ 9223372036854775807 := by omega
  go_enter Tryd.func8, Tryd.ntmps8
  go_wp2
  go_ret
  exact ⟨rfl, rfl⟩

set_option maxHeartbeats 1600000 in
set_option maxRecDepth 100000 in
theorem law_exact (s : ByteArray) (hm : s.size ≤ maxLen) (w : World) (htab : Tab w) (t1 t2 : TypeId) (p1 p2 : Value)
    (hsyn : w.var? Tryd.prog "strconv.ErrSyntax" = some #[.iface t1 p1]) (hrng : w.var? Tryd.prog "strconv.ErrRange" = some #[.iface t2 p2]) :
    Calls Tryd.prog 3 #[.string s] w fun e w' => e = .returned (.bool true) ∧ Below w.heap.size w w' := by
  by_cases hs : s.size ≤ 1048576
  · have hs2 : (s.size : Int) ≤ 1048576 := by omega
    have hc := canonical s hs w
    have hv := zz_version s hs w htab t1 t2 p1 p2 hsyn hrng
    rw [pv_eq] at hv
    cases hcd : cdL s.data.toList with
    | none =>
      rw [hcd] at hc hv
      clear hcd htab hsyn hrng
      go_enter Tryd.func3, Tryd.ntmps3
      go_wp2_with (first
        | (go_at_call 8; refine (zz_yes s hs _).mono ?_; rintro e w' ⟨rfl, rfl⟩)
        | (go_at_call 9; refine hc.mono ?_; rintro e w' ⟨rfl, rfl⟩)
        | (go_at_call 10; refine hv.mono ?_; rintro e w1 ⟨rfl, hb⟩))
      go_ret
      exact ⟨rfl, hb⟩
    | some u =>
      rw [hcd] at hc hv
      clear hcd htab hsyn hrng
      go_enter Tryd.func3, Tryd.ntmps3
      go_wp2_with (first
        | (go_at_call 8; refine (zz_yes s hs _).mono ?_; rintro e w' ⟨rfl, rfl⟩)
        | (go_at_call 9; refine hc.mono ?_; rintro e w' ⟨rfl, rfl⟩)
        | (go_at_call 10; refine hv.mono ?_; rintro e w1 ⟨rfl, hb⟩))
      go_ret
      exact ⟨rfl, hb⟩
  · clear htab hsyn hrng
    go_enter Tryd.func3, Tryd.ntmps3
    go_wp2_with (go_at_call 8; refine (zz_no s hm (by omega) _).mono ?_; rintro e w' ⟨rfl, rfl⟩)
    go_ret
    exact ⟨rfl, Below.refl _ _⟩

theorem gSyn : Tryd.prog.globalNamed "strconv.ErrSyntax" = some 2 := by kernel_rfl
theorem gRng : Tryd.prog.globalNamed "strconv.ErrRange" = some 3 := by kernel_rfl

theorem var_on {g : Nat} {W W' : World} {n : String} {v : Value} (h : Below W.heap.size W W') (hg : Tryd.prog.globalNamed n = some g) (hv : W.var? Tryd.prog n = some #[v]) : W'.var? Tryd.prog n = some #[v] :=
  var?_below h hg (World.block_lt_of_cell? W ⟨g, 0, none⟩ (u := v) (by have := World.var?_cell hg hv 0; simpa using this)) hv

set_option maxHeartbeats 1600000 in
set_option maxRecDepth 100000 in
theorem law_reads (n : Nat) (hn : n ≤ 18446744073709551615) (w : World) (htab : Tab w) (t1 t2 : TypeId) (p1 p2 : Value)
    (hsyn : w.var? Tryd.prog "strconv.ErrSyntax" = some #[.iface t1 p1]) (hrng : w.var? Tryd.prog "strconv.ErrRange" = some #[.iface t2 p2]) :
    Calls Tryd.prog 4 #[.int .u64 n] w fun e w' => e = .returned (.bool true) ∧ Below w.heap.size w w' := by
  have htb := tabBelow_of_tabIs htab
  have hpv := pv_dec n hn
  by_cases h0 : n = 0
  · subst h0
    rw [if_pos rfl] at hpv
    go_enter Tryd.func4, Tryd.ntmps4
    go_wp2_with fail
    refine (decimal_of 0 (by omega) _).mono ?_
    rintro e w1 ⟨rfl, hb1⟩
    have hv := zz_version ⟨(decDigits 0).toArray⟩ (dec_size 0 hn) w1 (htb.on hb1).here t1 t2 p1 p2 (var_on hb1 gSyn hsyn) (var_on hb1 gRng hrng)
    rw [hpv] at hv
    have HB1 := Lib.hid hb1
    clear hb1 htb htab hsyn hrng hpv
    go_wp2_with fail
    refine hv.mono ?_
    rintro e w2 ⟨rfl, hb2⟩
    have HB2 : Hid (Below w.heap.size w w2) := HB1.out.trans (hb2.mono HB1.out.size)
    clear hv hb2 HB1
    go_wp2
    go_ret
    exact ⟨rfl, HB2.out⟩
  · rw [if_neg h0] at hpv
    have h0' : ((n : Int) == 0) = false := by rw [beq_eq_false_iff_ne]; omega
    go_enter Tryd.func4, Tryd.ntmps4
    go_wp2_with fail
    refine (decimal_of n (by omega) _).mono ?_
    rintro e w1 ⟨rfl, hb1⟩
    have hv := zz_version ⟨(decDigits n).toArray⟩ (dec_size n hn) w1 (htb.on hb1).here t1 t2 p1 p2 (var_on hb1 gSyn hsyn) (var_on hb1 gRng hrng)
    rw [hpv] at hv
    have HB1 := Lib.hid hb1
    clear hb1 htb htab hsyn hrng hpv
    go_wp2_with fail
    refine hv.mono ?_
    rintro e w2 ⟨rfl, hb2⟩
    have HB2 : Hid (Below w.heap.size w w2) := HB1.out.trans (hb2.mono HB1.out.size)
    clear hv hb2 HB1
    go_wp2
    go_ret
    exact ⟨rfl, HB2.out⟩
end Go.Proofs.Qxb6600632aDoor
