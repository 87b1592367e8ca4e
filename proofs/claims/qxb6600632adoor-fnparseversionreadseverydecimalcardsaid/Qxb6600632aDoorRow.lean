import Derived.Test.Qxb6600632aDoorLaws
import Derived.ProofKit
import Derived.LaidMore
import Derived.Lib.LaidTab
import Derived.Stop.LaidErr
import Derived.OpenShut
import Derived.ShutString
import Derived.Below
namespace Go.Proofs.Qxb6600632aDoor
open Go.ChangeShapes Go.WideShapes Go.ChangeAt Go.RowKit
set_option linter.unusedVariables false

theorem own : ownKnob Tryd.prog.godebug = none := by kernel_rfl
theorem gTab : Tryd.prog.globalNamed tabName = some 4 := by kernel_rfl
theorem tTab : (Tryd.prog.globals[4]?).map (·.type) = some 83 := by kernel_rfl
theorem tSyn : (Tryd.prog.globals[2]?).map (·.type) = some 44 := by kernel_rfl
theorem tRng : (Tryd.prog.globals[3]?).map (·.type) = some 44 := by kernel_rfl
theorem cells23 : Tryd.prog.cellsOf 23 = 1 := by kernel_rfl
theorem cells83 : Tryd.prog.cellsOf 83 = 20 := by kernel_rfl
theorem tab_eq : (Rows.laid_internal_strconv_uint64pow10 : DataW Unit) = Lib.tabData .u64 Lib.pow10Tab := by kernel_rfl

/-- A listed interface: the variable holds one. -/
theorem iface_var {n nm : String} {d : DataW Unit} {r : List (String × DataW Unit)} {W : World} {g : Nat} {ti : TypeId} {ms : Array (String × TypeId)}
    (h : laidMet Tryd.prog ((n, .iface nm d) :: r) W) (hg : Tryd.prog.globalNamed n = some g) (ht : (Tryd.prog.globals[g]?).map (·.type) = some ti) (hi : Tryd.prog.underlying ti = some (.interface ms)) :
    ∃ u v, W.var? Tryd.prog n = some #[.iface u v] := by
  obtain ⟨ps, ⟨g0, t0, cs0, f0, p0, q0, hg0, ht0, hv0, hd0, _, e0⟩, _, hrows⟩ := h
  obtain rfl := Option.some.inj (hg.symm.trans hg0)
  obtain rfl := Option.some.inj (ht.symm.trans ht0)
  subst e0
  obtain ⟨l0⟩ := cs0
  obtain ⟨f1, u, v, e, _, _⟩ := iface_of_trod hi hd0
  have e' : l0 = [.iface u v] := e
  subst e'
  exact ⟨u, v, hv0⟩

/-- What the listed variables give the walks. -/
theorem of_laid {W : World} (h : laidMetH Tryd.prog Rows.fnParseVersionExactRow.laid W) :
    Tab W ∧ (∃ t p, W.var? Tryd.prog "strconv.ErrSyntax" = some #[.iface t p]) ∧ (∃ t p, W.var? Tryd.prog "strconv.ErrRange" = some #[.iface t p]) := by
  rw [MakeChecks.laidMetH_plain _ _ _ (by kernel_rfl)] at h
  have h2 := laidMet.tail (laidMet.tail h)
  have h3 := laidMet.tail h2
  have h4 := laidMet.tail h3
  refine ⟨?_, iface_var h4 gSyn tSyn Tryd.underlying44, iface_var h3 gRng tRng Tryd.underlying44⟩
  rw [tab_eq] at h2
  exact Lib.tabIs_of_head gTab tTab Tryd.underlying83 Tryd.underlying23 cells23 cells83 h2

/-- The door's own heap meets the condition. -/
theorem door_met (os : Os) (args : Array Value) : laidMetH Tryd.prog Rows.fnParseVersionExactRow.laid ((World.doorLaid Tryd.prog 96 os).forCall (fun _ _ => 0) ⟨#[], args, []⟩).memory :=
  laidMetH_of_parts3 (fuel := 8) (laidMet_of_run' 8 (by kernel_rfl) (by kernel_rfl)) (by kernel_rfl) (by kernel_rfl)
end Go.Proofs.Qxb6600632aDoor
