import Derived.Test.Qxb6608834aOpen
import Derived.Test.Qxb6608834aReq2
namespace Go.Proofs.Qxb6608834a
open Go.ChangeShapes Go.WideShapes Go.ChangeAt Go.RowKit Go.Deep
set_option linter.unusedVariables false
set_option linter.unusedSimpArgs false
theorem Try.cells2 : Try.prog.cellsOf 2 = 1 := by kernel_rfl
theorem I64_of_wf {n : Int} (h : (Lit.int .i64 n).wf = true) : I64 n := by
  simp [Lit.wf, IntKind.min, IntKind.max, IntKind.signed, IntKind.bits] at h
  unfold I64
  omega
section
variable {H : Type} {enc : TypeId × Value → H} {w : World} {base : Nat} {spare : Nat → Bool} {held : Bool}
theorem row_int (fuel : Nat) (cs : List Value) (x : DataW H × List MemPlace) (h : DataW.trod enc Try.prog w base spare held fuel 2 cs = some x) : ∃ y, cs = iL y ∧ I64 y := by
  obtain ⟨n, hc, _, hw⟩ := DataW.trod_int Try.underlying2 h
  exact ⟨n, hc, I64_of_wf hw⟩
/-- A []int64 that came in, opened. -/
theorem open_ints {a : Option Addr} {n c : Nat} {d : DataW H} {p : List MemPlace} (h : DataW.Trod enc Try.prog w base spare held 22 (.slice a n c) d p) :
    ∃ X : Nat → Int, n ≤ c ∧ n ≤ 9223372036854775807 ∧ (a = none → n = 0) ∧ RowsIn w 1 (fun j => iL (X j)) a n ∧ ∀ j, j < n → I64 (X j) := by
  obtain ⟨fuel, hf⟩ := h
  obtain ⟨a', n', c', F, e, r⟩ := open_rows (0 : Int) iL I64 22 2 1 Try.underlying22 Try.cells2 (by omega) row_int hf
  simp [Value.cells] at e
  obtain ⟨rfl, rfl, rfl⟩ := e
  exact ⟨F, r⟩
end
end Go.Proofs.Qxb6608834a
