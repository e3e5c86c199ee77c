import Derived.Test.Qxb6608829aRows
import Derived.Test.Qxb6608829aArr
import Derived.ProofKit
import Derived.OpenShut
import Derived.ShutString
import Derived.ChangeOld
import Derived.Below
namespace Go.Proofs.Qxb6608829a
open Go.ChangeShapes Go.WideShapes Go.ChangeAt Go.RowKit
set_option linter.unusedVariables false
set_option linter.unusedSimpArgs false

theorem Try.own : ownKnob Try.prog.godebug = none := by kernel_rfl
theorem Try.laidOut : laidOutB Try.prog = true := by kernel_rfl
theorem Try.cells5 : Try.prog.cellsOf 5 = 1 := by kernel_rfl
theorem Try.cells22 : Try.prog.cellsOf 22 = 20 := by kernel_rfl

theorem byte_of_wf {n : Int} (h : (Lit.int .u8 n).wf = true) : 0 ≤ n ∧ n ≤ 255 := by
  simp [Lit.wf, IntKind.min, IntKind.max, IntKind.signed, IntKind.bits] at h
  omega

/-- A [20]byte that came in, opened. -/
theorem open_arr {H : Type} {enc : TypeId × Value → H} {w : World} {r : Reach} {b0 base : Nat} {spare : Nat → Bool} {held : Bool} {v : Value} {d : DataW H} {p : List MemPlace}
    (hv : Value.okWide Try.prog w r b0 22 v) (h : DataW.Trod enc Try.prog w base spare held 22 v d p) : ∃ xs : List Int, v = .agg (ag xs) ∧ xs.length = 20 ∧ Byts xs := by
  simp only [Value.okWide, Try.underlying22] at hv
  obtain ⟨cs, rfl, hsz, _⟩ := hv
  rw [Try.cells22] at hsz
  obtain ⟨fuel, hf⟩ := h
  obtain ⟨ys, m, _, _, hlen, hn, hi⟩ := DataW.trod_array Try.underlying22 hf
  have key : ∀ i, i < 20 → ∃ n : Int, cs[i]? = some (.int .u8 n) ∧ 0 ≤ n ∧ n ≤ 255 := by
    intro i hi'
    have h1 := hi i hi'
    have hy : ∃ y, ys[i]? = some y := ⟨ys[i], List.getElem?_eq_getElem (by omega)⟩
    obtain ⟨y, hy⟩ := hy
    rw [hy, Try.cells5] at h1
    obtain ⟨n, hc, _, hw⟩ := DataW.trod_int Try.underlying5 h1
    refine ⟨n, ?_, byte_of_wf hw⟩
    have h2 : (Value.cells (.agg cs)).toList = cs.toList := by simp [Value.cells]
    have hl : i < cs.toList.length := by simpa using (by omega : i < cs.size)
    simp only [Nat.mul_one, h2] at hc
    rw [List.drop_eq_getElem_cons hl] at hc
    simp only [List.take_succ_cons, List.take_zero, List.cons.injEq, and_true] at hc
    rw [Array.getElem?_eq_getElem (by omega)]
    simpa using hc
  have : ∃ f : Nat → Int, ∀ i, i < 20 → cs[i]? = some (.int .u8 (f i)) ∧ 0 ≤ f i ∧ f i ≤ 255 := by
    refine ⟨fun i => if h : i < 20 then Classical.choose (key i h) else 0, fun i h => ?_⟩
    simp only [h, dif_pos]
    exact Classical.choose_spec (key i h)
  obtain ⟨f, hf'⟩ := this
  refine ⟨(List.range 20).map f, ?_, by simp, ?_⟩
  · congr 1
    apply Array.ext_getElem?
    intro i
    by_cases hi' : i < 20
    · rw [(hf' i hi').1]
      simp [ag, hi']
    · rw [Array.getElem?_eq_none (by omega), Array.getElem?_eq_none (by rw [ag_size]; simp; omega)]
  · intro n hn
    simp only [List.mem_map, List.mem_range] at hn
    obtain ⟨i, hi', rfl⟩ := hn
    exact (hf' i hi').2
end Go.Proofs.Qxb6608829a
