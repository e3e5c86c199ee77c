/-
  'Rows.FnNodeOfSetToleratedByItsTaintsSaid', PROVED: the row's frame over the walk 'law5_any'.
-/
import Derived.Test.Qxb6608834aOpen
import Derived.Test.Qxb6608834aNode3
namespace Go.Proofs.Qxb6608834a
open Go.ChangeShapes Go.WideShapes Go.ChangeAt Go.RowKit
set_option linter.unusedVariables false
set_option linter.unusedSimpArgs false

set_option maxRecDepth 100000 in
theorem fnNodeOfSet_lifted (os : Os) (started : os.Started) (H : Type) (enc : TypeId × Value → H) :
    ReturnsInHanded {} Try.checked os 5 .any (Rows.fnNodeOfSetToleratedByItsTaintsSpec.pre6 enc Try.prog Try.f5 Rows.fnNodeOfSetToleratedByItsTaintsRow.domain false) (Rows.fnNodeOfSetToleratedByItsTaintsSpec.post enc Try.prog Try.f5 false true false false) := by
  refine returnsInHanded_of_change (C := Try.checked) Try.own started (by kernel_rfl) Try.func5
    (ChangeSpec.witness6 (enc := enc) (C := Try.checked) false ⟨#[], #[.slice none 0 0, .string ⟨#[]⟩], []⟩ 8 (by kernel_rfl) (by kernel_rfl) (by kernel_rfl) (by kernel_rfl)) ?_
  intro W base args ds gs before hval0 hW hcnd _
  have hval : ∀ (j : Nat) t v, Try.f5.params[j]? = some t → args[j]? = some v → Value.okWide Try.prog W .any base t v := hval0
  have hW' := hW
  obtain ⟨p, q, hA0, hV, rfl, hfz, hnd⟩ := hW
  have hA : DataW.TrodAll enc Try.prog W 0 (fun _ => true) true Try.f5.params.toList args.toList ds p := hA0
  rw [Try.params5] at hA hval
  obtain ⟨v0, vs0, d0, ds0, p0, q0, hargs, rfl, rfl, h0, r0⟩ := trodAll_cons hA
  obtain ⟨v1, vs1, d1, ds1, p1, q1, rfl, rfl, rfl, h1, r1⟩ := trodAll_cons r0
  obtain ⟨rfl, rfl, rfl⟩ := trodAll_nil r1
  obtain rfl : args = #[v0, v1] := by cases args; simp_all
  obtain ⟨rfl, rfl⟩ := trodVars_none hV
  have k0 := h0
  have k1 := h1
  have lt0 : ∀ x ∈ p0, x.block < W.heap.size := by obtain ⟨m, hm⟩ := k0; exact DataW.trod_lt m _ _ _ hm
  have lt1 : ∀ x ∈ p1, x.block < W.heap.size := by obtain ⟨m, hm⟩ := k1; exact DataW.trod_lt m _ _ _ hm
  obtain ⟨a, n, c, rfl⟩ := okWide_slice Try.underlying32 (hval 0 32 v0 rfl rfl)
  obtain ⟨F, hnc, hn, hz, hp, hF⟩ : ∃ F : Nat → Tnt, n ≤ c ∧ n ≤ 9223372036854775807 ∧ (a = none → n = 0) ∧ RowsIn W 3 (fun j => tntL (F j)) a n ∧ ∀ j, j < n → TntQ (F j) := by
    obtain ⟨fuel, hf⟩ := h0
    obtain ⟨a', n', c', F, e, r⟩ := open_rows (Tnt.mk ⟨#[]⟩ ⟨#[]⟩ ⟨#[]⟩) tntL TntQ 32 50 3 Try.underlying32 Try.cells50 (by omega) row_tnt hf
    simp [Value.cells] at e
    obtain ⟨rfl, rfl, rfl⟩ := e
    exact ⟨F, r⟩
  obtain ⟨s, rfl, hs⟩ : ∃ s : ByteArray, v1 = .string s ∧ s.size ≤ 9223372036854775807 := by
    obtain ⟨s, rfl⟩ := okWide_string Try.underlying9 (hval 1 9 v1 rfl rfl)
    obtain ⟨fuel, hf⟩ := h1
    obtain ⟨s', hc, _, hw⟩ := DataW.trod_string Try.underlying9 hf
    simp [Value.cells] at hc
    subst hc
    exact ⟨_, rfl, len_le hw⟩
  clear hA0 hval0
  refine (law5_any F a n c s W hn hz hp hF hs).mono fun e W' ⟨he, bel⟩ => ?_
  subst he
  exact ⟨_, rfl, _, _, _, [], _, [], hW', trodAll_mk1 (shut_bool Try.underlying4 _), (trodAll_cons_mk (Below.trod Try.laidOut (by kernel_rfl) (of_decide_eq_true (by kernel_rfl)) k0 bel lt0) (trodAll_cons_mk (Below.trod Try.laidOut (by kernel_rfl) (of_decide_eq_true (by kernel_rfl)) k1 bel lt1) trodAll_mk0)), rfl, bel.frame _, fun h => by cases h⟩

/-- THE STATEMENT -/
theorem fnNodeOfSetToleratedByItsTaints_proved : Rows.FnNodeOfSetToleratedByItsTaintsSaid :=
  OpenClaim.holds_of_wide 5 Try.f5 rfl rfl rfl rfl rfl rfl rfl ⟨rfl, rfl, rfl, rfl, rfl⟩ rfl rfl rfl rfl rfl (by kernel_rfl) Try.func5 (by kernel_rfl)
    (of_decide_eq_true (by kernel_rfl)) (by unfold Func.isWrapper; first | (rw [if_pos (by decide +kernel)]; kernel_rfl) | (rw [if_neg (by decide +kernel)]; exact ⟨rfl, rfl⟩))
    (fun os started H enc _ => fnNodeOfSet_lifted os started H enc)
end Go.Proofs.Qxb6608834a
