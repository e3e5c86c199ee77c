/-
  'Rows.FnToleratesCutOfTolerationsSaid', PROVED: the row's frame over the walk 'law7_any'.
-/
import Derived.Test.Qxb6608834aOpen
import Derived.Test.Qxb6608834aLaw7
namespace Go.Proofs.Qxb6608834a
open Go.ChangeShapes Go.WideShapes Go.ChangeAt Go.RowKit
set_option linter.unusedVariables false
set_option linter.unusedSimpArgs false

theorem i64_of_wf {n : Int} (h : (Lit.int .i64 n).wf = true) : -9223372036854775808 ≤ n ∧ n ≤ 9223372036854775807 := by
  simp [Lit.wf, IntKind.min, IntKind.max, IntKind.signed, IntKind.bits] at h
  omega

set_option maxRecDepth 100000 in
theorem fnToleratesCut_lifted (os : Os) (started : os.Started) (H : Type) (enc : TypeId × Value → H) :
    ReturnsInHanded {} Try.checked os 7 .any (Rows.fnToleratesCutOfTolerationsSpec.pre6 enc Try.prog Try.f7 Rows.fnToleratesCutOfTolerationsRow.domain false) (Rows.fnToleratesCutOfTolerationsSpec.post enc Try.prog Try.f7 false true false false) := by
  refine returnsInHanded_of_change (C := Try.checked) Try.own started (by kernel_rfl) Try.func7
    (ChangeSpec.witness6 (enc := enc) (C := Try.checked) false ⟨#[], #[.slice none 0 0, .agg #[.string ⟨#[]⟩, .string ⟨#[]⟩, .string ⟨#[]⟩], .int .i64 0], []⟩ 8 (by kernel_rfl) (by kernel_rfl) (by kernel_rfl) (by kernel_rfl)) ?_
  intro W base args ds gs before hval0 hW hcnd _
  have hval : ∀ (j : Nat) t v, Try.f7.params[j]? = some t → args[j]? = some v → Value.okWide Try.prog W .any base t v := hval0
  have hW' := hW
  obtain ⟨p, q, hA0, hV, rfl, hfz, hnd⟩ := hW
  have hA : DataW.TrodAll enc Try.prog W 0 (fun _ => true) true Try.f7.params.toList args.toList ds p := hA0
  rw [Try.params7] at hA hval
  obtain ⟨v0, vs0, d0, ds0, p0, q0, hargs, rfl, rfl, h0, r0⟩ := trodAll_cons hA
  obtain ⟨v1, vs1, d1, ds1, p1, q1, rfl, rfl, rfl, h1, r1⟩ := trodAll_cons r0
  obtain ⟨v2, vs2, d2, ds2, p2, q2, rfl, rfl, rfl, h2, r2⟩ := trodAll_cons r1
  obtain ⟨rfl, rfl, rfl⟩ := trodAll_nil r2
  obtain rfl : args = #[v0, v1, v2] := by cases args; simp_all
  obtain ⟨rfl, rfl⟩ := trodVars_none hV
  have k0 := h0
  have k1 := h1
  have k2 := h2
  have lt0 : ∀ x ∈ p0, x.block < W.heap.size := by obtain ⟨m, hm⟩ := k0; exact DataW.trod_lt m _ _ _ hm
  have lt1 : ∀ x ∈ p1, x.block < W.heap.size := by obtain ⟨m, hm⟩ := k1; exact DataW.trod_lt m _ _ _ hm
  have lt2 : ∀ x ∈ p2, x.block < W.heap.size := by obtain ⟨m, hm⟩ := k2; exact DataW.trod_lt m _ _ _ hm
  obtain ⟨a, n, c, rfl⟩ := okWide_slice Try.underlying48 (hval 0 48 v0 rfl rfl)
  obtain ⟨F, hnc, hn, hz, hp, hF⟩ : ∃ F : Nat → Tol, n ≤ c ∧ n ≤ 9223372036854775807 ∧ (a = none → n = 0) ∧ RowsIn W 4 (fun j => ltolL (F j)) a n ∧ ∀ j, j < n → TolQ (F j) := by
    obtain ⟨fuel, hf⟩ := h0
    obtain ⟨a', n', c', F, e, r⟩ := open_rows (Tol.mk ⟨#[]⟩ ⟨#[]⟩ ⟨#[]⟩ ⟨#[]⟩) ltolL TolQ 48 52 4 Try.underlying48 Try.cells52 (by omega) row_tol hf
    simp [Value.cells] at e
    obtain ⟨rfl, rfl, rfl⟩ := e
    exact ⟨F, r⟩
  obtain ⟨x, rfl, hx⟩ : ∃ x : Tnt, v1 = .agg (tntL x).toArray ∧ TntQ x := by
    have hv := hval 1 50 v1 rfl rfl
    simp only [Value.okWide, Try.underlying50] at hv
    obtain ⟨cs, rfl, hsz, _⟩ := hv
    obtain ⟨fuel, hf⟩ := h1
    obtain ⟨x, e, hx⟩ := row_tnt _ _ _ hf
    refine ⟨x, ?_, hx⟩
    have e2 : cs.toList = tntL x := by simpa [Value.cells] using e
    rw [← e2]
  obtain ⟨kk, rfl, hkk⟩ : ∃ kk : Int, v2 = .int .i64 kk ∧ (Lit.int .i64 kk).wf = true := by
    obtain ⟨k', rfl⟩ := okWide_int Try.underlying3 (hval 2 3 v2 rfl rfl)
    obtain ⟨fuel, hf⟩ := h2
    obtain ⟨n, hc, _, hw⟩ := DataW.trod_int Try.underlying3 hf
    simp [Value.cells] at hc
    subst hc
    exact ⟨_, rfl, hw⟩
  clear hA0 hval0
  refine (law7_any F a n c x kk W hn hnc hz hp hF hx (i64_of_wf hkk).1 (i64_of_wf hkk).2).mono fun e W' ⟨he, bel⟩ => ?_
  subst he
  exact ⟨_, rfl, _, _, _, [], _, [], hW', trodAll_mk1 (shut_bool Try.underlying4 _), (trodAll_cons_mk (Below.trod Try.laidOut (by kernel_rfl) (of_decide_eq_true (by kernel_rfl)) k0 bel lt0) (trodAll_cons_mk (Below.trod Try.laidOut (by kernel_rfl) (of_decide_eq_true (by kernel_rfl)) k1 bel lt1) (trodAll_cons_mk (Below.trod Try.laidOut (by kernel_rfl) (of_decide_eq_true (by kernel_rfl)) k2 bel lt2) trodAll_mk0))), rfl, bel.frame _, fun h => by cases h⟩

/-- THE STATEMENT -/
theorem fnToleratesCutOfTolerations_proved : Rows.FnToleratesCutOfTolerationsSaid :=
  OpenClaim.holds_of_wide 7 Try.f7 rfl rfl rfl rfl rfl rfl rfl ⟨rfl, rfl, rfl, rfl, rfl⟩ rfl rfl rfl rfl rfl (by kernel_rfl) Try.func7 (by kernel_rfl)
    (of_decide_eq_true (by kernel_rfl)) (by unfold Func.isWrapper; first | (rw [if_pos (by decide +kernel)]; kernel_rfl) | (rw [if_neg (by decide +kernel)]; exact ⟨rfl, rfl⟩))
    (fun os started H enc _ => fnToleratesCut_lifted os started H enc)
end Go.Proofs.Qxb6608834a
