import Derived.Test.Qxb6608829aWalkB
namespace Go.Proofs.Qxb6608829a
open Go.RowKit
set_option linter.unusedVariables false
set_option linter.unusedSimpArgs false

theorem eqv (xs ys : List Int) (hx : xs.length = 20) (hy : ys.length = 20) (bx : Byts xs) (byy : Byts ys) : decide (xs = ys) = decide (val xs = val ys) := by
  rw [Bool.eq_iff_iff]; simp only [decide_eq_true_eq]
  exact ⟨fun h => by rw [h], fun h => val_inj xs ys (by omega) bx byy h⟩

set_option maxHeartbeats 400000 in
theorem cf_any (os xs ys : List Int) (w : World) (ho : os.length = 20) (hx : xs.length = 20) (hy : ys.length = 20) (bo : Byts os) (bx : Byts xs) (byy : Byts ys) :
    Calls Try.prog 22 #[.agg (ag os), .agg (ag xs), .agg (ag ys)] w fun e w' => e = .returned (.int .i64 (cf (val os) (val xs) (val ys))) ∧ Below w.heap.size w w' := by
  obtain ⟨r, hr⟩ : ∃ r, r = cf (val os) (val xs) (val ys) := ⟨_, rfl⟩
  rw [← hr]
  have HR : Hid (r = cf (val os) (val xs) (val ys)) := hr
  clear hr
  obtain ⟨W1, hW1, q1, q2, q3, hb1⟩ := gen3 w os xs ys 0
  have e0 : W1 = ((w.alloc (.cells (ag os) 24)).alloc (.cells (ag xs) 24)).alloc (.cells (ag ys) 24) := hW1
  subst e0
  clear hW1
  have HB : Hid (Below w.heap.size w (((w.alloc (.cells (ag os) 24)).alloc (.cells (ag xs) 24)).alloc (.cells (ag ys) 24))) := hb1
  have hz : w.heap.size ≤ (((w.alloc (.cells (ag os) 24)).alloc (.cells (ag xs) 24)).alloc (.cells (ag ys) 24)).heap.size := by simp; omega
  clear hb1
  have heq : ∀ w, (Op.equalIn 10000 24 (.agg (ag xs)) (.agg (ag ys))).run Try.prog w = .ok (decide (val xs = val ys)) w := fun w => by rw [← eqv xs ys hx hy bx byy]; exact eq_arr 9998 24 Try.underlying24 xs ys w hx hy
  by_cases h : val xs = val ys
  · have hd : decide (val xs = val ys) = true := by simpa using h
    rw [hd] at heq
    have HE : Hid (r = 0) := by rw [HR.out, h]; simp [Hid, cf]
    clear hd h
    go_enter Try.func22, Try.ntmps22
    go_wp2_with (first
        | (refine wpl_load 24 (.inr rfl) rfl _ rfl _ rfl 24 xs (by exact q2) hx ?_)
        | (refine wpl_load 24 (.inr rfl) rfl _ rfl _ rfl 24 ys (by exact q3) hy ?_))
    go_ret
    exact ⟨ret_int (by rw [HE.out]), HB.out⟩
  · have hd : decide (val xs = val ys) = false := by simpa using h
    rw [hd] at heq
    have hs := sb_any xs os ys (((w.alloc (.cells (ag os) 24)).alloc (.cells (ag xs) 24)).alloc (.cells (ag ys) 24)) hx ho hy bx bo byy
    have HE : Hid (r = if sbI (val xs) (val os) (val ys) = true then -1 else 1) := by rw [HR.out]; simp [Hid, cf, h]
    generalize sbI (val xs) (val os) (val ys) = p at *
    have HS := hs
    clear hd h
    cases p
    all_goals
      go_enter Try.func22, Try.ntmps22
      go_wp2_with (first
        | (refine wpl_load 24 (.inr rfl) rfl _ rfl _ rfl 24 xs (by exact q2) hx ?_)
        | (refine wpl_load 24 (.inr rfl) rfl _ rfl _ rfl 24 ys (by exact q3) hy ?_)
        | (refine wpl_load 24 (.inr rfl) rfl _ rfl _ rfl 24 os (by exact q1) ho ?_)
        | (go_at_call 27; refine hs.mono ?_; rintro e w1 ⟨rfl, hb2⟩; replace hb2 : Hid _ := hb2))
      go_ret
      exact ⟨ret_int (by rw [HE.out]; rfl), HB.out.trans (hb2.out.mono hz)⟩

set_option maxHeartbeats 400000 in
theorem zz_any (os xs ys : List Int) (w : World) (ho : os.length = 20) (hx : xs.length = 20) (hy : ys.length = 20) (bo : Byts os) (bx : Byts xs) (byy : Byts ys) :
    Calls Try.prog 7 #[.agg (ag os), .agg (ag xs), .agg (ag ys)] w fun e w' => e = .returned (.int .i64 (cf (val os) (val xs) (val ys))) ∧ Below w.heap.size w w' := by
  obtain ⟨W1, hW1, q1, q2, q3, hb1⟩ := gen3 w os xs ys 0
  have e0 : W1 = ((w.alloc (.cells (ag os) 24)).alloc (.cells (ag xs) 24)).alloc (.cells (ag ys) 24) := hW1
  subst e0
  clear hW1
  have HB : Hid (Below w.heap.size w (((w.alloc (.cells (ag os) 24)).alloc (.cells (ag xs) 24)).alloc (.cells (ag ys) 24))) := hb1
  have hz : w.heap.size ≤ (((w.alloc (.cells (ag os) 24)).alloc (.cells (ag xs) 24)).alloc (.cells (ag ys) 24)).heap.size := by simp; omega
  clear hb1
  have hs := cf_any os xs ys (((w.alloc (.cells (ag os) 24)).alloc (.cells (ag xs) 24)).alloc (.cells (ag ys) 24)) ho hx hy bo bx byy
  go_enter Try.func7, Try.ntmps7
  go_wp2_with (first
        | (refine wpl_load 24 (.inr rfl) rfl _ rfl _ rfl 24 xs (by exact q2) hx ?_)
        | (refine wpl_load 24 (.inr rfl) rfl _ rfl _ rfl 24 ys (by exact q3) hy ?_)
        | (refine wpl_load 24 (.inr rfl) rfl _ rfl _ rfl 24 os (by exact q1) ho ?_)
        | (go_at_call 22; refine hs.mono ?_; rintro e w1 ⟨rfl, hb2⟩; replace hb2 : Hid _ := hb2))
  go_ret
  exact ⟨rfl, HB.out.trans (hb2.out.mono hz)⟩

end Go.Proofs.Qxb6608829a
