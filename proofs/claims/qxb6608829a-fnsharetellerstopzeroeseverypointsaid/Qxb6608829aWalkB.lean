import Derived.Test.Qxb6608829aWalkA
import Derived.ChangeKeysEq
namespace Go.Proofs.Qxb6608829a
open Go.RowKit
set_option linter.unusedVariables false
set_option linter.unusedSimpArgs false

theorem size5 (w : World) : (sizeOf 5).run Try.prog w = .ok 1 w := by kernel_rfl
theorem part5 (xs : List Int) (k : Nat) (w : World) (h : k < xs.length) : (part 5 (ag xs) k).run Try.prog w = .ok (.int .u8 (xs.getD k 0)) w :=
  run_part_plain w (by kernel_rfl) (ag_get xs k h)
theorem eq_arr (d : Nat) (t : TypeId) (ht : Try.prog.underlying t = some (.array 20 5)) (xs ys : List Int) (w : World) (hx : xs.length = 20) (hy : ys.length = 20) :
    (Op.equalIn (d + 2) t (.agg (ag xs)) (.agg (ag ys))).run Try.prog w = .ok (decide (xs = ys)) w := by
  have hD : ∀ (a b : Int), (Op.equalIn (d + 1) 5 (.int .u8 a) (.int .u8 b)).run Try.prog w = .ok (a == b) w := fun a b => run_equalIn_int w d 5 .u8 .u8 a b Try.underlying5
  generalize hDD : d + 1 = D at hD
  have e : d + 2 = D + 1 := by omega
  rw [e, Op.equalIn]
  simp only [Sem.run_bind, run_underlying ht, Result.andThen_ok, size5, Std.Legacy.Range.forIn_eq_forIn_range', Nat.mul_one]
  have key : ∀ (n k : Nat), k + n = 20 → Sem.run Try.prog (forIn (List.range' k n 1) ((none : Option Bool), ()) fun i _ => do
      let a ← part 5 (ag xs) i
      let b ← part 5 (ag ys) i
      let r ← Op.equalIn D 5 a b
      if (!r) = true then pure (ForInStep.done (some false, ())) else do
        pure PUnit.unit
        pure (ForInStep.yield (none, ()))) w = .ok (if xs.drop k = ys.drop k then (none, ()) else (some false, ())) w := by
    intro n
    induction n with
    | zero => intro k hk; simp [List.drop_of_length_le (by omega : xs.length ≤ k), List.drop_of_length_le (by omega : ys.length ≤ k)]
    | succ n ih =>
      intro k hk
      have e1 : xs.getD k 0 = xs[k]'(by omega) := by simp [List.getD, List.getElem?_eq_getElem (by omega : k < xs.length)]
      have e2 : ys.getD k 0 = ys[k]'(by omega) := by simp [List.getD, List.getElem?_eq_getElem (by omega : k < ys.length)]
      rw [List.range'_succ, List.forIn_cons]
      simp only [Sem.run_bind, part5 xs k w (by omega), part5 ys k w (by omega), Result.andThen_ok, hD, Sem.run_ite]
      have hd : (xs.drop k = ys.drop k) ↔ (xs[k]'(by omega) = ys[k]'(by omega) ∧ xs.drop (k + 1) = ys.drop (k + 1)) := by
        rw [List.drop_eq_getElem_cons (by omega : k < xs.length), List.drop_eq_getElem_cons (by omega : k < ys.length), List.cons.injEq]
      rw [e1, e2]
      by_cases hk1 : xs[k]'(by omega) = ys[k]'(by omega)
      · have ih' := ih (k + 1) (by omega)
        have e3 : (xs[k]'(by omega) == ys[k]'(by omega)) = true := by simpa using hk1
        rw [e3]
        simp only [Bool.not_true, Bool.false_eq_true, if_false, Sem.run_pure, Result.andThen_ok]
        rw [ih']
        simp only [hd, hk1, true_and]
      · have e3 : (xs[k]'(by omega) == ys[k]'(by omega)) = false := by simpa using hk1
        rw [e3]
        simp only [Bool.not_false, if_true, Sem.run_pure, Result.andThen_ok]
        rw [if_neg (fun h => hk1 (hd.1 h).1)]
  have hk := key 20 0 rfl
  have e4 : ([:20] : Std.Legacy.Range).size = 20 := rfl
  rw [e4, hk]
  simp only [List.drop_zero, Result.andThen_ok]
  by_cases h : xs = ys
  · simp [h]
  · simp [h]

theorem gen3 (w : World) (xs ys zs : List Int) (n : Nat) : ∃ W1, W1 = (((w.alloc (.cells (ag xs) 24)).alloc (.cells (ag ys) 24)).alloc (.cells (ag zs) 24)).drewN n ∧ RowAt W1 w.heap.size 24 xs ∧ RowAt W1 (w.heap.size + 1) 24 ys ∧ RowAt W1 (w.heap.size + 1 + 1) 24 zs ∧ Below w.heap.size w W1 :=
  ⟨_, rfl, (((RowAt.new _ _ _ (by simp)).alloc _).alloc _).drewN _, ((RowAt.new _ _ _ (by simp)).alloc _).drewN _, (RowAt.new _ _ _ (by simp)).drewN _, below_drewN ((below2 _ _ _).alloc (by simp; omega) _) _⟩
theorem gen3' {w w1 : World} {a b c : Nat} {xs ys zs : List Int} (r1 : RowAt w1 a 24 xs) (r2 : RowAt w1 b 24 ys) (r3 : RowAt w1 c 24 zs) (hb : Below w.heap.size w w1) (n : Nat) :
    ∃ W1, W1 = w1.drewN n ∧ RowAt W1 a 24 xs ∧ RowAt W1 b 24 ys ∧ RowAt W1 c 24 zs ∧ Below w.heap.size w W1 := ⟨_, rfl, r1, r2, r3, below_drewN hb _⟩

theorem sgn_pos (a b : Int) : decide (0 < sgn a b) = decide (b < a) := by
  unfold sgn; by_cases h : a < b
  · have : ¬ b < a := by omega
    simp [h, this]
  · by_cases h2 : b < a <;> simp [h, h2]
theorem sgn_negd (a b : Int) : decide (sgn a b < 0) = decide (a < b) := by
  unfold sgn; by_cases h : a < b
  · simp [h]
  · by_cases h2 : b < a <;> simp [h, h2]
theorem ret_bool {a b : Bool} (h : a = b) : Ending.returned (.bool a) = .returned (.bool b) := by rw [h]

set_option maxHeartbeats 400000 in
theorem sb_any (xs ys zs : List Int) (w : World) (hx : xs.length = 20) (hy : ys.length = 20) (hz : zs.length = 20) (bx : Byts xs) (byy : Byts ys) (bz : Byts zs) :
    Calls Try.prog 27 #[.agg (ag xs), .agg (ag ys), .agg (ag zs)] w fun e w' => e = .returned (.bool (sbI (val xs) (val ys) (val zs))) ∧ Below w.heap.size w w' := by
  obtain ⟨r, hr⟩ : ∃ r, r = sbI (val xs) (val ys) (val zs) := ⟨_, rfl⟩
  rw [← hr]
  have HR : Hid (r = sbI (val xs) (val ys) (val zs)) := hr
  clear hr
  have r1 : RowAt (((w.alloc (.cells (ag xs) 24)).alloc (.cells (ag ys) 24)).alloc (.cells (ag zs) 24)) w.heap.size 24 xs := ((RowAt.new _ _ _ (by simp)).alloc _).alloc _
  have r2 : RowAt (((w.alloc (.cells (ag xs) 24)).alloc (.cells (ag ys) 24)).alloc (.cells (ag zs) 24)) (w.heap.size + 1) 24 ys := (RowAt.new _ _ _ (by simp)).alloc _
  have r3 : RowAt (((w.alloc (.cells (ag xs) 24)).alloc (.cells (ag ys) 24)).alloc (.cells (ag zs) 24)) (w.heap.size + 1 + 1) 24 zs := (RowAt.new _ _ _ (by simp))
  go_enter Try.func27, Try.ntmps27
  go_wp2
  go_quiet ((go_at_call 32; exact Calls.quiet_of_same (compare_any _ _ _ 24 24 xs ys (r1.drewN _) (r2.drewN _) hx hy bx byy)))
  obtain ⟨W1, hW1, q1, q2, q3, hb1⟩ := gen3 w xs ys zs nq
  rw [← hW1]
  clear r1 r2 r3 hW1
  go_wp2
  go_quiet ((go_at_call 32; exact Calls.quiet_of_same (compare_any _ _ _ 24 24 xs zs (q1.drewN _) (q3.drewN _) hx hz bx bz)))
  rename_i nq1
  obtain ⟨W2, hW2, q1', q2', q3', hb2⟩ := gen3' q1 q2 q3 hb1 nq
  rw [← hW2]
  clear q1 q2 q3 hW2 hb1
  go_wp2
  go_quiet ((go_at_call 32; exact Calls.quiet_of_same (compare_any _ _ _ 24 24 ys zs (q2'.drewN _) (q3'.drewN _) hy hz byy bz)))
  obtain ⟨W3, hW3, q1, q2, q3, hb3⟩ := gen3' q1' q2' q3' hb2 nq
  rw [← hW3]
  clear q1' q2' q3' hW3 hb2
  have g1 : decide (0 < cmpL xs ys) = decide (val ys < val xs) := by rw [cmpL_val xs ys (by omega) bx byy, sgn_pos]
  have g2 : decide (cmpL xs zs < 0) = decide (val xs < val zs) := by rw [cmpL_val xs zs (by omega) bx bz, sgn_negd]
  have g3 := cmpL_val ys zs (by omega) byy bz
  rw [g1, g2, g3]
  generalize cmpL xs ys = c1
  generalize cmpL xs zs = c2
  have heq : ∀ w, (Op.equalIn 10000 24 (.agg (ag xs)) (.agg (ag ys))).run Try.prog w = .ok (decide (xs = ys)) w := fun w => eq_arr 9998 24 Try.underlying24 xs ys w hx hy
  have hinj : decide (xs = ys) = decide (val xs = val ys) := by
    rw [Bool.eq_iff_iff]; simp only [decide_eq_true_eq]
    exact ⟨fun h => by rw [h], fun h => val_inj xs ys (by omega) bx byy h⟩
  rw [hinj] at heq
  have HG : Hid (Below w.heap.size w W3) := hb3
  clear g1 g2 g3 hinj hb3
  rcases Int.lt_trichotomy (val ys) (val zs) with h | h | h
  · rw [sgn_lt h]
    generalize hp : decide (val ys < val xs) = p
    generalize hq : decide (val xs < val zs) = q
    have HE : Hid (r = (p && q)) := by rw [HR.out, ← hp, ← hq]; simp [Hid, sbI, h]
    clear hp hq h
    cases p <;> cases q
    all_goals
      go_wp2
      go_ret
      exact ⟨ret_bool (by rw [HE.out]; rfl), HG.out⟩
  · rw [h, sgn_eq]
    generalize hp : decide (val xs = val ys) = p at *
    have HE : Hid (r = !p) := by rw [HR.out, ← hp]; simp [Hid, sbI, h]
    clear hp h
    go_wp2_with (first
        | (refine wpl_load 24 (.inr rfl) rfl _ rfl _ rfl 24 xs (by exact q1) hx ?_)
        | (refine wpl_load 24 (.inr rfl) rfl _ rfl _ rfl 24 ys (by exact q2) hy ?_))
    go_ret
    exact ⟨ret_bool (by rw [HE.out]), HG.out⟩
  · rw [sgn_gt h]
    have hn : ¬ val ys < val zs := by omega
    generalize hp : decide (val ys < val xs) = p
    generalize hq : decide (val xs < val zs) = q
    have HE : Hid (r = (p || q)) := by rw [HR.out, ← hp, ← hq]; simp [Hid, sbI, h, hn]
    clear hp hq h hn
    cases p <;> cases q
    all_goals
      go_wp2
      go_ret
      exact ⟨ret_bool (by rw [HE.out]; rfl), HG.out⟩
end Go.Proofs.Qxb6608829a
