import Derived.Test.Qxb6608829aRank
namespace Go.Proofs.Qxb6608829a
open Go.RowKit
set_option linter.unusedVariables false
set_option linter.unusedSimpArgs false

/-- What the law's regions need of a world. -/
def HeldL (w0 w : World) (os as_ bs : List Int) : Prop := RowAt w w0.heap.size 22 os ∧ RowAt w (w0.heap.size + 1) 22 as_ ∧ RowAt w (w0.heap.size + 1 + 1) 22 bs ∧ Below w0.heap.size w0 w
theorem HeldL.drew {w0 w : World} {os as_ bs : List Int} (h : HeldL w0 w os as_ bs) : HeldL w0 w.drew os as_ bs := ⟨h.1.drew, h.2.1.drew, h.2.2.1.drew, h.2.2.2.drew⟩
theorem HeldL.next {w0 w w1 : World} {os as_ bs : List Int} (h : HeldL w0 w os as_ bs) (hb : Below w.heap.size w w1) : HeldL w0 w1 os as_ bs :=
  ⟨h.1.below hb h.1.lt, h.2.1.below hb h.2.1.lt, h.2.2.1.below hb h.2.2.1.lt, h.2.2.2.trans (hb.mono h.2.2.2.size)⟩

theorem cf_bd (o a b : Int) : -1 ≤ cf o a b ∧ cf o a b ≤ 1 := by
  unfold cf; split
  · omega
  · split <;> omega
theorem in20 (xs : List Int) (h : xs.length = 20) (b : Byts xs) : In (val xs) := by have := val_bound xs b; rw [h] at this; exact this

set_option maxRecDepth 100000 in
set_option maxHeartbeats 800000 in
theorem law3_any (os xs bs : List Int) (w : World) (ho : os.length = 20) (hx : xs.length = 20) (hb : bs.length = 20) (bo : Byts os) (bx : Byts xs) (bb : Byts bs) :
    Calls Try.prog 3 #[.agg (ag os), .agg (ag xs), .agg (ag bs)] w fun e w' => e = .returned (.bool true) ∧ Below w.heap.size w w' := by
  obtain ⟨W0, hW0, hH⟩ : ∃ W0, W0 = ((w.alloc (.cells (ag os) 22)).alloc (.cells (ag xs) 22)).alloc (.cells (ag bs) 22) ∧ HeldL w W0 os xs bs :=
    ⟨_, rfl, ((RowAt.new _ _ _ (by simp)).alloc _).alloc _, (RowAt.new _ _ _ (by simp)).alloc _, RowAt.new _ _ _ (by simp), (below2 _ _ _).alloc (by simp; omega) _⟩
  -- the answer, as a letter
  have C1 : ∀ w, Calls Try.prog 7 #[.agg (ag os), .agg (ag xs), .agg (ag bs)] w fun e w' => e = .returned (.int .i64 (cf (val os) (val xs) (val bs))) ∧ Below w.heap.size w w' := fun w => zz_any os xs bs w ho hx hb bo bx bb
  have C2 : ∀ w, Calls Try.prog 7 #[.agg (ag os), .agg (ag bs), .agg (ag xs)] w fun e w' => e = .returned (.int .i64 (cf (val os) (val bs) (val xs))) ∧ Below w.heap.size w w' := fun w => zz_any os bs xs w ho hb hx bo bb bx
  have HC : Hid (∀ a1 a2 b1 b2 : List Int, a1.length = 20 → Byts a1 → a2.length = 20 → Byts a2 → b1.length = 20 → Byts b1 → b2.length = 20 → Byts b2 → isSub (val xs) (val os) (val a1) → isSub (val a1) 1 (val a2) → isSub (val bs) (val os) (val b1) → isSub (val b1) 1 (val b2) →
      cf (val os) (val xs) (val bs) = cmpL a2 b2 ∧ cf (val os) (val bs) (val xs) = -cmpL a2 b2) := by
    intro a1 a2 b1 b2 l1 y1 l2 y2 m1 z1 m2 z2 s1 s2 s3 s4
    rw [cmpL_val a2 b2 (by omega) y2 z2]
    exact ⟨cf_dist _ _ _ _ _ _ _ (in20 _ ho bo) (in20 _ hx bx) (in20 _ hb bb) (in20 _ l1 y1) (in20 _ l2 y2) (in20 _ m1 z1) (in20 _ m2 z2) s1 s2 s3 s4, by
      rw [← sgn_neg]
      exact cf_dist _ _ _ _ _ _ _ (in20 _ ho bo) (in20 _ hb bb) (in20 _ hx bx) (in20 _ m1 z1) (in20 _ m2 z2) (in20 _ l1 y1) (in20 _ l2 y2) s3 s4 s1 s2⟩
  have hc1 := cf_bd (val os) (val xs) (val bs)
  generalize cf (val os) (val xs) (val bs) = c at *
  generalize cf (val os) (val bs) (val xs) = d at *
  replace C1 : Hid _ := C1
  replace C2 : Hid _ := C2
  obtain ⟨hc1, hc2⟩ := hc1
  go_enter Try.func3, Try.ntmps3
  go_upto_region 1 with fail
  rw [← hW0]
  clear hW0
  have HH : Hid (HeldL w W0 os xs bs) := hH
  obtain ⟨r1, r2, r3, _⟩ := hH
  go_wp2_with (first
      | (refine wpl_load 22 (.inl rfl) rfl _ rfl _ rfl 22 os (by exact r1) ho ?_)
      | (refine wpl_load 22 (.inl rfl) rfl _ rfl _ rfl 22 xs (by exact r2) hx ?_)
      | (refine wpl_load 22 (.inl rfl) rfl _ rfl _ rfl 22 bs (by exact r3) hb ?_))
  refine (C1.out _).mono ?_
  rintro e w1 ⟨rfl, hb1⟩
  have HH1 : Hid (HeldL w w1 os xs bs) := HH.out.next hb1
  replace r1 := HH1.out.1
  replace r2 := HH1.out.2.1
  replace r3 := HH1.out.2.2.1
  clear hb1 HH C1
  go_wp2_with (first
      | (refine wpl_load 22 (.inl rfl) rfl _ rfl _ rfl 22 os (by exact r1) ho ?_)
      | (refine wpl_load 22 (.inl rfl) rfl _ rfl _ rfl 22 xs (by exact r2) hx ?_)
      | (refine wpl_load 22 (.inl rfl) rfl _ rfl _ rfl 22 bs (by exact r3) hb ?_))
  refine (C2.out _).mono ?_
  rintro e w2 ⟨rfl, hb2⟩
  have hH2 : HeldL w w2 os xs bs := HH1.out.next hb2
  clear hb2 HH1 C2 r1 r2 r3
  go_upto_region 3 with fail
  refine wp_region_held_drew (S := fun w' => HeldL w w' os xs bs) (by kernel_rfl) hH2.drew (fun hHeld => ?_)
  refine wpAnyH_take (i := 0) (v := .agg (ag os)) rfl (by kernel_rfl) (by kernel_rfl) (by kernel_rfl) (fun _ _ _ h => h) (yields22 (by rfl) _ rfl _ rfl 22 os ho (fun w h => h.1)) hHeld ?_
  refine wpAnyH_take (i := 1) (v := .agg (ag xs)) rfl (by kernel_rfl) (by kernel_rfl) (by kernel_rfl) (fun _ _ _ h => h) (yields22 (by rfl) _ rfl _ rfl 22 xs hx (fun w h => h.2.1)) hHeld ?_
  refine wpAnyH_take (i := 3) (v := .agg (ag os)) rfl (by kernel_rfl) (by kernel_rfl) (by kernel_rfl) (fun _ _ _ h => h) (yields22 (by rfl) _ rfl _ rfl 22 os ho (fun w h => h.1)) hHeld ?_
  refine wpAnyH_take (i := 4) (v := .agg (ag bs)) rfl (by kernel_rfl) (by kernel_rfl) (by kernel_rfl) (fun _ _ _ h => h) (yields22 (by rfl) _ rfl _ rfl 22 bs hb (fun w h => h.2.2.1)) hHeld ?_
  simp only [Act.put, List.setIfInBounds_toArray, List.set_cons_zero, List.set_cons_succ]
  refine wpAnyH_ready (rs := [2]) (by kernel_rfl) (by simp) ?_
  refine AllReadyH.cons rfl (fun K hK => ?_) AllReadyH.nil
  go_simp
  refine (rank_any os xs _ ho hx bo bx).mono ?_
  rintro e w3 ⟨a1, a2, rfl, l1, y1, l2, y2, s1, s2, hb3⟩
  refine hK.out _ _ (hHeld.next hb3) (fun hHeld1 => ?_)
  clear hK K hHeld hH2 hb3
  refine wpAnyH_ready (rs := [5]) (by kernel_rfl) (by simp) ?_
  refine AllReadyH.cons rfl (fun K hK => ?_) AllReadyH.nil
  go_simp
  refine (rank_any os bs _ ho hb bo bb).mono ?_
  rintro e w4 ⟨b1, b2, rfl, m1, z1, m2, z2, s3, s4, hb4⟩
  refine hK.out _ _ (hHeld1.next hb4) (fun hHeld2 => ?_)
  clear hK K hHeld1 hb4
  obtain ⟨e1, e2⟩ := HC.out a1 a2 b1 b2 l1 y1 l2 y2 m1 z1 m2 z2 s1 s2 s3 s4
  have hcmp : ∀ w, Calls Try.prog 8 #[.agg (ag a2), .agg (ag b2)] w fun e w' => e = .returned (.int .i64 c) ∧ Below w.heap.size w w' := fun w => by rw [e1]; exact cmp20_any a2 b2 w l2 m2 y2 z2
  rw [← e1] at e2
  subst e2
  replace hcmp : Hid _ := hcmp
  clear e1 HC s1 s2 s3 s4
  refine wpAnyH_ready (rs := [6]) (by kernel_rfl) (by simp) ?_
  refine AllReadyH.cons rfl (fun K hK => ?_) AllReadyH.nil
  go_simp
  refine (hcmp.out _).mono ?_
  rintro e w5 ⟨rfl, hb5⟩
  refine hK.out _ _ (hHeld2.next hb5) (fun hHeld3 => ?_)
  clear hK K hHeld2 hb5
  refine wpAnyH_ready (rs := [7]) (by kernel_rfl) (by simp) ?_
  refine AllReadyH.cons rfl (fun K hK => ?_) AllReadyH.nil
  go_simp
  refine hK.out _ _ hHeld3 (fun _ => ?_)
  clear hK K
  have HB : Hid (Below w.heap.size w w5) := hHeld3.2.2.2
  clear hHeld3
  refine wpAnyH_done (by kernel_rfl) ?_ _
  go_wp2
  go_ret
  exact ⟨rfl, HB.out⟩
end Go.Proofs.Qxb6608829a
