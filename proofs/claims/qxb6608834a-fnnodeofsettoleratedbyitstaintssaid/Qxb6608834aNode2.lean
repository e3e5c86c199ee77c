import Derived.Test.Qxb6608834aNode1
namespace Go.Proofs.Qxb6608834a
open Go.RowKit
set_option linter.unusedVariables false
set_option linter.unusedSimpArgs false

/-! ### MachineSet.NewNode -/
/-- A node of the name s lies at block g: its taints are the n rows F. -/
def NodeAt (w : World) (g : Nat) (s : ByteArray) (F : Nat → Tnt) (n : Nat) : Prop := g < w.heap.size ∧ w.cell? ⟨g, 0, none⟩ = some (.string s) ∧ ∃ a c, w.cell? ⟨g, 3, none⟩ = some (.slice a n c) ∧ RowsIn w 3 (fun j => tntL (F j)) a n
theorem NodeAt.below {w w' : World} {g : Nat} {s : ByteArray} {F : Nat → Tnt} {n : Nat} (h : NodeAt w g s F n) (hb : Below w.heap.size w w') : NodeAt w' g s F n :=
  ⟨Nat.lt_of_lt_of_le h.1 hb.size, by rw [hb.cell (by exact h.1)]; exact h.2.1, let ⟨a, c, h1, h2⟩ := h.2.2; ⟨a, c, by rw [hb.cell (by exact h.1)]; exact h1, h2.below hb⟩⟩
theorem wp_appendN {o : Oper} {a : Act} {w w' : World} {K : Act → World → Prop} {Q : Exit → Act → World → Prop} (s x : Operand) (ho : o.op = .call { callee := .builtin .append, args := #[s, x], argTypes := #[36, 36] })
    (v y r : Value) (hs : a.eval s = v) (hx : a.eval x = y) (hr : ∀ ty, (Builtin.append_ #[36, 36] ty #[v, y]).run Try.prog w = .ok r w') (h : K (a.put o.dst r) w') : o.wp Try.prog a w K Q := by
  unfold Oper.wp execOp
  simp only [ho, resolve, invoke, builtin, Sem.run_bind, Sem.run_pure, Result.andThen_ok, List.map_toArray, List.map_cons, List.map_nil, hs, hx, hr]
  exact h
def NodePost (w : World) (s : ByteArray) (F : Nat → Tnt) (n : Nat) (e : Ending) (w' : World) : Prop := ∃ g, e = .returned (.pointer (some ⟨g, 0, none⟩)) ∧ NodeAt w' g s F n ∧ Below w.heap.size w w'
set_option maxRecDepth 100000 in
set_option maxHeartbeats 1000000 in
theorem newNode_any (gs : Nat) (s : ByteArray) (F : Nat → Tnt) (a : Option Addr) (n : Nat) (w : World) (hn : n ≤ 1048577) (hz : a = none → n = 0) (hgs : gs < w.heap.size) (c2 : w.cell? ⟨gs, 2, none⟩ = some (.map none)) (c3 : w.cell? ⟨gs, 3, none⟩ = some (.slice a n n)) (c4 : w.cell? ⟨gs, 4, none⟩ = some (.map none)) (hp : RowsIn w 3 (fun j => tntL (F j)) a n) :
    Calls Try.prog 20 #[.pointer (some ⟨gs, 0, none⟩), .string s] w (NodePost w s F n) := by
  obtain ⟨a', c', w', happ, hr', hb'⟩ := append_nil_any F a n w.drew hn hz hp
  replace hr' : Hid (RowsIn w' 3 (fun j => tntL (F j)) a' n) := hr'
  replace hb' : Hid (Below w.heap.size w w') := (Below.refl w.heap.size w).drew.trans hb'
  replace hgs : Hid (gs < w.heap.size) := hgs
  replace c2 : Hid (w.cell? ⟨gs, 2, none⟩ = some (.map none)) := c2
  replace c3 : Hid (w.cell? ⟨gs, 3, none⟩ = some (.slice a n n)) := c3
  replace c4 : Hid (w.cell? ⟨gs, 4, none⟩ = some (.map none)) := c4
  clear hp
  go_enter Try.func20, Try.ntmps20
  go_upto_region 1 with fail
  refine wp_region_held_drew (S := fun w1 => Below w.heap.size w w1) (by kernel_rfl) (Below.refl _ _).drew (fun hHeld => ?_)
  refine wpAnyH_takeD (i := 0) 5 (v := (.string s)) rfl rfl (by kernel_rfl) (by kernel_rfl) (by kernel_rfl) (fun _ _ _ h => h) (Or.inl ⟨by rfl, fun _ _ => rfl⟩) hHeld ?_
  simp only [List.set_cons_zero, List.set_cons_succ]
  refine wpAnyH_takeD (i := 1) 6 (v := (.pointer (some ⟨gs, 0, none⟩))) rfl rfl (by kernel_rfl) (by kernel_rfl) (by kernel_rfl) (fun _ _ _ h => h) (Or.inl ⟨by rfl, fun _ _ => rfl⟩) hHeld ?_
  simp only [List.set_cons_zero, List.set_cons_succ]
  refine wpAnyH_takeD (i := 2) 7 (v := (.pointer (some ⟨gs, 0, none⟩))) rfl rfl (by kernel_rfl) (by kernel_rfl) (by kernel_rfl) (fun _ _ _ h => h) (Or.inl ⟨by rfl, fun w1 h => by clear happ; clear h; go_simp⟩) hHeld ?_
  simp only [List.set_cons_zero, List.set_cons_succ]
  refine wpAnyH_takeD (i := 3) 8 (v := (.pointer (some ⟨gs, 2, none⟩))) rfl rfl (by kernel_rfl) (by kernel_rfl) (by kernel_rfl) (fun _ _ _ h => h) (Or.inl ⟨by rfl, fun w1 h => by clear happ; clear h; go_simp⟩) hHeld ?_
  simp only [List.set_cons_zero, List.set_cons_succ]
  refine wpAnyH_takeD (i := 4) 9 (v := (.map none)) rfl rfl (by kernel_rfl) (by kernel_rfl) (by kernel_rfl) (fun _ _ _ h => h) (Or.inl ⟨by rfl, fun w1 h => by clear happ; have hq := (h.cell (p := ⟨gs, 2, none⟩) hgs.out).trans c2.out; clear h; go_simp⟩) hHeld ?_
  simp only [List.set_cons_zero, List.set_cons_succ]
  refine wpAnyH_takeD (i := 5) 10 (v := (.pointer (some ⟨gs, 0, none⟩))) rfl rfl (by kernel_rfl) (by kernel_rfl) (by kernel_rfl) (fun _ _ _ h => h) (Or.inl ⟨by rfl, fun _ _ => rfl⟩) hHeld ?_
  simp only [List.set_cons_zero, List.set_cons_succ]
  refine wpAnyH_takeD (i := 6) 11 (v := (.pointer (some ⟨gs, 0, none⟩))) rfl rfl (by kernel_rfl) (by kernel_rfl) (by kernel_rfl) (fun _ _ _ h => h) (Or.inl ⟨by rfl, fun w1 h => by clear happ; clear h; go_simp⟩) hHeld ?_
  simp only [List.set_cons_zero, List.set_cons_succ]
  refine wpAnyH_takeD (i := 7) 12 (v := (.pointer (some ⟨gs, 4, none⟩))) rfl rfl (by kernel_rfl) (by kernel_rfl) (by kernel_rfl) (fun _ _ _ h => h) (Or.inl ⟨by rfl, fun w1 h => by clear happ; clear h; go_simp⟩) hHeld ?_
  simp only [List.set_cons_zero, List.set_cons_succ]
  refine wpAnyH_takeD (i := 8) 13 (v := (.map none)) rfl rfl (by kernel_rfl) (by kernel_rfl) (by kernel_rfl) (fun _ _ _ h => h) (Or.inl ⟨by rfl, fun w1 h => by clear happ; have hq := (h.cell (p := ⟨gs, 4, none⟩) hgs.out).trans c4.out; clear h; go_simp⟩) hHeld ?_
  simp only [List.set_cons_zero, List.set_cons_succ]
  refine wpAnyH_takeD (i := 9) 14 (v := (.pointer (some ⟨gs, 0, none⟩))) rfl rfl (by kernel_rfl) (by kernel_rfl) (by kernel_rfl) (fun _ _ _ h => h) (Or.inl ⟨by rfl, fun _ _ => rfl⟩) hHeld ?_
  simp only [List.set_cons_zero, List.set_cons_succ]
  refine wpAnyH_takeD (i := 10) 15 (v := (.pointer (some ⟨gs, 0, none⟩))) rfl rfl (by kernel_rfl) (by kernel_rfl) (by kernel_rfl) (fun _ _ _ h => h) (Or.inl ⟨by rfl, fun w1 h => by clear happ; clear h; go_simp⟩) hHeld ?_
  simp only [List.set_cons_zero, List.set_cons_succ]
  refine wpAnyH_takeD (i := 11) 16 (v := (.pointer (some ⟨gs, 3, none⟩))) rfl rfl (by kernel_rfl) (by kernel_rfl) (by kernel_rfl) (fun _ _ _ h => h) (Or.inl ⟨by rfl, fun w1 h => by clear happ; clear h; go_simp⟩) hHeld ?_
  simp only [List.set_cons_zero, List.set_cons_succ]
  refine wpAnyH_takeD (i := 12) 17 (v := (.slice a n n)) rfl rfl (by kernel_rfl) (by kernel_rfl) (by kernel_rfl) (fun _ _ _ h => h) (Or.inl ⟨by rfl, fun w1 h => by clear happ; have hq := (h.cell (p := ⟨gs, 3, none⟩) hgs.out).trans c3.out; clear h; go_simp⟩) hHeld ?_
  simp only [List.set_cons_zero, List.set_cons_succ]
  refine wpAnyH_ready (rs := [13]) (by kernel_rfl) (by simp) ?_
  refine AllReadyH.cons rfl (fun K hK => ?_) AllReadyH.nil
  rw [if_pos (by rfl)]
  refine wp_appendN (.const (.slice none 0 0)) (.tmp 17) rfl _ _ _ rfl rfl happ ?_
  refine hK.out _ _ (by exact hb'.out) (fun hHeld1 => ?_)
  clear hK K happ
  simp only [Act.put, List.setIfInBounds_toArray, List.set_cons_zero, List.set_cons_succ]
  refine wpAnyH_takeD (i := 14) 19 (v := (.agg #[.string s, .map none, .map none, .slice a' n c', .bool false, .map none, .bool false])) rfl rfl (by kernel_rfl) (by kernel_rfl) (by kernel_rfl) (fun _ _ _ h => h) (Or.inl ⟨by rfl, fun w1 h => by clear h; go_simp⟩) hHeld1 ?_
  simp only [List.set_cons_zero, List.set_cons_succ]
  refine wpAnyH_ready (rs := [15]) (by kernel_rfl) (by simp) ?_
  refine AllReadyH.cons rfl (fun K hK => ?_) AllReadyH.nil
  go_simp
  refine hK.out _ _ (by exact hb'.out.alloc hb'.out.size _) (fun hHeld2 => ?_)
  clear hK K
  refine wpAnyH_takeD (i := 16) 4 (v := (.pointer (some ⟨w'.heap.size, 0, none⟩))) rfl rfl (by kernel_rfl) (by kernel_rfl) (by kernel_rfl) (fun _ _ _ h => h) (Or.inl ⟨by rfl, fun _ _ => rfl⟩) hHeld2 ?_
  simp only [List.set_cons_zero, List.set_cons_succ]
  refine wpAnyH_done (by kernel_rfl) ?_ _
  clear hHeld hHeld1 hHeld2
  go_wp2
  go_ret
  refine ⟨w'.heap.size, rfl, ⟨by simp, ?_, a', c', ?_, hr'.out.below (below1 _ _)⟩, hb'.out.alloc hb'.out.size _⟩
  · rw [cell_of_row _ _ 0 _ _ _ (heap_alloc_new _ _)]; rfl
  · rw [cell_of_row _ _ 3 _ _ _ (heap_alloc_new _ _)]; rfl
end Go.Proofs.Qxb6608834a
