import Derived.Test.Qxb6608834aReq2
namespace Go.Proofs.Qxb6608834a
open Go.RowKit Go.Maps Go.WideMaps
set_option linter.unusedVariables false
set_option linter.unusedSimpArgs false

/-! ### containers, pods -/
theorem info85 : (Try.prog.info? 85).map (fun i => (i.zero.isSome, i.size, i.bytes)) = some (true, 4, 56) := by kernel_rfl
def ConAt (w : World) (b o : Nat) (v : Int) : Prop := ∃ m, w.cell? ⟨b, o + 1, none⟩ = some (.map (some m)) ∧ CpuMap w m v
theorem cell_same {w w' : World} {a : Addr} (h : w'.heap[a.block]? = w.heap[a.block]?) : w'.cell? a = w.cell? a := by simp [World.cell?, h]
theorem ConAt.below {w w' : World} {b o : Nat} {v : Int} (h : ConAt w b o v) (hb : Below w.heap.size w w') : ConAt w' b o v := by
  obtain ⟨m, hc, hm⟩ := h
  exact ⟨m, by rw [hb.cell (lt_of_cell hc)]; exact hc, hm.same (hb.block m hm.lt)⟩
/-- All blocks of W stand in w, but gc. -/
def Kept (W : World) (gc : Nat) (w : World) : Prop := W.heap.size ≤ w.heap.size ∧ ∀ b, b < W.heap.size → b ≠ gc → w.heap[b]? = W.heap[b]?
theorem Kept.refl (W : World) (gc : Nat) : Kept W gc W := ⟨Nat.le_refl _, fun _ _ _ => rfl⟩
theorem Kept.drew {W w : World} {gc : Nat} (h : Kept W gc w) : Kept W gc w.drew := h
theorem Kept.below {W w w' : World} {gc : Nat} (h : Kept W gc w) (hb : Below w.heap.size w w') : Kept W gc w' :=
  ⟨Nat.le_trans h.1 hb.size, fun b hb1 hb2 => by rw [hb.block b (Nat.lt_of_lt_of_le hb1 h.1)]; exact h.2 b hb1 hb2⟩
theorem size_setCell (w : World) (a : Addr) (v : Value) : (w.setCell a v).heap.size = w.heap.size := by simp [World.setCell]
theorem Kept.setCell {W w : World} {gc : Nat} (h : Kept W gc w) (o : Nat) (v : Value) : Kept W gc (w.setCell ⟨gc, o, none⟩ v) :=
  ⟨by rw [size_setCell]; exact h.1, fun b hb1 hb2 => by rw [Below.heap_setCell _ _ _ _ hb2]; exact h.2 b hb1 hb2⟩
theorem Kept.cell {W w : World} {gc : Nat} (h : Kept W gc w) {a : Addr} (ha : a.block < W.heap.size) (hne : a.block ≠ gc) : w.cell? a = W.cell? a := cell_same (h.2 _ ha hne)
theorem ne_map {w : World} {g m : Nat} {t : TypeId} {k : Nat} {v : Int} (hb : Blk w g t k) (hm : CpuMap w m v) : m ≠ g := by
  rintro rfl
  obtain ⟨C, h1, _⟩ := hb
  obtain ⟨es, cl, h2, _⟩ := hm
  rw [h1] at h2
  cases h2
theorem ConAt.kept {W w : World} {gc b o k : Nat} {t : TypeId} {v : Int} (h : ConAt W b o v) (hk : Kept W gc w) (hb : Blk W gc t k) (hne : b ≠ gc) : ConAt w b o v := by
  obtain ⟨m, hc, hm⟩ := h
  exact ⟨m, by rw [hk.cell (lt_of_cell hc) hne]; exact hc, hm.same (hk.2 m hm.lt (ne_map hb hm))⟩
theorem Blk.storedCell {w : World} {g : Nat} {t : TypeId} {m : Nat} (h : Blk w g t m) (o : Nat) (v : Value) : Blk (w.setCell ⟨g, o, none⟩ v) g t m := h.stored o [v]
def HeldC (w0 W : World) (gc : Nat) (X : Nat → Int) (n k : Nat) (w : World) : Prop := Below w0.heap.size w0 w ∧ Kept W gc w ∧ Blk w gc 85 (n * 4) ∧ ∀ j, j < k → ConAt w gc (j * 4) (X j)
theorem HeldC.stored {w0 W w w2 : World} {gc m : Nat} {X : Nat → Int} {n k : Nat} (h : HeldC w0 W gc X n k w) (hgc : w0.heap.size ≤ gc) (hb : Below w.heap.size w w2) (hm : CpuMap w2 m (X k)) (hkn : k < n) : HeldC w0 W gc X n (k + 1) (w2.setCell ⟨gc, k * 4 + 1, none⟩ (.map (some m))) := by
  have hblk : Blk w2 gc 85 (n * 4) := h.2.2.1.below hb h.2.2.1.lt
  have hne := ne_map hblk hm
  refine ⟨(h.1.trans (hb.mono h.1.size)).setCell hgc _, (h.2.1.below hb).setCell _ _, hblk.storedCell _ _, fun j hj => ?_⟩
  by_cases hjk : j = k
  · subst hjk
    refine ⟨m, ?_, hm.same (Below.heap_setCell _ _ _ _ hne)⟩
    have := World.rangeAt_setCells_same w2 gc (j * 4 + 1) [.map (some m)] (hblk.there _ _ (by have := row_fits 4 hkn; simp; omega))
    exact this 0 _ rfl
  · obtain ⟨m', hc, hm'⟩ := (h.2.2.2 j (by omega)).below hb
    refine ⟨m', ?_, hm'.same (Below.heap_setCell _ _ _ _ (ne_map hblk hm'))⟩
    rw [← hc]
    exact World.cell?_setCells_out gc [.map (some m)] (k * 4 + 1) w2 _ (fun _ _ => by simp; omega)
/-- The slice in the pod's cell 'cell' holds n containers of the amounts X. -/
def Good (w : World) (gp : Nat) (X : Nat → Int) (n cell : Nat) : Prop := ∃ ac, w.cell? ⟨gp, cell, none⟩ = some (.slice ac n n) ∧ (0 < n → ∃ b o, ac = some ⟨b, o, none⟩ ∧ b < w.heap.size ∧ b ≠ gp ∧ ∀ j, j < n → ConAt w b (o + j * 4) (X j))
theorem Good.below {w w' : World} {gp : Nat} {X : Nat → Int} {n cell : Nat} (h : Good w gp X n cell) (hb : Below w.heap.size w w') : Good w' gp X n cell := by
  obtain ⟨ac, hc, hr⟩ := h
  refine ⟨ac, by rw [hb.cell (lt_of_cell hc)]; exact hc, fun hn => ?_⟩
  obtain ⟨b, o, e, hl, hne, hj⟩ := hr hn
  exact ⟨b, o, e, Nat.lt_of_lt_of_le hl hb.size, hne, fun j hjn => (hj j hjn).below hb⟩
theorem Good.carry {W wr : World} {gp : Nat} {X : Nat → Int} {n cell : Nat} (h : Good W gp X n cell) {t : TypeId} {m : Nat} (hbk : Blk W gp t m) (hk : Kept W gp wr) (hc : wr.cell? ⟨gp, cell, none⟩ = W.cell? ⟨gp, cell, none⟩) : Good wr gp X n cell := by
  obtain ⟨ac, hc', hr⟩ := h
  refine ⟨ac, by rw [hc]; exact hc', fun hn => ?_⟩
  obtain ⟨b, o, e, hl, hne, hj⟩ := hr hn
  exact ⟨b, o, e, Nat.lt_of_lt_of_le hl hk.1, hne, fun j hjn => (hj j hjn).kept hk hbk hne⟩
theorem Good.zero {w : World} {gp : Nat} (X : Nat → Int) {cell : Nat} (h : w.cell? ⟨gp, cell, none⟩ = some (.slice none 0 0)) : Good w gp X 0 cell := ⟨none, h, fun hn => absurd hn (by omega)⟩
/-- What a make and a store into the pod's cell leave. -/
structure Made (w W W1 : World) (gp gc cell n : Nat) (X : Nat → Int) : Prop where
  blk : Blk W1 gp 82 18
  held : HeldC w W1 gc X n 0 W1
  cl : W1.cell? ⟨gp, cell, none⟩ = some (.slice (some ⟨gc, 0, none⟩) n n)
  lt : gp < W1.heap.size
  ne : gp ≠ gc
  le : w.heap.size ≤ gc
  oth : ∀ o, o ≠ cell → W1.cell? ⟨gp, o, none⟩ = W.cell? ⟨gp, o, none⟩
  kept : Kept W gp W1
  old : W.heap.size = gc
theorem pod_made {w W : World} {gp gc cell n : Nat} {C : Array Value} (X : Nat → Int) (hC : C.size = n * 4) (hgc : gc = W.heap.size) (hbk : Blk W gp 82 18) (hb : Below w.heap.size w W) (hgp : w.heap.size ≤ gp) (hcell : cell < 18) :
    Made w W ((W.setCell ⟨gp, cell, none⟩ (.slice (some ⟨gc, 0, none⟩) n n)).alloc (.cells C 85)) gp gc cell n X := by
  subst hgc
  have hz := hbk.lt
  have hszA : (W.setCell ⟨gp, cell, none⟩ (.slice (some ⟨W.heap.size, 0, none⟩) n n)).heap.size = W.heap.size := size_setCell _ _ _
  have hbA := hbk.storedCell cell (.slice (some ⟨W.heap.size, 0, none⟩) n n)
  have hbl := below1 (W.setCell ⟨gp, cell, none⟩ (.slice (some ⟨W.heap.size, 0, none⟩) n n)) (.cells C 85)
  have hk1 : Kept W gp (W.setCell ⟨gp, cell, none⟩ (.slice (some ⟨W.heap.size, 0, none⟩) n n)) := (Kept.refl W gp).setCell cell _
  refine ⟨hbA.below hbl (by rw [hszA]; exact hz), ⟨(hb.setCell (by exact hgp) _).trans (hbl.mono (by rw [hszA]; exact hb.size)), Kept.refl _ _, by rw [← hC]; exact Blk.new _ _ _ hszA.symm, fun j hj => absurd hj (by omega)⟩, ?_, ?_, by omega, hb.size, fun o ho => ?_, hk1.below hbl, rfl⟩
  · rw [hbl.cell (by rw [hszA]; exact hz)]
    exact World.rangeAt_setCells_same W gp cell [.slice (some ⟨W.heap.size, 0, none⟩) n n] (hbk.there _ _ (by simp; omega)) 0 _ rfl
  · simp [size_setCell]; omega
  · rw [hbl.cell (by rw [hszA]; exact hz)]
    exact World.cell?_setCells_out gp [.slice (some ⟨W.heap.size, 0, none⟩) n n] cell W _ (fun _ _ => by simp; omega)
theorem Made.good {w W W1 wr : World} {gp gc cell n : Nat} {X : Nat → Int} (h : Made w W W1 gp gc cell n X) (hH : HeldC w W1 gc X n n wr) : Good wr gp X n cell :=
  ⟨_, by rw [hH.2.1.cell (by exact h.lt) h.ne]; exact h.cl, fun _ => ⟨gc, 0, rfl, hH.2.2.1.lt, Ne.symm h.ne, fun j hj => by rw [Nat.zero_add]; exact hH.2.2.2 j hj⟩⟩
theorem Made.keptV {w W W1 wr : World} {gp gc cell n : Nat} {X : Nat → Int} (h : Made w W W1 gp gc cell n X) (hH : HeldC w W1 gc X n n wr) : Kept W gp wr :=
  ⟨Nat.le_trans h.kept.1 hH.2.1.1, fun b hb1 hb2 => by rw [hH.2.1.2 b (Nat.lt_of_lt_of_le hb1 h.kept.1) (by have := h.old; omega)]; exact h.kept.2 b hb1 hb2⟩
theorem Made.othV {w W W1 wr : World} {gp gc cell n : Nat} {X : Nat → Int} (h : Made w W W1 gp gc cell n X) (hH : HeldC w W1 gc X n n wr) (o : Nat) (ho : o ≠ cell) : wr.cell? ⟨gp, o, none⟩ = W.cell? ⟨gp, o, none⟩ := by
  rw [hH.2.1.cell (by exact h.lt) h.ne]; exact h.oth o ho
theorem Made.blkV {w W W1 wr : World} {gp gc cell n : Nat} {X : Nat → Int} (h : Made w W W1 gp gc cell n X) (hH : HeldC w W1 gc X n n wr) : Blk wr gp 82 18 := h.blk.same (hH.2.1.2 gp h.lt h.ne)

def PodR (w : World) (g : Nat) (X : Nat → Int) (n : Nat) (Y : Nat → Int) (n' : Nat) : Prop := g < w.heap.size ∧ Good w g X n 14 ∧ Good w g Y n' 15
def PodRPost (w : World) (X : Nat → Int) (n : Nat) (Y : Nat → Int) (n' : Nat) (e : Ending) (w' : World) : Prop := ∃ g, e = .returned (.pointer (some ⟨g, 0, none⟩)) ∧ PodR w' g X n Y n' ∧ Below w.heap.size w w'
def podC : Array Value := #[.string ⟨#[110, 115]⟩, .string ⟨#[112]⟩, .map none, .slice none 0 0, .string ⟨#[]⟩, .int .i64 0, .map none, .pointer none, .slice none 0 0, .slice none 0 0, .slice none 0 0, .slice none 0 0, .slice none 0 0, .slice none 0 0, .slice none 0 0, .slice none 0 0, .bool false, .bool false]

set_option maxRecDepth 100000 in
set_option maxHeartbeats 4000000 in
theorem podOf_any (X Y : Nat → Int) (a a' : Option Addr) (n c n' c' : Nat) (w : World) (hn : n ≤ 1048577) (hn' : n' ≤ 1048577) (hp : RowsIn w 1 (fun j => iL (X j)) a n) (hp' : RowsIn w 1 (fun j => iL (Y j)) a' n') (hX : ∀ j, j < n → I64 (X j)) (hY : ∀ j, j < n' → I64 (Y j)) :
    Calls Try.prog 11 #[.slice a n c, .slice a' n' c'] w (PodRPost w X n Y n') := by
  have hmm := @run_makeMap Try.prog
  obtain ⟨C, hC, hmk⟩ := makes 80 85 4 56 Try.underlying80 info85 n hn (by omega)
  obtain ⟨C', hC', hmk'⟩ := makes 80 85 4 56 Try.underlying80 info85 n' hn' (by omega)
  replace hC : Hid (C.size = n * 4) := hC
  replace hC' : Hid (C'.size = n' * 4) := hC'
  replace hp : Hid (RowsIn w 1 (fun j => iL (X j)) a n) := hp
  replace hp' : Hid (RowsIn w 1 (fun j => iL (Y j)) a' n') := hp'
  replace hX : Hid (∀ j, j < n → I64 (X j)) := hX
  replace hY : Hid (∀ j, j < n' → I64 (Y j)) := hY
  obtain ⟨gp, hgp⟩ : ∃ gp, gp = w.heap.size := ⟨_, rfl⟩
  go_enter Try.func11, Try.ntmps11
  go_upto_region 2 with fail
  obtain ⟨W, hW, hbk, c14, c15, hb, hz⟩ : ∃ W, W = w.alloc (.cells podC 82) ∧ Blk W gp 82 18 ∧ W.cell? ⟨gp, 14, none⟩ = some (.slice none 0 0) ∧ W.cell? ⟨gp, 15, none⟩ = some (.slice none 0 0) ∧ Below w.heap.size w W ∧ gp < W.heap.size := by
    subst hgp
    exact ⟨_, rfl, Blk.new _ _ _ rfl, by rw [cell_of_row _ _ 14 _ _ _ (heap_alloc_new _ _)]; rfl, by rw [cell_of_row _ _ 15 _ _ _ (heap_alloc_new _ _)]; rfl, below1 _ _, by simp⟩
  rw [podC] at hW
  rw [← hgp, ← hW]
  clear hW
  replace hgp : Hid (gp = w.heap.size) := hgp
  replace hbk : Hid (Blk W gp 82 18) := hbk
  replace hb : Hid (Below w.heap.size w W) := hb
  have fz : W.frozen? ⟨gp, 14, none⟩ = false := (hbk.out.there 14 1 (by omega) 0 (by omega)).2
  by_cases hn0 : n = 0
  · subst hn0
    go_upto_region 8 with fail
    obtain ⟨V, hV⟩ : ∃ V, V = W := ⟨_, rfl⟩
    rw [← hV]
    obtain ⟨hbkV, hG, hc15, hbV⟩ : Hid (Blk V gp 82 18) ∧ Hid (Good V gp X 0 14) ∧ Hid (V.cell? ⟨gp, 15, none⟩ = some (.slice none 0 0)) ∧ Hid (Below w.heap.size w V) := by subst hV; exact ⟨hbk, Good.zero X c14, c15, hb⟩
    clear hV hbk c14 c15 hb hz fz hC hmk hp hX
    by_cases hn0' : n' = 0
    · subst hn0'
      go_wp2
      go_ret
      exact ⟨gp, rfl, ⟨hbkV.out.lt, hG.out, Good.zero Y hc15.out⟩, hbV.out⟩
    · have hnp' : (0 : Int) < (n' : Int) := by omega
      obtain ⟨gd, hgd⟩ : ∃ gd, gd = V.heap.size := ⟨_, rfl⟩
      have c15 : V.cell? ⟨gp, 15, none⟩ = some (.slice none 0 0) := hc15.out
      have fz : V.frozen? ⟨gp, 15, none⟩ = false := (hbkV.out.there 15 1 (by omega) 0 (by omega)).2
      have hzV : gp < V.heap.size := hbkV.out.lt
      go_upto_region 11 with fail
      rw [show decide (0 < n') = true from decide_eq_true (by omega)]
      obtain ⟨V1, hV1, hM2⟩ : ∃ V1, V1 = (V.setCell ⟨gp, 15, none⟩ (.slice (some ⟨gd, 0, none⟩) n' n')).alloc (.cells C' 85) ∧ Made w V V1 gp gd 15 n' Y := ⟨_, rfl, pod_made Y hC'.out hgd hbkV.out hbV.out (by have := hgp.out; omega) (by omega)⟩
      rw [← hgd, ← hV1]
      replace hM2 : Hid (Made w V V1 gp gd 15 n' Y) := hM2
      have hcellgd : Hid (V1.cell? ⟨gp, 15, none⟩ = some (.slice (some ⟨gd, 0, none⟩) n' n')) := hM2.out.cl
      have hgpW : Hid (gp < V1.heap.size) := hM2.out.lt
      have hnegd : Hid (gp ≠ gd) := hM2.out.ne
      have hlegd : Hid (w.heap.size ≤ gd) := hM2.out.le
      have hH2 : Hid (HeldC w V1 gd Y n' 0 V1) := hM2.out.held
      clear hV1 hgd c15 fz hc15 hzV
      go_loopw [7] (fun i wr => ∃ k : Nat, k ≤ n' ∧ i = .int .i64 k ∧ Hid (HeldC w V1 gd Y n' k wr)) (fun i _ => n' - (intOf i).toNat)
      case atStart => exact ⟨0, Nat.zero_le _, rfl, hH2⟩
      case round =>
        obtain ⟨k, hk, rfl, hH⟩ := hrel
        by_cases hkn : k < n'
        · obtain ⟨b, o, rfl, hl, hj⟩ := hp'.out (by omega)
          have hsrc : Hid (∀ w', Below w.heap.size w w' → w'.cell? ⟨b, o + k, none⟩ = some (.int .i64 (Y k))) := fun w' hb' => by have := range_below (hj k hkn) hb' hl 0 _ rfl; simpa using this
          have hxk := hY.out k hkn
          have hk0 : (0 : Int) ≤ (k : Int) := by omega
          have hk1 : (k : Int) < (n' : Int) := by omega
          clear hj hl
          go_wp2
          refine wp_region_held_drew (S := fun w' => Below w.heap.size w w' ∧ Kept V1 gd w') (by kernel_rfl) ⟨hH.out.1.drew, hH.out.2.1.drew⟩ (fun hHeld => ?_)
          refine wpAnyH_takeD (i := 0) 53 (v := (.pointer (some ⟨gp, 0, none⟩))) rfl rfl (by kernel_rfl) (by kernel_rfl) (by kernel_rfl) (fun _ _ _ h => h) (Or.inl ⟨by rfl, fun _ _ => rfl⟩) hHeld ?_
          simp only [List.set_cons_zero, List.set_cons_succ]
          refine wpAnyH_takeD (i := 1) 54 (v := (.pointer (some ⟨gp, 0, none⟩))) rfl rfl (by kernel_rfl) (by kernel_rfl) (by kernel_rfl) (fun _ _ _ h => h) (Or.inl ⟨by rfl, fun w' h => by clear h; go_simp⟩) hHeld ?_
          simp only [List.set_cons_zero, List.set_cons_succ]
          refine wpAnyH_takeD (i := 2) 55 (v := (.pointer (some ⟨gp, 15, none⟩))) rfl rfl (by kernel_rfl) (by kernel_rfl) (by kernel_rfl) (fun _ _ _ h => h) (Or.inl ⟨by rfl, fun w' h => by clear h; go_simp⟩) hHeld ?_
          simp only [List.set_cons_zero, List.set_cons_succ]
          refine wpAnyH_takeD (i := 3) 56 (v := (.slice (some ⟨gd, 0, none⟩) n' n')) rfl rfl (by kernel_rfl) (by kernel_rfl) (by kernel_rfl) (fun _ _ _ h => h) (Or.inl ⟨by rfl, fun w' h => by have hq := (h.2.cell (a := ⟨gp, 15, none⟩) hgpW.out hnegd.out).trans hcellgd.out; clear h; go_simp⟩) hHeld ?_
          simp only [List.set_cons_zero, List.set_cons_succ]
          refine wpAnyH_takeD (i := 4) 57 (v := (.int .i64 k)) rfl rfl (by kernel_rfl) (by kernel_rfl) (by kernel_rfl) (fun _ _ _ h => h) (Or.inl ⟨by rfl, fun _ _ => rfl⟩) hHeld ?_
          simp only [List.set_cons_zero, List.set_cons_succ]
          refine wpAnyH_takeD (i := 6) 59 (v := (.slice (some ⟨b, o, none⟩) n' c')) rfl rfl (by kernel_rfl) (by kernel_rfl) (by kernel_rfl) (fun _ _ _ h => h) (Or.inl ⟨by rfl, fun _ _ => rfl⟩) hHeld ?_
          simp only [List.set_cons_zero, List.set_cons_succ]
          refine wpAnyH_takeD (i := 7) 60 (v := (.int .i64 k)) rfl rfl (by kernel_rfl) (by kernel_rfl) (by kernel_rfl) (fun _ _ _ h => h) (Or.inl ⟨by rfl, fun _ _ => rfl⟩) hHeld ?_
          simp only [List.set_cons_zero, List.set_cons_succ]
          refine wpAnyH_takeD (i := 8) 61 (v := (.pointer (some ⟨b, o + k, none⟩))) rfl rfl (by kernel_rfl) (by kernel_rfl) (by kernel_rfl) (fun _ _ _ h => h) (Or.inl ⟨by rfl, fun w' h => by clear h; go_simp⟩) hHeld ?_
          simp only [List.set_cons_zero, List.set_cons_succ]
          refine wpAnyH_takeD (i := 9) 62 (v := (.int .i64 (Y k))) rfl rfl (by kernel_rfl) (by kernel_rfl) (by kernel_rfl) (fun _ _ _ h => h) (Or.inl ⟨by rfl, fun w' h => by have hq := hsrc.out w' h.1; clear h; go_simp⟩) hHeld ?_
          simp only [List.set_cons_zero, List.set_cons_succ]
          refine wpAnyH_ready (rs := [5]) (by kernel_rfl) (by simp) ?_
          refine AllReadyH.cons rfl (fun K hK => ?_) AllReadyH.nil
          go_simp
          refine hK.out _ _ (by exact ⟨hHeld.1.alloc hHeld.1.size _, hHeld.2.below (below1 _ _)⟩) (fun hHeld1 => ?_)
          clear hK K
          obtain ⟨w2, hup, hmap, hb2⟩ := CpuMap.made wr.drew (Y k) hxk
          have hb2' : Below wr.heap.size wr w2 := ((Below.refl wr.heap.size wr).drew).trans hb2
          refine wpAnyH_ready (rs := [10]) (by kernel_rfl) (by simp) ?_
          refine AllReadyH.cons rfl (fun K hK => ?_) AllReadyH.nil
          have hup' : (Instr.mapUpdate 40 (.map (some wr.heap.size)) (.string ⟨#[99, 112, 117]⟩) (.int .i64 (Y k))).run Try.prog (wr.alloc (.map #[] 0)).drew = .ok () w2 := by exact hup
          go_simp
          refine hK.out _ _ (by exact ⟨hHeld.1.trans (hb2.mono hHeld.1.size), hHeld.2.below hb2⟩) (fun hHeld2 => ?_)
          clear hK K
          refine wpAnyH_takeD (i := 11) 63 (v := (.map (some wr.heap.size))) rfl rfl (by kernel_rfl) (by kernel_rfl) (by kernel_rfl) (fun _ _ _ h => h) (Or.inl ⟨by rfl, fun _ _ => rfl⟩) hHeld2 ?_
          simp only [List.set_cons_zero, List.set_cons_succ]
          refine wpAnyH_takeD (i := 12) 64 (v := (.pointer (some ⟨gd, k * 4, none⟩))) rfl rfl (by kernel_rfl) (by kernel_rfl) (by kernel_rfl) (fun _ _ _ h => h) (Or.inl ⟨by rfl, fun w' h => by clear h; go_simp⟩) hHeld2 ?_
          simp only [List.set_cons_zero, List.set_cons_succ]
          refine wpAnyH_takeD (i := 13) 65 (v := (.pointer (some ⟨gd, k * 4 + 1, none⟩))) rfl rfl (by kernel_rfl) (by kernel_rfl) (by kernel_rfl) (fun _ _ _ h => h) (Or.inl ⟨by rfl, fun w' h => by clear h; go_simp⟩) hHeld2 ?_
          simp only [List.set_cons_zero, List.set_cons_succ]
          refine wpAnyH_ready (rs := [14]) (by kernel_rfl) (by simp) ?_
          refine AllReadyH.cons rfl (fun K hK => ?_) AllReadyH.nil
          obtain ⟨tv, t1, t2⟩ : ∃ v, w2.cell? ⟨gd, k * 4 + 1, none⟩ = some v ∧ w2.frozen? ⟨gd, k * 4 + 1, none⟩ = false := by
            have hbk2 : Blk w2 gd 85 (n' * 4) := hH.out.2.2.1.below (w' := w2) hb2' hH.out.2.2.1.lt
            have ht := hbk2.there (k * 4 + 1) 1 (by have := row_fits 4 hkn; omega) 0 (by omega)
            obtain ⟨v, hv⟩ := Option.isSome_iff_exists.1 ht.1
            exact ⟨v, hv, ht.2⟩
          have H3 : Hid (HeldC w V1 gd Y n' (k + 1) (w2.setCell ⟨gd, k * 4 + 1, none⟩ (.map (some wr.heap.size)))) := HeldC.stored (w := wr) hH.out hlegd.out hb2' hmap hkn
          clear hup hup' hmap hb2 hb2'
          go_simp
          refine hK.out _ _ (by exact ⟨H3.out.1, H3.out.2.1⟩) (fun hHeld3 => ?_)
          clear hK K hHeld hHeld1 hHeld2 hHeld3 hH t1 t2
          refine wpAnyH_done (by kernel_rfl) ?_ _
          go_wp2
          go_roundw
          case rel => exact ⟨k + 1, by omega, by go_num, H3⟩
          case measure => simp [intOf]; omega
        · have hkk : k = n' := by omega
          subst hkk
          go_wp2
          go_ret
          exact ⟨gp, rfl, ⟨(hM2.out.blkV hH.out).lt, hG.out.carry hbkV.out (hM2.out.keptV hH.out) (hM2.out.othV hH.out 14 (by omega)), hM2.out.good hH.out⟩, hH.out.1⟩
  · have hnp : (0 : Int) < (n : Int) := by omega
    go_upto_region 5 with fail
    rw [show decide (0 < n) = true from decide_eq_true (by omega)]
    obtain ⟨gc, hgc⟩ : ∃ gc, gc = W.heap.size := ⟨_, rfl⟩
    obtain ⟨W1, hW1, hM⟩ : ∃ W1, W1 = (W.setCell ⟨gp, 14, none⟩ (.slice (some ⟨gc, 0, none⟩) n n)).alloc (.cells C 85) ∧ Made w W W1 gp gc 14 n X := ⟨_, rfl, pod_made X hC.out hgc hbk.out hb.out (by have := hgp.out; omega) (by omega)⟩
    rw [← hgc, ← hW1]
    replace hM : Hid (Made w W W1 gp gc 14 n X) := hM
    have hcellgc : Hid (W1.cell? ⟨gp, 14, none⟩ = some (.slice (some ⟨gc, 0, none⟩) n n)) := hM.out.cl
    have hgpW : Hid (gp < W1.heap.size) := hM.out.lt
    have hnegc : Hid (gp ≠ gc) := hM.out.ne
    have hlegc : Hid (w.heap.size ≤ gc) := hM.out.le
    have hH1 : Hid (HeldC w W1 gc X n 0 W1) := hM.out.held
    replace c15 : Hid (W.cell? ⟨gp, 15, none⟩ = some (.slice none 0 0)) := c15
    clear hW1 hgc c14 fz hC hmk
    go_loopw [6] (fun i wr => ∃ k : Nat, k ≤ n ∧ i = .int .i64 k ∧ Hid (HeldC w W1 gc X n k wr)) (fun i _ => n - (intOf i).toNat)
    case atStart => exact ⟨0, Nat.zero_le _, rfl, hH1⟩
    case round =>
      obtain ⟨k, hk, rfl, hH⟩ := hrel
      by_cases hkn : k < n
      · obtain ⟨b, o, rfl, hl, hj⟩ := hp.out (by omega)
        have hsrc : Hid (∀ w', Below w.heap.size w w' → w'.cell? ⟨b, o + k, none⟩ = some (.int .i64 (X k))) := fun w' hb' => by have := range_below (hj k hkn) hb' hl 0 _ rfl; simpa using this
        have hxk := hX.out k hkn
        have hk0 : (0 : Int) ≤ (k : Int) := by omega
        have hk1 : (k : Int) < (n : Int) := by omega
        clear hj hl
        go_wp2
        refine wp_region_held_drew (S := fun w' => Below w.heap.size w w' ∧ Kept W1 gc w') (by kernel_rfl) ⟨hH.out.1.drew, hH.out.2.1.drew⟩ (fun hHeld => ?_)
        refine wpAnyH_takeD (i := 0) 25 (v := (.pointer (some ⟨gp, 0, none⟩))) rfl rfl (by kernel_rfl) (by kernel_rfl) (by kernel_rfl) (fun _ _ _ h => h) (Or.inl ⟨by rfl, fun _ _ => rfl⟩) hHeld ?_
        simp only [List.set_cons_zero, List.set_cons_succ]
        refine wpAnyH_takeD (i := 1) 26 (v := (.pointer (some ⟨gp, 0, none⟩))) rfl rfl (by kernel_rfl) (by kernel_rfl) (by kernel_rfl) (fun _ _ _ h => h) (Or.inl ⟨by rfl, fun w' h => by clear h; go_simp⟩) hHeld ?_
        simp only [List.set_cons_zero, List.set_cons_succ]
        refine wpAnyH_takeD (i := 2) 27 (v := (.pointer (some ⟨gp, 14, none⟩))) rfl rfl (by kernel_rfl) (by kernel_rfl) (by kernel_rfl) (fun _ _ _ h => h) (Or.inl ⟨by rfl, fun w' h => by clear h; go_simp⟩) hHeld ?_
        simp only [List.set_cons_zero, List.set_cons_succ]
        refine wpAnyH_takeD (i := 3) 28 (v := (.slice (some ⟨gc, 0, none⟩) n n)) rfl rfl (by kernel_rfl) (by kernel_rfl) (by kernel_rfl) (fun _ _ _ h => h) (Or.inl ⟨by rfl, fun w' h => by have hq := (h.2.cell (a := ⟨gp, 14, none⟩) hgpW.out hnegc.out).trans hcellgc.out; clear h; go_simp⟩) hHeld ?_
        simp only [List.set_cons_zero, List.set_cons_succ]
        refine wpAnyH_takeD (i := 4) 29 (v := (.int .i64 k)) rfl rfl (by kernel_rfl) (by kernel_rfl) (by kernel_rfl) (fun _ _ _ h => h) (Or.inl ⟨by rfl, fun _ _ => rfl⟩) hHeld ?_
        simp only [List.set_cons_zero, List.set_cons_succ]
        refine wpAnyH_takeD (i := 6) 31 (v := (.slice (some ⟨b, o, none⟩) n c)) rfl rfl (by kernel_rfl) (by kernel_rfl) (by kernel_rfl) (fun _ _ _ h => h) (Or.inl ⟨by rfl, fun _ _ => rfl⟩) hHeld ?_
        simp only [List.set_cons_zero, List.set_cons_succ]
        refine wpAnyH_takeD (i := 7) 32 (v := (.int .i64 k)) rfl rfl (by kernel_rfl) (by kernel_rfl) (by kernel_rfl) (fun _ _ _ h => h) (Or.inl ⟨by rfl, fun _ _ => rfl⟩) hHeld ?_
        simp only [List.set_cons_zero, List.set_cons_succ]
        refine wpAnyH_takeD (i := 8) 33 (v := (.pointer (some ⟨b, o + k, none⟩))) rfl rfl (by kernel_rfl) (by kernel_rfl) (by kernel_rfl) (fun _ _ _ h => h) (Or.inl ⟨by rfl, fun w' h => by clear h; go_simp⟩) hHeld ?_
        simp only [List.set_cons_zero, List.set_cons_succ]
        refine wpAnyH_takeD (i := 9) 34 (v := (.int .i64 (X k))) rfl rfl (by kernel_rfl) (by kernel_rfl) (by kernel_rfl) (fun _ _ _ h => h) (Or.inl ⟨by rfl, fun w' h => by have hq := hsrc.out w' h.1; clear h; go_simp⟩) hHeld ?_
        simp only [List.set_cons_zero, List.set_cons_succ]
        refine wpAnyH_ready (rs := [5]) (by kernel_rfl) (by simp) ?_
        refine AllReadyH.cons rfl (fun K hK => ?_) AllReadyH.nil
        go_simp
        refine hK.out _ _ (by exact ⟨hHeld.1.alloc hHeld.1.size _, hHeld.2.below (below1 _ _)⟩) (fun hHeld1 => ?_)
        clear hK K
        obtain ⟨w2, hup, hmap, hb2⟩ := CpuMap.made wr.drew (X k) hxk
        have hb2' : Below wr.heap.size wr w2 := ((Below.refl wr.heap.size wr).drew).trans hb2
        refine wpAnyH_ready (rs := [10]) (by kernel_rfl) (by simp) ?_
        refine AllReadyH.cons rfl (fun K hK => ?_) AllReadyH.nil
        have hup' : (Instr.mapUpdate 40 (.map (some wr.heap.size)) (.string ⟨#[99, 112, 117]⟩) (.int .i64 (X k))).run Try.prog (wr.alloc (.map #[] 0)).drew = .ok () w2 := by exact hup
        go_simp
        refine hK.out _ _ (by exact ⟨hHeld.1.trans (hb2.mono hHeld.1.size), hHeld.2.below hb2⟩) (fun hHeld2 => ?_)
        clear hK K
        refine wpAnyH_takeD (i := 11) 35 (v := (.map (some wr.heap.size))) rfl rfl (by kernel_rfl) (by kernel_rfl) (by kernel_rfl) (fun _ _ _ h => h) (Or.inl ⟨by rfl, fun _ _ => rfl⟩) hHeld2 ?_
        simp only [List.set_cons_zero, List.set_cons_succ]
        refine wpAnyH_takeD (i := 12) 36 (v := (.pointer (some ⟨gc, k * 4, none⟩))) rfl rfl (by kernel_rfl) (by kernel_rfl) (by kernel_rfl) (fun _ _ _ h => h) (Or.inl ⟨by rfl, fun w' h => by clear h; go_simp⟩) hHeld2 ?_
        simp only [List.set_cons_zero, List.set_cons_succ]
        refine wpAnyH_takeD (i := 13) 37 (v := (.pointer (some ⟨gc, k * 4 + 1, none⟩))) rfl rfl (by kernel_rfl) (by kernel_rfl) (by kernel_rfl) (fun _ _ _ h => h) (Or.inl ⟨by rfl, fun w' h => by clear h; go_simp⟩) hHeld2 ?_
        simp only [List.set_cons_zero, List.set_cons_succ]
        refine wpAnyH_ready (rs := [14]) (by kernel_rfl) (by simp) ?_
        refine AllReadyH.cons rfl (fun K hK => ?_) AllReadyH.nil
        obtain ⟨tv, t1, t2⟩ : ∃ v, w2.cell? ⟨gc, k * 4 + 1, none⟩ = some v ∧ w2.frozen? ⟨gc, k * 4 + 1, none⟩ = false := by
          have hbk2 : Blk w2 gc 85 (n * 4) := hH.out.2.2.1.below (w' := w2) hb2' hH.out.2.2.1.lt
          have ht := hbk2.there (k * 4 + 1) 1 (by have := row_fits 4 hkn; omega) 0 (by omega)
          obtain ⟨v, hv⟩ := Option.isSome_iff_exists.1 ht.1
          exact ⟨v, hv, ht.2⟩
        have H3 : Hid (HeldC w W1 gc X n (k + 1) (w2.setCell ⟨gc, k * 4 + 1, none⟩ (.map (some wr.heap.size)))) := HeldC.stored (w := wr) hH.out hlegc.out hb2' hmap hkn
        clear hup hup' hmap hb2 hb2'
        go_simp
        refine hK.out _ _ (by exact ⟨H3.out.1, H3.out.2.1⟩) (fun hHeld3 => ?_)
        clear hK K hHeld hHeld1 hHeld2 hHeld3 hH t1 t2
        refine wpAnyH_done (by kernel_rfl) ?_ _
        go_wp2
        go_roundw
        case rel => exact ⟨k + 1, by omega, by go_num, H3⟩
        case measure => simp [intOf]; omega
      · have hkk : k = n := by omega
        subst hkk
        obtain ⟨V, hV⟩ : ∃ V, V = wr := ⟨_, rfl⟩
        rw [← hV]
        obtain ⟨hbkV, hG, hc15, hbV⟩ : Hid (Blk V gp 82 18) ∧ Hid (Good V gp X k 14) ∧ Hid (V.cell? ⟨gp, 15, none⟩ = some (.slice none 0 0)) ∧ Hid (Below w.heap.size w V) := by subst hV; exact ⟨hM.out.blkV hH.out, hM.out.good hH.out, (hM.out.othV hH.out 15 (by omega)).trans c15.out, hH.out.1⟩
        clear hV hH hM hcellgc hgpW hnegc hlegc hH1 c15 hbk hb hz hp hX
        go_upto_region 8 with fail
        by_cases hn0' : n' = 0
        · subst hn0'
          go_wp2
          go_ret
          exact ⟨gp, rfl, ⟨hbkV.out.lt, hG.out, Good.zero Y hc15.out⟩, hbV.out⟩
        · have hnp' : (0 : Int) < (n' : Int) := by omega
          obtain ⟨gd, hgd⟩ : ∃ gd, gd = V.heap.size := ⟨_, rfl⟩
          have c15 : V.cell? ⟨gp, 15, none⟩ = some (.slice none 0 0) := hc15.out
          have fz : V.frozen? ⟨gp, 15, none⟩ = false := (hbkV.out.there 15 1 (by omega) 0 (by omega)).2
          have hzV : gp < V.heap.size := hbkV.out.lt
          go_upto_region 11 with fail
          rw [show decide (0 < n') = true from decide_eq_true (by omega)]
          obtain ⟨V1, hV1, hM2⟩ : ∃ V1, V1 = (V.setCell ⟨gp, 15, none⟩ (.slice (some ⟨gd, 0, none⟩) n' n')).alloc (.cells C' 85) ∧ Made w V V1 gp gd 15 n' Y := ⟨_, rfl, pod_made Y hC'.out hgd hbkV.out hbV.out (by have := hgp.out; omega) (by omega)⟩
          rw [← hgd, ← hV1]
          replace hM2 : Hid (Made w V V1 gp gd 15 n' Y) := hM2
          have hcellgd : Hid (V1.cell? ⟨gp, 15, none⟩ = some (.slice (some ⟨gd, 0, none⟩) n' n')) := hM2.out.cl
          have hgpW : Hid (gp < V1.heap.size) := hM2.out.lt
          have hnegd : Hid (gp ≠ gd) := hM2.out.ne
          have hlegd : Hid (w.heap.size ≤ gd) := hM2.out.le
          have hH2 : Hid (HeldC w V1 gd Y n' 0 V1) := hM2.out.held
          clear hV1 hgd c15 fz hc15 hzV
          go_loopw [7] (fun i wr => ∃ k : Nat, k ≤ n' ∧ i = .int .i64 k ∧ Hid (HeldC w V1 gd Y n' k wr)) (fun i _ => n' - (intOf i).toNat)
          case atStart => exact ⟨0, Nat.zero_le _, rfl, hH2⟩
          case round =>
            obtain ⟨k, hk, rfl, hH⟩ := hrel
            by_cases hkn : k < n'
            · obtain ⟨b, o, rfl, hl, hj⟩ := hp'.out (by omega)
              have hsrc : Hid (∀ w', Below w.heap.size w w' → w'.cell? ⟨b, o + k, none⟩ = some (.int .i64 (Y k))) := fun w' hb' => by have := range_below (hj k hkn) hb' hl 0 _ rfl; simpa using this
              have hxk := hY.out k hkn
              have hk0 : (0 : Int) ≤ (k : Int) := by omega
              have hk1 : (k : Int) < (n' : Int) := by omega
              clear hj hl
              go_wp2
              refine wp_region_held_drew (S := fun w' => Below w.heap.size w w' ∧ Kept V1 gd w') (by kernel_rfl) ⟨hH.out.1.drew, hH.out.2.1.drew⟩ (fun hHeld => ?_)
              refine wpAnyH_takeD (i := 0) 53 (v := (.pointer (some ⟨gp, 0, none⟩))) rfl rfl (by kernel_rfl) (by kernel_rfl) (by kernel_rfl) (fun _ _ _ h => h) (Or.inl ⟨by rfl, fun _ _ => rfl⟩) hHeld ?_
              simp only [List.set_cons_zero, List.set_cons_succ]
              refine wpAnyH_takeD (i := 1) 54 (v := (.pointer (some ⟨gp, 0, none⟩))) rfl rfl (by kernel_rfl) (by kernel_rfl) (by kernel_rfl) (fun _ _ _ h => h) (Or.inl ⟨by rfl, fun w' h => by clear h; go_simp⟩) hHeld ?_
              simp only [List.set_cons_zero, List.set_cons_succ]
              refine wpAnyH_takeD (i := 2) 55 (v := (.pointer (some ⟨gp, 15, none⟩))) rfl rfl (by kernel_rfl) (by kernel_rfl) (by kernel_rfl) (fun _ _ _ h => h) (Or.inl ⟨by rfl, fun w' h => by clear h; go_simp⟩) hHeld ?_
              simp only [List.set_cons_zero, List.set_cons_succ]
              refine wpAnyH_takeD (i := 3) 56 (v := (.slice (some ⟨gd, 0, none⟩) n' n')) rfl rfl (by kernel_rfl) (by kernel_rfl) (by kernel_rfl) (fun _ _ _ h => h) (Or.inl ⟨by rfl, fun w' h => by have hq := (h.2.cell (a := ⟨gp, 15, none⟩) hgpW.out hnegd.out).trans hcellgd.out; clear h; go_simp⟩) hHeld ?_
              simp only [List.set_cons_zero, List.set_cons_succ]
              refine wpAnyH_takeD (i := 4) 57 (v := (.int .i64 k)) rfl rfl (by kernel_rfl) (by kernel_rfl) (by kernel_rfl) (fun _ _ _ h => h) (Or.inl ⟨by rfl, fun _ _ => rfl⟩) hHeld ?_
              simp only [List.set_cons_zero, List.set_cons_succ]
              refine wpAnyH_takeD (i := 6) 59 (v := (.slice (some ⟨b, o, none⟩) n' c')) rfl rfl (by kernel_rfl) (by kernel_rfl) (by kernel_rfl) (fun _ _ _ h => h) (Or.inl ⟨by rfl, fun _ _ => rfl⟩) hHeld ?_
              simp only [List.set_cons_zero, List.set_cons_succ]
              refine wpAnyH_takeD (i := 7) 60 (v := (.int .i64 k)) rfl rfl (by kernel_rfl) (by kernel_rfl) (by kernel_rfl) (fun _ _ _ h => h) (Or.inl ⟨by rfl, fun _ _ => rfl⟩) hHeld ?_
              simp only [List.set_cons_zero, List.set_cons_succ]
              refine wpAnyH_takeD (i := 8) 61 (v := (.pointer (some ⟨b, o + k, none⟩))) rfl rfl (by kernel_rfl) (by kernel_rfl) (by kernel_rfl) (fun _ _ _ h => h) (Or.inl ⟨by rfl, fun w' h => by clear h; go_simp⟩) hHeld ?_
              simp only [List.set_cons_zero, List.set_cons_succ]
              refine wpAnyH_takeD (i := 9) 62 (v := (.int .i64 (Y k))) rfl rfl (by kernel_rfl) (by kernel_rfl) (by kernel_rfl) (fun _ _ _ h => h) (Or.inl ⟨by rfl, fun w' h => by have hq := hsrc.out w' h.1; clear h; go_simp⟩) hHeld ?_
              simp only [List.set_cons_zero, List.set_cons_succ]
              refine wpAnyH_ready (rs := [5]) (by kernel_rfl) (by simp) ?_
              refine AllReadyH.cons rfl (fun K hK => ?_) AllReadyH.nil
              go_simp
              refine hK.out _ _ (by exact ⟨hHeld.1.alloc hHeld.1.size _, hHeld.2.below (below1 _ _)⟩) (fun hHeld1 => ?_)
              clear hK K
              obtain ⟨w2, hup, hmap, hb2⟩ := CpuMap.made wr.drew (Y k) hxk
              have hb2' : Below wr.heap.size wr w2 := ((Below.refl wr.heap.size wr).drew).trans hb2
              refine wpAnyH_ready (rs := [10]) (by kernel_rfl) (by simp) ?_
              refine AllReadyH.cons rfl (fun K hK => ?_) AllReadyH.nil
              have hup' : (Instr.mapUpdate 40 (.map (some wr.heap.size)) (.string ⟨#[99, 112, 117]⟩) (.int .i64 (Y k))).run Try.prog (wr.alloc (.map #[] 0)).drew = .ok () w2 := by exact hup
              go_simp
              refine hK.out _ _ (by exact ⟨hHeld.1.trans (hb2.mono hHeld.1.size), hHeld.2.below hb2⟩) (fun hHeld2 => ?_)
              clear hK K
              refine wpAnyH_takeD (i := 11) 63 (v := (.map (some wr.heap.size))) rfl rfl (by kernel_rfl) (by kernel_rfl) (by kernel_rfl) (fun _ _ _ h => h) (Or.inl ⟨by rfl, fun _ _ => rfl⟩) hHeld2 ?_
              simp only [List.set_cons_zero, List.set_cons_succ]
              refine wpAnyH_takeD (i := 12) 64 (v := (.pointer (some ⟨gd, k * 4, none⟩))) rfl rfl (by kernel_rfl) (by kernel_rfl) (by kernel_rfl) (fun _ _ _ h => h) (Or.inl ⟨by rfl, fun w' h => by clear h; go_simp⟩) hHeld2 ?_
              simp only [List.set_cons_zero, List.set_cons_succ]
              refine wpAnyH_takeD (i := 13) 65 (v := (.pointer (some ⟨gd, k * 4 + 1, none⟩))) rfl rfl (by kernel_rfl) (by kernel_rfl) (by kernel_rfl) (fun _ _ _ h => h) (Or.inl ⟨by rfl, fun w' h => by clear h; go_simp⟩) hHeld2 ?_
              simp only [List.set_cons_zero, List.set_cons_succ]
              refine wpAnyH_ready (rs := [14]) (by kernel_rfl) (by simp) ?_
              refine AllReadyH.cons rfl (fun K hK => ?_) AllReadyH.nil
              obtain ⟨tv, t1, t2⟩ : ∃ v, w2.cell? ⟨gd, k * 4 + 1, none⟩ = some v ∧ w2.frozen? ⟨gd, k * 4 + 1, none⟩ = false := by
                have hbk2 : Blk w2 gd 85 (n' * 4) := hH.out.2.2.1.below (w' := w2) hb2' hH.out.2.2.1.lt
                have ht := hbk2.there (k * 4 + 1) 1 (by have := row_fits 4 hkn; omega) 0 (by omega)
                obtain ⟨v, hv⟩ := Option.isSome_iff_exists.1 ht.1
                exact ⟨v, hv, ht.2⟩
              have H3 : Hid (HeldC w V1 gd Y n' (k + 1) (w2.setCell ⟨gd, k * 4 + 1, none⟩ (.map (some wr.heap.size)))) := HeldC.stored (w := wr) hH.out hlegd.out hb2' hmap hkn
              clear hup hup' hmap hb2 hb2'
              go_simp
              refine hK.out _ _ (by exact ⟨H3.out.1, H3.out.2.1⟩) (fun hHeld3 => ?_)
              clear hK K hHeld hHeld1 hHeld2 hHeld3 hH t1 t2
              refine wpAnyH_done (by kernel_rfl) ?_ _
              go_wp2
              go_roundw
              case rel => exact ⟨k + 1, by omega, by go_num, H3⟩
              case measure => simp [intOf]; omega
            · have hkk : k = n' := by omega
              subst hkk
              go_wp2
              go_ret
              exact ⟨gp, rfl, ⟨(hM2.out.blkV hH.out).lt, hG.out.carry hbkV.out (hM2.out.keptV hH.out) (hM2.out.othV hH.out 14 (by omega)), hM2.out.good hH.out⟩, hH.out.1⟩
end Go.Proofs.Qxb6608834a
