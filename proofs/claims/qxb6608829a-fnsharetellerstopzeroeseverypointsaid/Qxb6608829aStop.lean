import Derived.Test.Qxb6608829aTell
namespace Go.Proofs.Qxb6608829a
open Go.RowKit Go.Conc Go.MuLone
set_option linter.unusedVariables false
set_option linter.unusedSimpArgs false

abbrev muLink : Go.Conc.Locks.MuLink := { lock := 29, unlock := 31, ilock := 33, iunlock := 34, lockSlow := 40, unlockSlow := 43, disable := 36, enable := 38, acquire := 39, relMerge := 41, cas32 := 37, add32 := 42, tMutex := 59, tIMutex := 57, tPMutex := 69, tPIMutex := 70, tPI32 := 72, tUP := 74, tNoCopy := 54, tU32 := 55 }
theorem muLib : Go.Conc.Locks.MuLib Try.prog muLink :=
  ⟨Try.func29, Try.func31, Try.func33, Try.func34, Try.func36, Try.func38, Try.func39, Try.func41, Try.func37, Try.func42, Try.underlying57, Try.runUnderlying57, Try.sizeOf57, Try.isAgg57, Try.zeroValue57, Try.underlying59, Try.runUnderlying59, Try.sizeOf59, Try.isAgg59, Try.zeroValue59, Try.underlying69, Try.runUnderlying69, Try.sizeOf69, Try.isAgg69, Try.zeroValue69, Try.underlying70, Try.runUnderlying70, Try.sizeOf70, Try.isAgg70, Try.zeroValue70, Try.underlying72, Try.runUnderlying72, Try.sizeOf72, Try.isAgg72, Try.zeroValue72, Try.underlying74, Try.runUnderlying74, Try.sizeOf74, Try.isAgg74, Try.zeroValue74, Try.underlying54, Try.runUnderlying54, Try.sizeOf54, Try.isAgg54, Try.zeroValue54, Try.underlying21, Try.runUnderlying21, Try.sizeOf21, Try.isAgg21, Try.zeroValue21, (by kernel_rfl)⟩

section
variable {w : World} {p cw cd : Nat} {mx : Int} {v : Value} {st : Bool} {buf : Array Value}
theorem Teller.frozen (h : Teller w p cw cd mx v st buf) (k : Nat) : w.frozen? ⟨p, k, none⟩ = false := by simp [World.frozen?, h.cells]
theorem Teller.c1 (h : Teller w p cw cd mx v st buf) : w.cell? ⟨p, 1, none⟩ = some (.chan (some cw)) := h.cell 1
theorem Teller.c3 (h : Teller w p cw cd mx v st buf) : w.cell? ⟨p, 3, none⟩ = some (.int .i32 mx) := h.cell 3
theorem Teller.c5 (h : Teller w p cw cd mx v st buf) : w.cell? ⟨p, 5, none⟩ = some v := h.cell 5
theorem Teller.c6 (h : Teller w p cw cd mx v st buf) : w.cell? ⟨p, 6, none⟩ = some (.bool false) := h.cell 6
theorem Teller.c7 (h : Teller w p cw cd mx v st buf) : w.cell? ⟨p, 7, none⟩ = some (.bool st) := h.cell 7
theorem Teller.ne (h : Teller w p cw cd mx v st buf) : cw ≠ p := by
  intro e; subst e
  obtain ⟨s, r, hw⟩ := h.wake
  rw [h.cells] at hw
  cases hw
theorem heap_setCell_self {w : World} {p : Nat} {C : Array Value} {t : TypeId} (h : w.heap[p]? = some (.cells C t)) (k : Nat) (u : Value) : (w.setCell ⟨p, k, none⟩ u).heap[p]? = some (.cells (C.setIfInBounds k u) t) := by
  simp only [World.setCell, Array.getElem?_modify]
  simp [h]
theorem Teller.setMx (h : Teller w p cw cd mx v st buf) (m : Int) : Teller (w.setCell ⟨p, 3, none⟩ (.int .i32 m)) p cw cd m v st buf :=
  ⟨heap_setCell_self h.cells 3 _, let ⟨s, r, hw⟩ := h.wake; ⟨s, r, by rw [Below.heap_setCell _ _ _ _ h.ne]; exact hw⟩⟩
theorem Teller.setStopped (h : Teller w p cw cd mx v st buf) : Teller (w.setCell ⟨p, 7, none⟩ (.bool true)) p cw cd mx v true buf :=
  ⟨heap_setCell_self h.cells 7 _, let ⟨s, r, hw⟩ := h.wake; ⟨s, r, by rw [Below.heap_setCell _ _ _ _ h.ne]; exact hw⟩⟩
theorem heap_setChan_ne (w : World) (c cap : Nat) (buf : Array Value) (cl : Bool) (s r : Nat) (tm : Bool) {k : Nat} (h : k ≠ c) : (w.setChan c cap buf cl s r tm).heap[k]? = w.heap[k]? := by
  simp only [World.setChan]; rw [Array.getElem?_setIfInBounds_ne (by omega)]
theorem Teller.setChan (h : Teller w p cw cd mx v st buf) (buf' : Array Value) (s r : Nat) : Teller (w.setChan cw 1 buf' false s r false) p cw cd mx v st buf' :=
  ⟨by rw [heap_setChan_ne _ _ _ _ _ _ _ _ h.ne.symm]; exact h.cells, s, r, heap_setChan w cw 1 buf' false s r false (by
    obtain ⟨s, r, hw⟩ := h.wake
    apply Classical.byContradiction; intro hn
    rw [Array.getElem?_eq_none (by omega)] at hw; cases hw)⟩
theorem Teller.other {w' : World} (h : Teller w p cw cd mx v st buf) (e1 : w'.heap[p]? = w.heap[p]?) (e2 : w'.heap[cw]? = w.heap[cw]?) : Teller w' p cw cd mx v st buf :=
  ⟨by rw [e1]; exact h.cells, let ⟨s, r, hw⟩ := h.wake; ⟨s, r, by rw [e2]; exact hw⟩⟩
end

/-- The now-row of a teller: a block of n * 43 cells whose first k shares are closed. -/
def NowRow (w : World) (g n k : Nat) : Prop := Blk w g 44 (n * 43) ∧ ∀ i, i < k → w.rangeAt g (i * 43) (cloL i)
theorem NowRow.same {w w' : World} {g n k : Nat} (h : NowRow w g n k) (e : w'.heap[g]? = w.heap[g]?) : NowRow w' g n k :=
  ⟨h.1.same e, fun i hi j v hv => by rw [← h.2 i hi j v hv]; simp [World.cell?, e]⟩
theorem NowRow.store {w : World} {g n k : Nat} (h : NowRow w g n k) (hk : k < n) : NowRow (w.setCells g (k * 43) (cloL k)) g n (k + 1) := by
  refine ⟨h.1.stored _ _, fun i hi => ?_⟩
  by_cases e : i = k
  · subst e
    exact World.rangeAt_setCells_same w g _ _ (by rw [cloL_length]; exact h.1.there _ _ (by have : (i + 1) * 43 ≤ n * 43 := Nat.mul_le_mul_right _ hk
                                                                                            omega))
  · refine World.rangeAt_setCells_apart (h.2 i (by omega)) g _ _ (.inr (.inl ?_))
    rw [cloL_length]
    have : (i + 1) * 43 ≤ k * 43 := Nat.mul_le_mul_right _ (by omega)
    omega

theorem wpl_exec {ops : Array Oper} {rest : List Oper} {op : Oper} {a : Act} {w : World} {Q : Exit → Act → World → Prop} (v : Value) (hw : Region.wanted op (yielded ops a.tmps) = true) (he : (execOp a.eval op).run Try.prog w = .ok (.value v) w)
    (h : wpList Try.prog ops Q rest (a.put op.dst v) w) : wpList Try.prog ops Q (op :: rest) a w :=
  BigFrame.wpList_want hw fun K hK => by
    unfold Oper.wp
    rw [he]
    exact hK _ _ h
/-- What stop leaves. -/
def StopPost (B : Nat) (w0 : World) (p cw cd : Nat) (v : Value) (buf : Array Value) (R : World → Prop) (e : Ending) (w' : World) : Prop := e = .returned (.tuple #[]) ∧ Teller w' p cw cd 0 v true buf ∧ Below B w0 w' ∧ R w'

set_option maxRecDepth 100000 in
set_option maxHeartbeats 1000000 in
theorem stop_first (B : Nat) (w0 : World) (p cw cd g n : Nat) (w : World) (hT : Teller w p cw cd 0 (.slice (some ⟨g, 0, none⟩) n n) false #[]) (hR : NowRow w g n 0) (hgp : g ≠ p) (hgc : g ≠ cw) (hn : n ≤ 1048576)
    (hBp : B ≤ p) (hBc : B ≤ cw) (hBg : B ≤ g) (hB : Below B w0 w) :
    Calls Try.prog 26 #[.pointer (some ⟨p, 0, none⟩)] w (StopPost B w0 p cw cd (.slice (some ⟨g, 0, none⟩) n n) #[.agg #[]] (fun w' => NowRow w' g n n)) := by
  have hl := lock_free muLib ⟨p, 3, none⟩ w hT.c3 (hT.frozen 3)
  go_enter Try.func26, Try.ntmps26
  go_wp2_with fail
  refine hl.mono ?_
  rintro e w1 ⟨rfl, rfl⟩
  obtain ⟨W1, hW1, hT1, hR1, hB1⟩ : ∃ W1, W1 = w.setCell ⟨p, 3, none⟩ (.int .i32 1) ∧ Teller W1 p cw cd 1 (.slice (some ⟨g, 0, none⟩) n n) false #[] ∧ NowRow W1 g n 0 ∧ Below B w0 W1 :=
    ⟨_, rfl, hT.setMx 1, hR.same (Below.heap_setCell _ _ _ _ hgp), hB.setCell hBp _⟩
  rw [← hW1]
  clear hW1 hT hR hB hl
  have c7 := hT1.c7
  have c5 := hT1.c5
  replace hR1 : Hid _ := hR1
  replace hB1 : Hid _ := hB1
  go_wp2
  go_loopw [2, 20] (fun _ i wr => ∃ k : Nat, k ≤ n ∧ i = .int .i64 k ∧ Teller wr p cw cd 1 (.slice (some ⟨g, 0, none⟩) n n) false #[] ∧ NowRow wr g n k ∧ Below B w0 wr) (fun _ i _ => n - (intOf i).toNat)
  case atStart => exact ⟨0, Nat.zero_le _, rfl, hT1, hR1.out, hB1.out⟩
  case round =>
    clear c7 c5 hT1 hR1 hB1
    obtain ⟨k, hk, rfl, hT, hR, hB⟩ := hrel
    by_cases hkn : k < n
    · have c5 := hT.c5
      have hk0 : (0 : Int) ≤ (k : Int) := by omega
      have hk1 : (k : Int) < (n : Int) := by omega
      have hth := hR.1.there (k * 43) 43 (by have : (k + 1) * 43 ≤ n * 43 := Nat.mul_le_mul_right _ hkn
                                             omega)
      replace hth : Hid _ := hth
      have HH : Hid (Teller wr p cw cd 1 (.slice (some ⟨g, 0, none⟩) n n) false #[] ∧ NowRow wr g n k ∧ Below B w0 wr) := ⟨hT, hR, hB⟩
      clear hT hR hB
      go_wp2_with (first
        | (refine wpl_exec (.agg (clo k)) ?_ (exec_build 44 #[(0, .tmp 28)] ?_ _ #[(0, .int .i64 k)] ?_ (clo k) (clo_built k _)) ?_; rfl; rfl; rfl)
        | (refine wpl_storeB 44 43 Try.size44 ?_ (.tmp 30) (.tmp 29) ?_ g (k * 43) ?_ (clo k) ?_ (clo_size k) (clo_all k) ?_ ?_; rfl; rfl; rfl; rfl; exact hth.out; rintro w2 hw2; replace hw2 : Hid _ := hw2))
      have H2 : Hid (Teller w2 p cw cd 1 (.slice (some ⟨g, 0, none⟩) n n) false #[] ∧ NowRow w2 g n (k + 1) ∧ Below B w0 w2) := by
        have e := hw2.out
        have e' : w2 = wr.setCells g (k * 43) (cloL k) := by rw [e]; simp [clo]
        subst e'
        exact ⟨HH.out.1.other (heap_setCells_oth g _ _ _ _ (Ne.symm hgp)) (heap_setCells_oth g _ _ _ _ (Ne.symm hgc)), HH.out.2.1.store hkn, below_setCells hBg _ _ _ HH.out.2.2⟩
      clear hw2 HH hth
      go_roundw
      case rel => exact ⟨k + 1, by omega, by go_num, H2.out.1, H2.out.2.1, H2.out.2.2⟩
      case measure => simp [intOf]; omega
    · have ek : k = n := by omega
      subst ek
      have c7 := hT.c7
      have f7 := hT.frozen 7
      have HH : Hid (Teller wr p cw cd 1 (.slice (some ⟨g, 0, none⟩) k k) false #[] ∧ NowRow wr g k k ∧ Below B w0 wr) := ⟨hT, hR, hB⟩
      clear hT hR hB
      go_wp2_with fail
      have hT2 := HH.out.1.setStopped
      obtain ⟨s, r, hwk⟩ := hT2.wake
      refine (signal_walk p cw s r _ hT2.c1 hwk).mono ?_
      rintro e w3 ⟨rfl, hw3⟩
      have hT3 : Teller w3 p cw cd 1 (.slice (some ⟨g, 0, none⟩) k k) true #[.agg #[]] := by rw [hw3]; exact hT2.setChan _ _ _
      have H3 : Hid (NowRow w3 g k k ∧ Below B w0 w3) := by
        subst hw3
        exact ⟨(HH.out.2.1.same (Below.heap_setCell _ _ _ _ hgp)).same (heap_setChan_ne _ _ _ _ _ _ _ _ hgc), below_setChan (HH.out.2.2.setCell hBp _) hBc _ _ _ _ _ _⟩
      clear hw3 hT2 hwk HH c7 f7
      have c6 := hT3.c6
      have hu := unlock_held muLib ⟨p, 3, none⟩ w3 hT3.c3 (hT3.frozen 3)
      replace hu : Hid _ := hu
      replace hT3 : Hid _ := hT3
      go_wp2_with fail
      refine Calls.mono hu.out ?_
      rintro e w4 ⟨rfl, rfl⟩
      go_wp2
      go_end0
      exact ⟨rfl, hT3.out.setMx 0, H3.out.2.setCell hBp _, H3.out.1.same (Below.heap_setCell _ _ _ _ hgp)⟩

set_option maxRecDepth 100000 in
set_option maxHeartbeats 1000000 in
theorem stop_none (B : Nat) (w0 : World) (p cw cd : Nat) (w : World) (hT : Teller w p cw cd 0 (.slice none 0 0) false #[]) (hBp : B ≤ p) (hBc : B ≤ cw) (hB : Below B w0 w) :
    Calls Try.prog 26 #[.pointer (some ⟨p, 0, none⟩)] w (StopPost B w0 p cw cd (.slice none 0 0) #[.agg #[]] (fun _ => True)) := by
  have hl := lock_free muLib ⟨p, 3, none⟩ w hT.c3 (hT.frozen 3)
  go_enter Try.func26, Try.ntmps26
  go_wp2_with fail
  refine hl.mono ?_
  rintro e w1 ⟨rfl, rfl⟩
  obtain ⟨W1, hW1, hT1, hB1⟩ : ∃ W1, W1 = w.setCell ⟨p, 3, none⟩ (.int .i32 1) ∧ Teller W1 p cw cd 1 (.slice none 0 0) false #[] ∧ Below B w0 W1 :=
    ⟨_, rfl, hT.setMx 1, hB.setCell hBp _⟩
  rw [← hW1]
  clear hW1 hT hB hl
  have c7 := hT1.c7
  have c5 := hT1.c5
  replace hB1 : Hid _ := hB1
  go_wp2
  go_loopw [2, 20] (fun _ i wr => i = .int .i64 0 ∧ Teller wr p cw cd 1 (.slice none 0 0) false #[] ∧ Below B w0 wr) (fun _ i _ => 0)
  case atStart => exact ⟨rfl, hT1, hB1.out⟩
  case round =>
    clear c7 c5 hT1 hB1
    obtain ⟨rfl, hT, hB⟩ := hrel
    have c7 := hT.c7
    have f7 := hT.frozen 7
    have HH : Hid (Teller wr p cw cd 1 (.slice none 0 0) false #[] ∧ Below B w0 wr) := ⟨hT, hB⟩
    clear hT hB
    go_wp2_with fail
    have hT2 := HH.out.1.setStopped
    obtain ⟨s, r, hwk⟩ := hT2.wake
    refine (signal_walk p cw s r _ hT2.c1 hwk).mono ?_
    rintro e w3 ⟨rfl, hw3⟩
    have hT3 : Teller w3 p cw cd 1 (.slice none 0 0) true #[.agg #[]] := by rw [hw3]; exact hT2.setChan _ _ _
    have H3 : Hid (Below B w0 w3) := by
      subst hw3
      exact below_setChan (HH.out.2.setCell hBp _) hBc _ _ _ _ _ _
    clear hw3 hT2 hwk HH c7 f7
    have c6 := hT3.c6
    have hu := unlock_held muLib ⟨p, 3, none⟩ w3 hT3.c3 (hT3.frozen 3)
    replace hu : Hid _ := hu
    replace hT3 : Hid _ := hT3
    go_wp2_with fail
    refine Calls.mono hu.out ?_
    rintro e w4 ⟨rfl, rfl⟩
    go_wp2
    go_end0
    exact ⟨rfl, hT3.out.setMx 0, H3.out.setCell hBp _, trivial⟩

set_option maxHeartbeats 1000000 in
/-- A second stop: nothing happens. -/
theorem stop_again (B : Nat) (w0 : World) (p cw cd : Nat) (v : Value) (buf : Array Value) (R : World → Prop) (hRk : ∀ w w' : World, (∀ k, k ≠ p → w'.heap[k]? = w.heap[k]?) → R w → R w') (w : World) (hT : Teller w p cw cd 0 v true buf) (hBp : B ≤ p) (hB : Below B w0 w) (hR : R w) :
    Calls Try.prog 26 #[.pointer (some ⟨p, 0, none⟩)] w (StopPost B w0 p cw cd v buf R) := by
  have hl := lock_free muLib ⟨p, 3, none⟩ w hT.c3 (hT.frozen 3)
  go_enter Try.func26, Try.ntmps26
  go_wp2_with fail
  refine hl.mono ?_
  rintro e w1 ⟨rfl, rfl⟩
  obtain ⟨W1, hW1, hT1, hB1, hR1⟩ : ∃ W1, W1 = w.setCell ⟨p, 3, none⟩ (.int .i32 1) ∧ Teller W1 p cw cd 1 v true buf ∧ Below B w0 W1 ∧ R W1 :=
    ⟨_, rfl, hT.setMx 1, hB.setCell hBp _, hRk _ _ (fun k hk => Below.heap_setCell _ _ _ _ hk) hR⟩
  rw [← hW1]
  clear hW1 hT hB hl
  have c7 := hT1.c7
  have c6 := hT1.c6
  have hu := unlock_held muLib ⟨p, 3, none⟩ W1 hT1.c3 (hT1.frozen 3)
  replace hu : Hid _ := hu
  replace hT1 : Hid _ := hT1
  replace hB1 : Hid _ := hB1
  replace hR1 : Hid _ := hR1
  go_wp2_with fail
  refine Calls.mono hu.out ?_
  rintro e w4 ⟨rfl, rfl⟩
  go_wp2
  go_end0
  exact ⟨rfl, hT1.out.setMx 0, hB1.out.setCell hBp _, hRk _ _ (fun k hk => Below.heap_setCell _ _ _ _ hk) hR1.out⟩

/-- ZZShareTellerStop hands on to stop. -/
theorem zzstop_of (p : Nat) (w : World) (Q : World → Prop) (h : Calls Try.prog 26 #[.pointer (some ⟨p, 0, none⟩)] w fun e w' => e = .returned (.tuple #[]) ∧ Q w') :
    Calls Try.prog 15 #[.pointer (some ⟨p, 0, none⟩)] w fun e w' => e = .returned (.tuple #[]) ∧ Q w' := by
  replace h : Hid _ := h
  go_enter Try.func15, Try.ntmps15
  go_wp2_with fail
  refine Calls.mono h.out ?_
  rintro e w1 ⟨rfl, hq⟩
  replace hq : Hid _ := hq
  go_wp2
  go_end0
  exact ⟨rfl, hq.out⟩
end Go.Proofs.Qxb6608829a
