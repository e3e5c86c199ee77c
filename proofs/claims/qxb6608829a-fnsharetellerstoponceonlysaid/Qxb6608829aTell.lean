import Derived.Test.Qxb6608829aShares
import Derived.BigRegion
import Derived.Conc.LoneSelect
import Derived.Conc.SmallLaws
import Derived.Conc.MuLone
import Derived.Conc.MuLib
import Derived.Laws.Tables
import Derived.Laws.Runes
namespace Go.Proofs.Qxb6608829a
open Go.RowKit Go.Conc
set_option linter.unusedVariables false
set_option linter.unusedSimpArgs false
theorem bytes53 : ∃ i, Try.prog.info? 53 = some i ∧ i.bytes = 0 := by
  have h : (Try.prog.info? 53).map (·.bytes) = some 0 := by kernel_rfl
  obtain ⟨i, hi, hb⟩ := Option.map_eq_some_iff.1 h
  exact ⟨i, hi, hb⟩
theorem mk1 (w : World) : (Instr.makeChan 51 (.int .i64 1)).run Try.prog w = .ok (.chan (some w.heap.size)) (w.alloc (.chan 1 #[] false 0 0 false)) := by
  obtain ⟨i, hi, hb⟩ := bytes53
  simpa using run_makeChan (P := Try.prog) (w := w) Try.underlying51 hi .i64 1 (by omega) (by rw [hb]; omega)
theorem mk0 (w : World) : (Instr.makeChan 51 (.int .i64 0)).run Try.prog w = .ok (.chan (some w.heap.size)) (w.alloc (.chan 0 #[] false 0 0 false)) := by
  obtain ⟨i, hi, hb⟩ := bytes53
  simpa using run_makeChan (P := Try.prog) (w := w) Try.underlying51 hi .i64 0 (by omega) (by rw [hb]; omega)
theorem bd53 (w : World) : (Instr.build 53 #[]).run Try.prog w = .ok (.agg #[]) w := run_build w 53 #[] #[] (by kernel_rfl)

/-- The teller's cells; mx: the mutex's state word. -/
def tcells (cw cd : Nat) (mx : Int) (v : Value) (st : Bool) : Array Value := #[.nilFunc, .chan (some cw), .chan (some cd), .int .i32 mx, .int .u32 0, v, .bool false, .bool st]
/-- A teller lies in block p, its wake channel in block cw. -/
structure Teller (w : World) (p cw cd : Nat) (mx : Int) (v : Value) (st : Bool) (buf : Array Value) : Prop where
  cells : w.heap[p]? = some (.cells (tcells cw cd mx v st) 61)
  wake : ∃ s r, w.heap[cw]? = some (.chan 1 buf false s r false)

theorem heap_at (w : World) (o : Obj) {n : Nat} (h : n = w.heap.size) : (w.alloc o).heap[n]? = some o := by subst h; exact heap_alloc_new w o
def NewPost (w : World) (v : Value) (e : Ending) (w' : World) : Prop := ∃ p cw cd, e = .returned (.pointer (some ⟨p, 0, none⟩)) ∧ Teller w' p cw cd 0 v false #[] ∧ w.heap.size ≤ p ∧ w.heap.size ≤ cw ∧ Below w.heap.size w w'

set_option maxHeartbeats 400000 in
theorem zznew_any (a : Option Addr) (n c : Nat) (w : World) : Calls Try.prog 13 #[.slice a n c] w (NewPost w (.slice a n c)) := by
  have h1 := mk1
  have h0 := mk0
  go_enter Try.func13, Try.ntmps13
  go_wp2
  go_region
  · go_wp2
    go_ret
    refine ⟨_, w.heap.size, w.heap.size + 1, rfl, ⟨?_, 0, 0, ?_⟩, by omega, by omega, ?_⟩
    · show (((w.alloc _).alloc _).alloc _).heap[_]? = _
      exact heap_at _ _ (by simp)
    · show (((w.alloc _).alloc _).alloc _).heap[_]? = _
      rw [heap_alloc_old _ _ (by simp; omega), heap_alloc_old _ _ (by simp)]
      exact heap_alloc_new _ _
    · exact Below.drew ((below2 _ _ _).alloc (by simp; omega) _)
  · go_wp2
    go_ret
    refine ⟨_, w.heap.size + 1, w.heap.size, rfl, ⟨?_, 0, 0, ?_⟩, by omega, by omega, ?_⟩
    · show (((w.alloc _).alloc _).alloc _).heap[_]? = _
      exact heap_at _ _ (by simp)
    · show (((w.alloc _).alloc _).alloc _).heap[_]? = _
      rw [heap_alloc_old _ _ (by simp)]
      exact heap_at _ _ (by simp)
    · exact Below.drew ((below2 _ _ _).alloc (by simp; omega) _)

theorem Teller.cell {w : World} {p cw cd : Nat} {mx : Int} {v : Value} {st : Bool} {buf : Array Value} (h : Teller w p cw cd mx v st buf) (k : Nat) : w.cell? ⟨p, k, none⟩ = (tcells cw cd mx v st)[k]? := cell_of_row w p k _ 61 _ h.cells

set_option maxRecDepth 100000 in
theorem signal_walk (p cw s r : Nat) (w : World) (h1 : w.cell? ⟨p, 1, none⟩ = some (.chan (some cw))) (hc : w.heap[cw]? = some (.chan 1 #[] false s r false)) :
    Calls Try.prog 30 #[.pointer (some ⟨p, 0, none⟩)] w fun e w' => e = .returned (.tuple #[]) ∧ w' = w.setChan cw 1 #[.agg #[]] false (s + 1) r false := by
  refine calls_of_loneTo fun cs => ?_
  have e : Frame.enter Try.prog 30 #[.pointer (some ⟨p, 0, none⟩)] .normal = (base 30).at ⟨#[.pointer (some ⟨p, 0, none⟩), undef, undef, undef, undef, undef, undef, undef, undef, undef], []⟩ [.code (Try.f30.body.getD .skip)] := by
    simp [Frame.enter, Frame.at, Try.func30, base, Try.f30]
  rw [e]
  have hbd := bd53
  refine LoneTo.goes (n := 30) ?_
  simp only [Try.f30, Option.getD_some]
  s_c stepG_seq
  s_c stepG_seq
  s_reg
  s_op
  s_op
  s_op
  s_op
  s_c stepG_region_end
  s_reg
  s_op
  s_c stepG_region_end
  s_c stepG_seq
  s_reg
  s_stop
  refine LoneTo.step (step_lone_select_send_room (c := cw) (cap := 1) (buf := #[]) (s := s) (r := r) (tm := false) (stepG_comm (cases := #[scase cw (.agg #[]) (.agg #[])]) (blocking := false) (shape := .select) (w' := w) rfl rfl (by decide) (by simp [go_sem, execOp, scase, Act.eval])) hc (by simp)) ?_
  rw [Frame.finish_at]
  walk_nrm
  refine LoneTo.goes (n := 20) ?_
  s_op
  s_op
  s_c stepG_region_end
  s_c stepG_block
  s_cond true
  s_c stepG_skip
  s_c stepG_inBlock
  s_c stepG_end
  s_stop
  exact LoneTo.done ⟨.returned (.tuple #[]), _, rfl, ⟨rfl, rfl⟩, rfl, rfl, rfl, rfl, _, Try.func30, by simp [results, Try.f30, Frame.at]⟩

set_option maxRecDepth 100000 in
theorem take_walk (p cw s r : Nat) (w : World) (h1 : w.cell? ⟨p, 1, none⟩ = some (.chan (some cw))) (hc : w.heap[cw]? = some (.chan 1 #[.agg #[]] false s r false)) :
    Calls Try.prog 21 #[.pointer (some ⟨p, 0, none⟩)] w fun e w' => e = .returned (.tuple #[]) ∧ w' = w.setChan cw 1 #[] false s (r + 1) false := by
  refine calls_of_loneTo fun cs => ?_
  have e : Frame.enter Try.prog 21 #[.pointer (some ⟨p, 0, none⟩)] .normal = (base 21).at ⟨#[.pointer (some ⟨p, 0, none⟩), undef, undef, undef, undef, undef, undef], []⟩ [.code (Try.f21.body.getD .skip)] := by
    simp [Frame.enter, Frame.at, Try.func21, base, Try.f21]
  rw [e]
  refine LoneTo.goes (n := 30) ?_
  simp only [Try.f21, Option.getD_some]
  s_reg
  s_op
  s_op
  s_op
  s_op
  s_stop
  refine LoneTo.step (step_lone_recv_buf false (c := cw) (z := .agg #[]) (stepG_comm (cases := #[rcase cw (.agg #[])]) (blocking := true) (shape := .recv false) (w' := w) rfl rfl (by decide) (by simp [go_sem, rcase])) hc (by simp)) ?_
  rw [Frame.finish_at]
  simp only [got]
  walk_nrm
  refine LoneTo.goes (n := 20) ?_
  s_c stepG_region_end
  s_c stepG_end
  s_stop
  exact LoneTo.done ⟨.returned (.tuple #[]), _, rfl, ⟨rfl, rfl⟩, rfl, rfl, rfl, rfl, _, Try.func21, by simp [results, Try.f21, Frame.at]⟩

/-! ### the small readers -/
theorem now_any (p cw cd : Nat) (mx : Int) (a : Option Addr) (n c : Nat) (st : Bool) (buf : Array Value) (w : World) (h : Teller w p cw cd mx (.slice a n c) st buf) :
    Calls Try.prog 16 #[.pointer (some ⟨p, 0, none⟩)] w fun e w' => e = .returned (.slice a n c) ∧ w' = w := by
  have h5 := h.cell 5
  simp [tcells] at h5
  go_enter Try.func16, Try.ntmps16
  go_wp2
  go_ret
  exact ⟨rfl, rfl⟩
theorem stopped_any (p cw cd : Nat) (mx : Int) (v : Value) (st : Bool) (buf : Array Value) (w : World) (h : Teller w p cw cd mx v st buf) :
    Calls Try.prog 18 #[.pointer (some ⟨p, 0, none⟩)] w fun e w' => e = .returned (.bool st) ∧ w' = w := by
  have h7 := h.cell 7
  simp [tcells] at h7
  go_enter Try.func18, Try.ntmps18
  go_wp2
  go_ret
  exact ⟨rfl, rfl⟩
theorem len_chan (cw s r : Nat) (buf : Array Value) (w : World) (hw : w.heap[cw]? = some (.chan 1 buf false s r false)) : (Builtin.len_ #[51] 3 #[.chan (some cw)]).run Try.prog w = .ok (.int .i64 buf.size) w := by
  simp [Builtin.len_, go_sem, hw, getObj, Go.Sem.run]
theorem tokens_any (p cw cd : Nat) (mx : Int) (v : Value) (st : Bool) (buf : Array Value) (w : World) (h : Teller w p cw cd mx v st buf) :
    Calls Try.prog 19 #[.pointer (some ⟨p, 0, none⟩)] w fun e w' => e = .returned (.int .i64 buf.size) ∧ w' = w := by
  have h1 := h.cell 1
  simp [tcells] at h1
  obtain ⟨s, r, hw⟩ := h.wake
  have hlen : (Builtin.len_ #[51] 3 #[.chan (some cw)]).run Try.prog w = .ok (.int .i64 buf.size) w := len_chan cw s r buf w hw
  clear hw h
  go_enter Try.func19, Try.ntmps19
  go_wp2
  go_ret
  exact ⟨rfl, rfl⟩

/-! ### the closing share -/
def cloL (k : Nat) : List Value := .int .i64 k :: .bool false :: (agL z20 ++ (agL z20 ++ [.slice none 0 0]))
def clo (k : Nat) : Array Value := (cloL k).toArray
theorem cloL_length (k : Nat) : (cloL k).length = 43 := by simp [cloL, agL, z20]
theorem clo_size (k : Nat) : (clo k).size = 43 := by simp [clo, cloL_length]
theorem clo_all (k : Nat) : (clo k).all (·.oneCell') = true := by
  simp [clo, cloL, agL, z20, Value.oneCell']
theorem clo_built (k : Nat) (w : World) : (Instr.build 44 #[(0, .int .i64 k)]).run Try.prog w = .ok (.agg (clo k)) w := run_build w 44 _ _ (by kernel_rfl)
theorem clo_range (w : World) (B k : Nat) (t : TypeId) (h : w.heap[B]? = some (.cells (clo k) t)) : w.rangeAt B 0 (clo k).toList := fun j v hv => by
  rw [Nat.zero_add, cell_of_row w B j _ t _ h]
  simpa using hv
theorem clo_at (k j : Nat) : (clo k)[j]? = (cloL k)[j]? := by simp [clo]
theorem cloL_0 (k : Nat) : (cloL k)[0]? = some (.int .i64 k) := rfl
theorem cloL_1 (k : Nat) : (cloL k)[1]? = some (.bool false) := rfl
theorem cloL_42 (k : Nat) : (cloL k)[42]? = some (.slice none 0 0) := by simp [cloL, agL, z20]
theorem cloL_r1 (k j : Nat) (hj : j < 20) : (cloL k)[2 + j]? = (agL z20)[j]? := by
  have e : 2 + j = j + 1 + 1 := by omega
  rw [e, cloL, List.getElem?_cons_succ, List.getElem?_cons_succ, List.getElem?_append_left (by simp [agL, z20]; omega)]
theorem cloL_r2 (k j : Nat) (hj : j < 20) : (cloL k)[22 + j]? = (agL z20)[j]? := by
  have e : 22 + j = (20 + j) + 1 + 1 := by omega
  have e2 : (agL z20).length = 20 := by simp [agL, z20]
  rw [e, cloL, List.getElem?_cons_succ, List.getElem?_cons_succ, List.getElem?_append_right (by omega), e2, List.getElem?_append_left (by omega)]
  congr 1
  omega

set_option maxRecDepth 100000 in
set_option maxHeartbeats 400000 in
theorem closing_any (k : Nat) (w : World) : Calls Try.prog 17 #[.agg (clo k), .int .i64 k] w fun e w' => e = .returned (.bool true) ∧ Below w.heap.size w w' := by
  have hnil := fun (w : World) (a : Option Addr) (n c n' c' : Nat) => Lib.run_eql_slice_nil (P := Try.prog) w 42 68 a n c n' c' Try.underlying42
  have heq : ∀ w, (Op.equalIn 10000 24 (.agg (ag z20)) (.agg (ag z20))).run Try.prog w = .ok true w := fun w => by
    have := eq_arr 9998 24 Try.underlying24 z20 z20 w rfl rfl
    simpa using this
  obtain ⟨W0, hW0, hB, hZ, hb0⟩ : ∃ W0, W0 = (w.alloc (.cells (clo k) 44)).alloc (.cells (ag z20) 24) ∧ W0.heap[w.heap.size]? = some (.cells (clo k) 44) ∧ RowAt W0 (w.heap.size + 1) 24 z20 ∧ Below w.heap.size w W0 :=
    ⟨_, rfl, by rw [heap_alloc_old _ _ (by simp)]; exact heap_alloc_new _ _, RowAt.new _ _ _ (by simp), below2 _ _ _⟩
  have hc : ∀ j, W0.cell? ⟨w.heap.size, j, none⟩ = (cloL k)[j]? := fun j => (cell_of_row W0 _ j _ 44 _ hB).trans (clo_at k j)
  have c0 : W0.cell? ⟨w.heap.size, 0, none⟩ = some (.int .i64 k) := (hc 0).trans (cloL_0 k)
  have c1 : W0.cell? ⟨w.heap.size, 1, none⟩ = some (.bool false) := (hc 1).trans (cloL_1 k)
  have c42 : W0.cell? ⟨w.heap.size, 42, none⟩ = some (.slice none 0 0) := (hc 42).trans (cloL_42 k)
  have hjj : ∀ j v, (agL z20)[j]? = some v → j < 20 := fun j v hv => by
    have h := (List.getElem?_eq_some_iff.1 hv).1
    have e2 : (agL z20).length = 20 := by simp [agL, z20]
    omega
  have r1 : W0.rangeAt w.heap.size 2 (agL z20) := fun j v hv => by rw [hc, cloL_r1 k j (hjj j v hv)]; exact hv
  have r2 : W0.rangeAt w.heap.size 22 (agL z20) := fun j v hv => by rw [hc, cloL_r2 k j (hjj j v hv)]; exact hv
  replace r1 : Hid _ := r1
  replace r2 : Hid _ := r2
  replace hb0 : Hid _ := hb0
  clear hc hB hjj
  go_enter Try.func17, Try.ntmps17
  go_upto_region 2 with fail
  rw [ag_zero, ← hW0]
  clear hW0
  go_wp2_with (first
    | (refine wpl_loadG 24 (.inr rfl) ?_ (.tmp 5) rfl _ rfl 24 z20 (by exact hZ) rfl ?_; rfl)
    | (refine wpl_loadM 24 (.inr rfl) ?_ (.tmp 16) rfl _ _ rfl z20 rfl (by exact r1.out) ?_; rfl)
    | (refine wpl_loadM 24 (.inr rfl) ?_ (.tmp 22) rfl _ _ rfl z20 rfl (by exact r2.out) ?_; rfl))
  go_ret
  exact ⟨rfl, hb0.out⟩
end Go.Proofs.Qxb6608829a
