import Derived.Test.Qxb6608829aMem
namespace Go.Proofs.Qxb6608829a
open Go.RowKit
set_option linter.unusedVariables false
set_option linter.unusedSimpArgs false

theorem wps_exec {ops : Array Oper} {rest : List Oper} {op : Oper} {a : Act} {w : World} {Q : Act → Prop} (v : Value) (hw : Region.wanted op (yielded ops a.tmps) = true) (he : (execOp a.eval op).run Try.prog w = .ok (.value v) w)
    (h : wpStill Try.prog ops w Q rest (a.put op.dst v)) : wpStill Try.prog ops w Q (op :: rest) a :=
  wpStill_step fun K hK => by
    rw [if_pos hw]
    unfold Oper.still
    rw [he, Oper.stillUpon_value]
    exact hK _ h
theorem exec_build {a : Act} {op : Oper} (t : TypeId) (parts : Array (Nat × Operand)) (ho : op.op = .build t parts) (w : World) (parts' : Array (Nat × Value)) (hp : parts.toList.map (fun p => (p.1, a.eval p.2)) = parts'.toList) (C : Array Value) (hrun : (Instr.build t parts').run Try.prog w = .ok (.agg C) w) :
    (execOp a.eval op).run Try.prog w = .ok (.value (.agg C)) w := by
  unfold execOp
  simp only [ho]
  have : (parts.map fun (i, x) => (i, a.eval x)) = parts' := Array.ext' (by rw [Array.toList_map]; exact hp)
  simp only [this, Sem.run_bind, hrun, Sem.run_pure, Result.andThen_ok]

def PeersPost (w : World) (n : Nat) (e : Ending) (w' : World) : Prop := (∃ a, e = .returned (.slice a n n)) ∧ Below w.heap.size w w'

theorem toPeers_nil (c : Nat) (w : World) : Calls Try.prog 28 #[.slice none 0 c] w (PeersPost w 0) := by
  have hnil := fun (w : World) (a : Option Addr) (n c n' c' : Nat) => Lib.run_eql_slice_nil (P := Try.prog) w 32 48 a n c n' c' Try.underlying32
  go_enter Try.func28, Try.ntmps28
  go_wp2
  go_ret
  exact ⟨⟨_, rfl⟩, Below.refl _ _⟩

set_option maxHeartbeats 400000 in
theorem toPeers_some (b o n c : Nat) (w : World) (hn : n ≤ 1048576) (hb : b < w.heap.size) (hp : ∀ j, j < n → PeerAt w b (o + j * 21)) :
    Calls Try.prog 28 #[.slice (some ⟨b, o, none⟩) n c] w (PeersPost w n) := by
  obtain ⟨C, hC, hmk⟩ := makes 42 68 21 40 Try.underlying42 info68 n hn (by omega)
  have hnil := fun (w : World) (a : Option Addr) (n c n' c' : Nat) => Lib.run_eql_slice_nil (P := Try.prog) w 32 48 a n c n' c' Try.underlying32
  go_enter Try.func28, Try.ntmps28
  go_wp2
  go_loopw [4] (fun i wr => ∃ k : Nat, k ≤ n ∧ i = .int .i64 k ∧ Below w.heap.size w wr ∧ Blk wr w.heap.size 68 (n * 21)) (fun i _ => n - (intOf i).toNat)
  case atStart => exact ⟨0, Nat.zero_le _, rfl, (Below.refl _ _).alloc (Nat.le_refl _) _, by rw [← hC]; exact Blk.new w C 68 rfl⟩
  case round =>
    obtain ⟨k, hk, rfl, hbel, hblk⟩ := hrel
    by_cases hkn : k < n
    · obtain ⟨⟨s, hs, hc⟩, ⟨xs, hxl, hxr⟩⟩ := hp k hkn
      obtain ⟨D, hD, hD1, hbuild⟩ := built68 s xs hxl
      have hc' : wr.cell? ⟨b, o + k * 21, none⟩ = some (.string s) := by rw [hbel.cell (by exact hb)]; exact hc
      have hxr' : wr.drew.rangeAt b (o + k * 21 + 1) (agL xs) := fun j v hv => by
        have := hxr j v hv
        show wr.cell? _ = _
        rw [hbel.cell (by exact hb)]; exact this
      have hk0 : (0 : Int) ≤ (k : Int) := by omega
      have hk1 : (k : Int) < (n : Int) := by omega
      have HR : Hid (wr.drew.rangeAt b (o + k * 21 + 1) (agL xs) ∧ Below w.heap.size w wr ∧ Blk wr w.heap.size 68 (n * 21)) := ⟨hxr', hbel, hblk⟩
      clear hxr' hxr hbel hblk hmk hp hc
      go_wp2
      refine wp_region_still_tail 14 (by kernel_rfl) (by kernel_rfl) ?_
      simp only [List.take_succ_cons, List.take_zero, List.drop_succ_cons, List.drop_zero]
      change wpStill _ _ wr.drew _ _ _
      iterate 11 still_step
      refine wps_loadM 22 (.inl rfl) (by rfl) _ rfl _ _ rfl xs hxl (by exact HR.out.1) ?_
      refine wps_exec (.agg D) (by rfl) (exec_build 68 #[(0, .tmp 22), (1, .tmp 27)] (by rfl) _ #[(0, .string s), (1, .agg (ag xs))] (by rfl) D (hbuild _)) ?_
      still_step
      refine wpStill_nil ?_
      refine wpl_storeB 68 21 Try.size68 ?_ (.tmp 29) (.tmp 28) ?_ w.heap.size (k * 21) ?_ D ?_ hD hD1 ?_ ?_
      · rfl
      · rfl
      · rfl
      · rfl
      · exact HR.out.2.2.there _ _ (by have : (k + 1) * 21 ≤ n * 21 := Nat.mul_le_mul_right _ hkn
                                       omega)
      rintro w2 hw2
      have H2 : Hid (Below w.heap.size w w2 ∧ Blk w2 w.heap.size 68 (n * 21)) := by
        subst hw2
        exact ⟨below_setCells (Nat.le_refl _) _ _ _ HR.out.2.1.drew, (Blk.same (w' := wr.drew) HR.out.2.2 rfl).stored _ _⟩
      clear hw2 HR
      go_wp2
      go_roundw
      case rel => exact ⟨k + 1, by omega, by go_num, H2.out.1, H2.out.2⟩
      case measure => simp [intOf]; omega
    · go_wp2
      go_ret
      exact ⟨⟨_, rfl⟩, hbel⟩

theorem toPeers_zero (x : Addr) (c : Nat) (w : World) : Calls Try.prog 28 #[.slice (some x) 0 c] w (PeersPost w 0) := by
  obtain ⟨C, hC, hmk⟩ := makes 42 68 21 40 Try.underlying42 info68 0 (by omega) (by omega)
  have hnil := fun (w : World) (a : Option Addr) (n c n' c' : Nat) => Lib.run_eql_slice_nil (P := Try.prog) w 32 48 a n c n' c' Try.underlying32
  rw [show ((0 : Nat) : Int) = 0 from rfl] at hmk
  go_enter Try.func28, Try.ntmps28
  go_wp2
  go_loopw [4] (fun i wr => i = .int .i64 0 ∧ Below w.heap.size w wr) (fun i _ => 0)
  case atStart => exact ⟨rfl, (Below.refl _ _).alloc (Nat.le_refl _) _⟩
  case round =>
    obtain ⟨rfl, hbel⟩ := hrel
    go_wp2
    go_ret
    exact ⟨⟨_, rfl⟩, hbel⟩

theorem toPeers_any (a : Option Addr) (n c : Nat) (w : World) (hp : PeersIn w a n) (hn : n ≤ 1048576) : Calls Try.prog 28 #[.slice a n c] w (PeersPost w n) := by
  obtain ⟨_, h0, hs⟩ := hp
  rcases Nat.eq_zero_or_pos n with rfl | hpos
  · cases a with
    | none => exact toPeers_nil c w
    | some x => exact toPeers_zero x c w
  · obtain ⟨b, o, rfl, hb, hj⟩ := hs hpos
    exact toPeers_some b o n c w hn hb hj

/-! ### toShare -/
def SharePost (w : World) (e : Ending) (w' : World) : Prop := (∃ C : Array Value, C.size = 43 ∧ C.all (·.oneCell') = true ∧ e = .returned (.agg C)) ∧ Below w.heap.size w w'

/-- What toShare's region needs of a world. -/
def HeldS (w0 w : World) (fr to : List Int) : Prop := RowAt w w0.heap.size 22 fr ∧ RowAt w (w0.heap.size + 1) 22 to ∧ Blk w (w0.heap.size + 1 + 1) 44 43 ∧ Below w0.heap.size w0 w
theorem Blk.below {w w' : World} {g : Nat} {t : TypeId} {m : Nat} (h : Blk w g t m) {B : Nat} (hb : Below B w w') (hB : g < B) : Blk w' g t m := h.same (hb.block g hB)
theorem HeldS.next {w0 w w1 : World} {fr to : List Int} (h : HeldS w0 w fr to) (hb : Below w.heap.size w w1) : HeldS w0 w1 fr to :=
  ⟨h.1.below hb h.1.lt, h.2.1.below hb h.2.1.lt, h.2.2.1.below hb h.2.2.1.lt, h.2.2.2.trans (hb.mono h.2.2.2.size)⟩
theorem HeldS.drew {w0 w : World} {fr to : List Int} (h : HeldS w0 w fr to) : HeldS w0 w.drew fr to := ⟨h.1.drew, h.2.1.drew, h.2.2.1.same rfl, h.2.2.2.drew⟩
theorem RowAt.rangeM {w : World} {b : Nat} {t : TypeId} {xs : List Int} (h : RowAt w b t xs) : w.rangeAt b 0 (agL xs) := h.range

theorem rangeAt_below {w w' : World} (hb : Below w.heap.size w w') {b o : Nat} {cs : List Value} (hB : b < w.heap.size) (h : w.rangeAt b o cs) : w'.rangeAt b o cs := fun j v hv => by
  rw [hb.cell (by exact hB)]; exact h j v hv
theorem PeersIn.below {w w' : World} {a : Option Addr} {n : Nat} (h : PeersIn w a n) (hb : Below w.heap.size w w') : PeersIn w' a n :=
  ⟨h.1, h.2.1, fun hp => let ⟨b, o, e, hl, hj⟩ := h.2.2 hp
    ⟨b, o, e, Nat.lt_of_lt_of_le hl hb.size, fun j hjn => ⟨let ⟨s, h1, h2⟩ := (hj j hjn).addr; ⟨s, h1, by rw [hb.cell (by exact hl)]; exact h2⟩, let ⟨xs, h1, h2⟩ := (hj j hjn).id; ⟨xs, h1, rangeAt_below hb hl h2⟩⟩⟩⟩
/-- The result of toShare lies in a cell that has just been stored. -/
theorem results_share {fn : Func} {p : Tmp} (h : fn.results = #[.cell p 44]) (tmps : Array Value) (w : World) (g : Nat) (C : Array Value) (hC : C.size = 43)
    (hp : tmps.getD p undef = .pointer (some ⟨g, 0, none⟩)) (ht : w.there g 0 43) :
    (results fn tmps).run Try.prog (w.setCells g 0 C.toList) = .ok (.agg C) (w.setCells g 0 C.toList) := by
  have hp' : tmps[p]?.getD undef = .pointer (some ⟨g, 0, none⟩) := by simpa using hp
  have hr := World.rangeAt_setCells_same w g 0 C.toList (by simpa [hC] using ht)
  have := run_loadVar_mid (P := Try.prog) (w.setCells g 0 C.toList) g 0 44 C.toList _ hr Try.underlying44 rfl (by rw [Try.size44]; simp [hC])
  simp [results, h, hp', asAddr, this]

set_option maxRecDepth 100000 in
set_option maxHeartbeats 400000 in
theorem toShare_any (pt : Int) (ow : Bool) (fr to : List Int) (a : Option Addr) (n c : Nat) (w : World) (hf : fr.length = 20) (ht : to.length = 20) (hp : PeersIn w a n) (hn : n ≤ 1048576) :
    Calls Try.prog 25 #[.int .i64 pt, .bool ow, .agg (ag fr), .agg (ag to), .slice a n c] w (SharePost w) := by
  go_enter Try.func25, Try.ntmps25
  go_upto_region 1 with fail
  obtain ⟨W0, hW0, hH⟩ : ∃ W0, W0 = ((w.alloc (.cells (ag fr) 22)).alloc (.cells (ag to) 22)).alloc (.cells (#[.int .i64 0, .bool false] ++ ag z20 ++ ag z20 ++ #[.slice none 0 0]) 44) ∧ HeldS w W0 fr to :=
    ⟨_, rfl, ((RowAt.new _ _ _ (by simp)).alloc _).alloc _, (RowAt.new _ _ _ (by simp)).alloc _, Blk.new _ _ _ (by simp), (below2 _ _ _).alloc (by simp; omega) _⟩
  have e0 : (#[.int .i64 0, .bool false] ++ ag z20 ++ ag z20 ++ #[.slice none 0 0] : Array Value) = #[Value.int .i64 0, .bool false, .int .u8 0, .int .u8 0, .int .u8 0, .int .u8 0, .int .u8 0, .int .u8 0, .int .u8 0, .int .u8 0, .int .u8 0, .int .u8 0, .int .u8 0, .int .u8 0, .int .u8 0, .int .u8 0, .int .u8 0, .int .u8 0, .int .u8 0, .int .u8 0, .int .u8 0, .int .u8 0, .int .u8 0, .int .u8 0, .int .u8 0, .int .u8 0, .int .u8 0, .int .u8 0, .int .u8 0, .int .u8 0, .int .u8 0, .int .u8 0, .int .u8 0, .int .u8 0, .int .u8 0, .int .u8 0, .int .u8 0, .int .u8 0, .int .u8 0, .int .u8 0, .int .u8 0, .int .u8 0, .slice none 0 0] := rfl
  rw [e0] at hW0
  rw [← hW0]
  clear hW0 e0
  refine wp_region_noPanic ?_
  refine wp_region_held_drew (S := fun w' => HeldS w w' fr to) (by kernel_rfl) hH.drew (fun hHeld => ?_)
  refine wpAnyH_take (i := 0) (v := .int .i64 pt) rfl (by kernel_rfl) (by kernel_rfl) (by kernel_rfl) (fun _ _ _ h => h) (Or.inl ⟨by rfl, fun _ _ => rfl⟩) hHeld ?_
  refine wpAnyH_take (i := 1) (v := .bool ow) rfl (by kernel_rfl) (by kernel_rfl) (by kernel_rfl) (fun _ _ _ h => h) (Or.inl ⟨by rfl, fun _ _ => rfl⟩) hHeld ?_
  refine wpAnyH_take (i := 2) (v := .agg (ag fr)) rfl (by kernel_rfl) (by kernel_rfl) (by kernel_rfl) (fun _ _ _ h => h) (yieldsM 22 (.inl rfl) (by rfl) _ rfl _ 0 rfl fr hf (fun w h => h.1.rangeM)) hHeld ?_
  refine wpAnyH_take (i := 3) (v := .agg (ag to)) rfl (by kernel_rfl) (by kernel_rfl) (by kernel_rfl) (fun _ _ _ h => h) (yieldsM 22 (.inl rfl) (by rfl) _ rfl _ 0 rfl to ht (fun w h => h.2.1.rangeM)) hHeld ?_
  refine wpAnyH_take (i := 4) (v := .slice a n c) rfl (by kernel_rfl) (by kernel_rfl) (by kernel_rfl) (fun _ _ _ h => h) (Or.inl ⟨by rfl, fun _ _ => rfl⟩) hHeld ?_
  simp only [Act.put, List.setIfInBounds_toArray, List.set_cons_zero, List.set_cons_succ]
  refine wpAnyH_ready (rs := [5]) (by kernel_rfl) (by simp) ?_
  refine AllReadyH.cons rfl (fun K hK => ?_) AllReadyH.nil
  go_simp
  refine (toPeers_any a n c _ (hp.below hHeld.2.2.2) hn).mono ?_
  rintro e w1 ⟨⟨a', rfl⟩, hb1⟩
  refine hK.out _ _ (hHeld.next hb1) (fun hHeld1 => ?_)
  clear hK K hHeld hH hb1
  obtain ⟨D, hD, hD1, hbuild⟩ := built44 pt ow fr to hf ht a' n n
  refine wpAnyH_take (i := 6) (v := .agg D) rfl (by kernel_rfl) (by kernel_rfl) (by kernel_rfl) (fun _ _ _ h => h) (Or.inl ⟨by rfl, fun w _ => exec_build 44 #[(0, .tmp 11), (1, .tmp 12), (2, .tmp 13), (3, .tmp 14), (4, .tmp 16)] (by rfl) w #[(0, .int .i64 pt), (1, .bool ow), (2, .agg (ag fr)), (3, .agg (ag to)), (4, .slice a' n n)] (by rfl) D (hbuild w)⟩) hHeld1 ?_
  refine wpAnyH_ready (rs := [7]) (by kernel_rfl) (by simp) ?_
  refine AllReadyH.cons rfl (fun K hK => ?_) AllReadyH.nil
  rw [if_pos (by rfl)]
  have hthere := hHeld1.2.2.1.there 0 43 (by omega)
  refine wp_store_mid 44 _ _ rfl (w.heap.size + 1 + 1) 0 D rfl rfl (by rw [hD]; exact hthere) (by rw [Try.size44, hD]) hD1 ?_
  refine hK.out _ _ ⟨hHeld1.1.stored_oth (by omega) _ _, hHeld1.2.1.stored_oth (by omega) _ _, hHeld1.2.2.1.stored _ _, below_setCells (by omega) _ _ _ hHeld1.2.2.2⟩ (fun hHeld3 => ?_)
  clear hK K
  refine wpAnyH_done (by kernel_rfl) ?_ _
  refine NoPanic.normal ?_
  go_wp2
  refine bodyPost_ret (v := .agg D) (by exact results_share rfl _ _ _ D hD rfl hthere) rfl ?_
  exact ⟨⟨D, hD, hD1, rfl⟩, hHeld3.2.2.2⟩
end Go.Proofs.Qxb6608829a
