import Derived.Test.Qxb6608834aTol3
import Derived.Laws.Append
import Derived.Deep.Upon
namespace Go.Proofs.Qxb6608834a
open Go.RowKit
set_option linter.unusedVariables false
set_option linter.unusedSimpArgs false

def SmlX (F : Nat → Tnt) (n : Nat) : Prop := ∀ j, j < n → (F j).key.size ≤ 1048576 ∧ (F j).val.size ≤ 1048576 ∧ (F j).eff.size ≤ 1048576
/-! ### lawTaintBytes: some number -/
set_option maxRecDepth 100000 in
set_option maxHeartbeats 1000000 in
theorem tntBytes_any (m0 : Int) (hm0 : 0 ≤ m0) (hm1 : m0 ≤ 1048576) (F : Nat → Tnt) (a : Option Addr) (n c : Nat) (w : World) (hn : n ≤ 1048576) (hs : SmlX F n) (hp : RowsIn w 3 (fun j => tntL (F j)) a n) : Calls Try.prog 18 #[.int .i64 m0, .slice a n c] w (IntPost w) := by
  replace hp : Hid (RowsIn w 3 (fun j => tntL (F j)) a n) := hp
  replace hs : Hid (SmlX F n) := hs
  go_enter Try.func18, Try.ntmps18
  go_wp2
  go_loopw [0, 5] (fun m i wr => ∃ (k : Nat) (m' : Int), k ≤ n ∧ i = .int .i64 k ∧ m = .int .i64 m' ∧ 0 ≤ m' ∧ m' ≤ 1048576 ∧ Hid (Below w.heap.size w wr)) (fun _ i _ => n - (intOf i).toNat)
  case atStart => exact ⟨0, m0, Nat.zero_le _, rfl, rfl, hm0, hm1, Below.refl _ _⟩
  case round =>
    obtain ⟨k, m', hk, rfl, rfl, hm'0, hm'1, hB⟩ := hrel
    by_cases hkn : k < n
    · obtain ⟨b, o, rfl, hl, hj⟩ := hp.out (by omega)
      have hr := range_below (hj k hkn) hB.out hl
      have a0 : wr.cell? ⟨b, o + k * 3, none⟩ = some (.string (F k).key) := hr 0 _ rfl
      have a1 : wr.cell? ⟨b, o + k * 3 + 1, none⟩ = some (.string (F k).val) := hr 1 _ rfl
      have a2 : wr.cell? ⟨b, o + k * 3 + 2, none⟩ = some (.string (F k).eff) := hr 2 _ rfl
      obtain ⟨s0, s1, s2⟩ := hs.out k hkn
      have hk0 : (0 : Int) ≤ (k : Int) := by omega
      have hk1 : (k : Int) < (n : Int) := by omega
      clear hr hj hl
      go_wp2
      go_quiet (fail)
      obtain ⟨M, hM⟩ : ∃ M : Int, M = m' + 48 + ↑(F k).key.size + ↑(F k).val.size + ↑(F k).eff.size := ⟨_, rfl⟩
      rw [← hM]
      have hM0 : 0 ≤ M := by omega
      have hM1 : M ≤ 10000000 := by omega
      have hB2 : Hid (Below w.heap.size w (wr.drewN nq)) := hB.out.trans ⟨rfl, rfl, rfl, Nat.le_refl _, fun _ _ => rfl⟩
      clear hM a0 a1 a2 s0 s1 s2
      by_cases hg : M ≤ 1048576
      · go_wp2
        go_roundw
        case rel => exact ⟨k + 1, M, by omega, by go_num, rfl, hM0, hg, hB2⟩
        case measure => simp [intOf]; omega
      · go_wp2
        go_ret
        exact ⟨⟨_, rfl⟩, hB2.out⟩
    · have hkk : k = n := by omega
      subst hkk
      go_wp2
      go_ret
      exact ⟨⟨_, rfl⟩, hB.out⟩

/-! ### zzBytes -/
def BytesXPost (w : World) (F : Nat → Tnt) (n : Nat) (s : ByteArray) (e : Ending) (w' : World) : Prop := (e = .returned (.bool false) ∨ (e = .returned (.bool true) ∧ n ≤ 1048576 ∧ SmlX F n ∧ s.size ≤ 1048576)) ∧ w' = w
theorem ByteNoX {w : World} {F : Nat → Tnt} {n : Nat} {s : ByteArray} : BytesXPost w F n s (.returned (.bool false)) w := ⟨.inl rfl, rfl⟩
set_option maxRecDepth 100000 in
set_option maxHeartbeats 2000000 in
theorem bytes17_any (F : Nat → Tnt) (a : Option Addr) (n c : Nat) (s : ByteArray) (w : World) (hn : n ≤ 9223372036854775807) (hp : RowsIn w 3 (fun j => tntL (F j)) a n) (hF : ∀ j, j < n → (F j).key.size ≤ 9223372036854775807 ∧ (F j).val.size ≤ 9223372036854775807 ∧ (F j).eff.size ≤ 9223372036854775807) (hs : s.size ≤ 9223372036854775807) :
    Calls Try.prog 17 #[.slice a n c, .string s] w (BytesXPost w F n s) := by
  replace hp : Hid (RowsIn w 3 (fun j => tntL (F j)) a n) := hp
  replace hF : Hid (∀ j, j < n → (F j).key.size ≤ 9223372036854775807 ∧ (F j).val.size ≤ 9223372036854775807 ∧ (F j).eff.size ≤ 9223372036854775807) := hF
  by_cases hnc : n ≤ 1048576
  case neg =>
    go_enter Try.func17, Try.ntmps17
    go_wp2
    go_ret
    exact ByteNoX
  go_enter Try.func17, Try.ntmps17
  go_wp2
  go_loopw [5, 6] (fun m i wr => ∃ (k : Nat) (m' : Int), k ≤ n ∧ i = .int .i64 k ∧ m = .int .i64 m' ∧ 0 ≤ m' ∧ m' ≤ 1048576 ∧ wr = w ∧ Hid (SmlX F k)) (fun _ i _ => n - (intOf i).toNat)
  case atStart => exact ⟨0, n, Nat.zero_le _, rfl, rfl, by omega, by omega, rfl, fun j hj => absurd hj (by omega)⟩
  case round =>
    obtain ⟨k, m', hk, rfl, rfl, hm'0, hm'1, rfl, hS⟩ := hrel
    by_cases hkn : k < n
    · obtain ⟨b, o, rfl, hl, hj⟩ := hp.out (by omega)
      have hr := hj k hkn
      have b0 : wr.cell? ⟨b, o + k * 3, none⟩ = some (.string (F k).key) := hr 0 _ rfl
      have b1 : wr.cell? ⟨b, o + k * 3 + 1, none⟩ = some (.string (F k).val) := hr 1 _ rfl
      have b2 : wr.cell? ⟨b, o + k * 3 + 2, none⟩ = some (.string (F k).eff) := hr 2 _ rfl
      obtain ⟨s0, s1, s2⟩ := hF.out k hkn
      have hk0 : (0 : Int) ≤ (k : Int) := by omega
      have hk1 : (k : Int) < (n : Int) := by omega
      clear hr hj hl
      go_wp2
      all_goals first
        | (go_roundw; (case rel => exact ⟨k + 1, _, by omega, by go_num, rfl, by omega, by omega, trivial, fun j hj => by
                by_cases hjk : j = k
                · subst hjk; exact ⟨by omega, by omega, by omega⟩
                · exact hS.out j (by omega)⟩); (case measure => simp [intOf]; omega))
        | (go_ret; exact ByteNoX)
        | skip
    · have hkk : k = n := by omega
      subst hkk
      go_wp2
      all_goals first
        | (go_ret; exact ByteNoX)
        | (go_ret; exact ⟨.inr ⟨rfl, hnc, hS.out, by omega⟩, rfl⟩)
        | skip

/-! ### lawTaints -/
theorem info56 : (Try.prog.info? 56).map (fun i => (i.zero.isSome, i.size, i.bytes)) = some (true, 3, 48) := by kernel_rfl
def TntsPost (w : World) (F : Nat → Tnt) (n : Nat) (e : Ending) (w' : World) : Prop := (∃ a, e = .returned (.slice a n n) ∧ (a = none → n = 0) ∧ RowsIn w' 3 (fun j => tntL (F j)) a n) ∧ Below w.heap.size w w'
theorem taints_nil (F : Nat → Tnt) (c : Nat) (w : World) : Calls Try.prog 19 #[.slice none 0 c] w (TntsPost w F 0) := by
  have hnil := fun (w : World) (a : Option Addr) (n c n' c' : Nat) => Lib.run_eql_slice_nil (P := Try.prog) w 32 50 a n c n' c' Try.underlying32
  go_enter Try.func19, Try.ntmps19
  go_wp2
  go_ret
  exact ⟨⟨none, rfl, fun _ => rfl, fun h => absurd h (by omega)⟩, Below.refl _ _⟩
def HeldX (w0 : World) (F : Nat → Tnt) (n k : Nat) (w : World) : Prop := Below w0.heap.size w0 w ∧ Blk w w0.heap.size 56 (n * 3) ∧ ∀ j, j < k → w.rangeAt w0.heap.size (j * 3) (tntL (F j))
theorem HeldX.next {w0 w w' : World} {F : Nat → Tnt} {n k : Nat} (h : HeldX w0 F n k w) (hb : Below w.heap.size w w') : HeldX w0 F n k w' :=
  ⟨h.1.trans (hb.mono h.1.size), h.2.1.below hb h.2.1.lt, fun j hj => range_below (h.2.2 j hj) hb h.2.1.lt⟩
theorem HeldX.stored {w0 w : World} {F : Nat → Tnt} {n k : Nat} (h : HeldX w0 F n k w) (hkn : k < n) : HeldX w0 F n (k + 1) (w.setCells w0.heap.size (k * 3) (tntL (F k)).toArray.toList) :=
  ⟨below_setCells (Nat.le_refl _) _ _ _ h.1, h.2.1.stored _ _, rows_store (L := fun j => tntL (F j)) (st := 3) (fun _ => rfl) h.2.2 (h.2.1.there _ _ (row_fits 3 hkn)) rfl⟩
set_option maxRecDepth 100000 in
set_option maxHeartbeats 400000 in
theorem taints_some (F : Nat → Tnt) (x : Addr) (n c : Nat) (w : World) (hn : n ≤ 1048577) (hp : RowsIn w 3 (fun j => tntL (F j)) (some x) n) : Calls Try.prog 19 #[.slice (some x) n c] w (TntsPost w F n) := by
  obtain ⟨C, hC, hmk⟩ := makes 36 56 3 48 Try.underlying36 info56 n hn (by omega)
  have hnil := fun (w : World) (a : Option Addr) (n c n' c' : Nat) => Lib.run_eql_slice_nil (P := Try.prog) w 32 50 a n c n' c' Try.underlying32
  have HC : Hid (C.size = n * 3) := hC
  clear hC
  replace hp : Hid (RowsIn w 3 (fun j => tntL (F j)) (some x) n) := hp
  go_enter Try.func19, Try.ntmps19
  go_wp2
  go_loopw [4] (fun i wr => ∃ k : Nat, k ≤ n ∧ i = .int .i64 k ∧ Hid (HeldX w F n k wr)) (fun i _ => n - (intOf i).toNat)
  case atStart => exact ⟨0, Nat.zero_le _, rfl, (Below.refl _ _).alloc (Nat.le_refl _) _, by rw [← HC.out]; exact Blk.new w C 56 rfl, fun j hj => absurd hj (by omega)⟩
  case round =>
    obtain ⟨k, hk, rfl, hH⟩ := hrel
    by_cases hkn : k < n
    · obtain ⟨b, o, hx, hl, hj⟩ := hp.out (by omega)
      cases hx
      have hr : Hid (wr.rangeAt b (o + k * 3) (tntL (F k))) := range_below (hj k hkn) hH.out.1 hl
      have hk0 : (0 : Int) ≤ (k : Int) := by omega
      have hk1 : (k : Int) < (n : Int) := by omega
      clear hj hl hp hmk hnil
      go_wp2_with (first
        | (refine wpl_exec (.agg (tntL (F k)).toArray) ?_ (exec_load 50 _ Try.underlying50 (tntL (F k)) size50 (.tmp 20) ?_ _ b (o + k * 3) ?_ hr.out) ?_; rfl; rfl; rfl))
      refine (taint_any (F k) wr).mono ?_
      rintro e w1 ⟨rfl, hb1⟩
      have hH1 : Hid (HeldX w F n k w1) := hH.out.next hb1
      have hth : Hid (w1.there w.heap.size (k * 3) 3) := hH1.out.2.1.there _ _ (row_fits 3 hkn)
      clear hH hr hb1
      go_wp2_with (first
        | (refine wpl_storeB 56 3 size56 ?_ (.tmp 23) (.tmp 22) ?_ w.heap.size (k * 3) ?_ (tntL (F k)).toArray ?_ rfl (tntL_one _) ?_ ?_; rfl; rfl; rfl; rfl; exact hth.out; rintro w2 hw2; replace hw2 : Hid _ := hw2))
      have H2 : Hid (HeldX w F n (k + 1) w2) := by
        have e := hw2.out
        subst e
        exact hH1.out.stored hkn
      clear hw2 hH1 hth
      go_wp2
      go_roundw
      case rel => exact ⟨k + 1, by omega, by go_num, H2⟩
      case measure => simp [intOf]; omega
    · have hkk : k = n := by omega
      subst hkk
      go_wp2
      go_ret
      exact ⟨⟨_, rfl, (fun h => by cases h), RowsIn.of_new hH.out.2.1.lt hH.out.2.2⟩, hH.out.1⟩
theorem taints_any (F : Nat → Tnt) (a : Option Addr) (n c : Nat) (w : World) (hn : n ≤ 1048577) (hz : a = none → n = 0) (hp : RowsIn w 3 (fun j => tntL (F j)) a n) : Calls Try.prog 19 #[.slice a n c] w (TntsPost w F n) := by
  cases a with
  | none => cases hz rfl; exact taints_nil F c w
  | some x => exact taints_some F x n c w hn hp

/-! ### append(nil, taints...) -/
def cellN (F : Nat → Tnt) (q : Nat) : Value := ((tntL (F (q / 3)))[q % 3]?).getD undef
theorem cellN_at (F : Nat → Tnt) (j r : Nat) (v : Value) (hv : (tntL (F j))[r]? = some v) : cellN F (j * 3 + r) = v := by
  have hr : r < 3 := by have := (List.getElem?_eq_some_iff.1 hv).1; simpa [tntL] using this
  unfold cellN
  rw [show (j * 3 + r) / 3 = j by omega, show (j * 3 + r) % 3 = r by omega, hv]
  rfl
theorem cellN_get (F : Nat → Tnt) (q : Nat) : (tntL (F (q / 3)))[q % 3]? = some (cellN F q) := by
  unfold cellN
  have : q % 3 < (tntL (F (q / 3))).length := by simp [tntL]; omega
  rw [List.getElem?_eq_getElem this]
  rfl
theorem append_nil_any (F : Nat → Tnt) (a : Option Addr) (n : Nat) (w : World) (hn : n ≤ 1048577) (hz : a = none → n = 0) (hp : RowsIn w 3 (fun j => tntL (F j)) a n) :
    ∃ a' c' w', (∀ ty, (Builtin.append_ #[36, 36] ty #[.slice none 0 0, .slice a n n]).run Try.prog w = .ok (.slice a' n c') w') ∧ RowsIn w' 3 (fun j => tntL (F j)) a' n ∧ Below w.heap.size w w' := by
  cases hi : Try.prog.info? 56 with
  | none => have := info56; rw [hi] at this; cases this
  | some i =>
    have h56 := info56
    rw [hi] at h56
    simp only [Option.map_some, Option.some.injEq, Prod.mk.injEq] at h56
    obtain ⟨hzz, hsz, hby⟩ := h56
    obtain ⟨z, hz'⟩ := Option.isSome_iff_exists.1 hzz
    rcases Nat.eq_zero_or_pos n with rfl | hpos
    · refine ⟨none, 0, w, fun ty => ?_, fun h => absurd h (by omega), Below.refl _ _⟩
      cases a with
      | none => exact run_append_nothing w 36 36 ty 56 i Try.underlying36 hi none 0 0 (Nat.le_refl _) _ (Src.ofNil w Try.underlying36 0)
      | some x => exact run_append_nothing w 36 36 ty 56 i Try.underlying36 hi none 0 0 (Nat.le_refl _) _ (Src.ofSlice w Try.underlying36 x 0 0 [] (by simp) (fun j u h => by simp at h) (fun u h => by cases h))
    · obtain ⟨b, o, rfl, hl, hj⟩ := hp hpos
      refine ⟨_, _, _, fun ty => run_append_nil (P := Try.prog) (w := w) 36 ty 56 i z Try.underlying36 hi hz' ⟨b, o, none⟩ n n ((List.range (n * 3)).map (cellN F)) (by simp [hsz]) (fun q v hv => ?_) hpos (by omega) (by rw [hby]; omega), ?_, ?_⟩
      · rw [List.getElem?_map] at hv
        have hq : q < n * 3 := by
          apply Classical.byContradiction
          intro hn'
          rw [List.getElem?_eq_none (by simp; omega)] at hv
          cases hv
        rw [List.getElem?_range hq] at hv
        simp only [Option.map_some, Option.some.injEq] at hv
        subst hv
        have := hj (q / 3) (by omega) (q % 3) _ (cellN_get F q)
        rw [Addr.add_mid]
        rw [show o + q / 3 * 3 + q % 3 = o + q by omega] at this
        exact this
      · refine RowsIn.of_new (by simp) (fun j hj' r v hv => ?_)
        have hr : r < 3 := by have := (List.getElem?_eq_some_iff.1 hv).1; simpa [tntL] using this
        rw [show w.heap.size = w.drew.heap.size from rfl, cell_of_row _ _ (j * 3 + r) _ _ _ (heap_alloc_new _ _)]
        rw [Array.getElem?_append_left (by simp; omega)]
        simp only [List.getElem?_toArray, List.getElem?_map]
        rw [List.getElem?_range (by omega)]
        simp only [Option.map_some, Option.some.injEq]
        exact cellN_at F j r v hv
      · exact (Below.refl w.heap.size w).drew.trans (below1 w.drew _)
end Go.Proofs.Qxb6608834a
