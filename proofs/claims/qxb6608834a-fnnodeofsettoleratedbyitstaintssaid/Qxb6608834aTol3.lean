import Derived.Test.Qxb6608834aTol2
namespace Go.Proofs.Qxb6608834a
open Go.RowKit
set_option linter.unusedVariables false
set_option linter.unusedSimpArgs false

/-! ### lawTolerationBytes: some number -/
def Sml (F : Nat → Tol) (n : Nat) : Prop := ∀ j, j < n → (F j).key.size ≤ 1048576 ∧ (F j).op.size ≤ 1048576 ∧ (F j).val.size ≤ 1048576 ∧ (F j).eff.size ≤ 1048576
def IntPost (w : World) (e : Ending) (w' : World) : Prop := (∃ m : Int, e = .returned (.int .i64 m)) ∧ Below w.heap.size w w'
set_option maxRecDepth 100000 in
set_option maxHeartbeats 1000000 in
theorem tolBytes_any (m0 : Int) (hm0 : 0 ≤ m0) (hm1 : m0 ≤ 1048576) (F : Nat → Tol) (a : Option Addr) (n c : Nat) (w : World) (hn : n ≤ 1048576) (hs : Sml F n) (hp : RowsIn w 4 (fun j => ltolL (F j)) a n) : Calls Try.prog 31 #[.int .i64 m0, .slice a n c] w (IntPost w) := by
  replace hp : Hid (RowsIn w 4 (fun j => ltolL (F j)) a n) := hp
  replace hs : Hid (Sml F n) := hs
  go_enter Try.func31, Try.ntmps31
  go_wp2
  go_loopw [0, 5] (fun m i wr => ∃ (k : Nat) (m' : Int), k ≤ n ∧ i = .int .i64 k ∧ m = .int .i64 m' ∧ 0 ≤ m' ∧ m' ≤ 1048576 ∧ Hid (Below w.heap.size w wr)) (fun _ i _ => n - (intOf i).toNat)
  case atStart => exact ⟨0, m0, Nat.zero_le _, rfl, rfl, hm0, hm1, Below.refl _ _⟩
  case round =>
    obtain ⟨k, m', hk, rfl, rfl, hm'0, hm'1, hB⟩ := hrel
    by_cases hkn : k < n
    · obtain ⟨b, o, rfl, hl, hj⟩ := hp.out (by omega)
      have hr := range_below (hj k hkn) hB.out hl
      have a0 : wr.cell? ⟨b, o + k * 4, none⟩ = some (.string (F k).key) := hr 0 _ rfl
      have a1 : wr.cell? ⟨b, o + k * 4 + 1, none⟩ = some (.string (F k).op) := hr 1 _ rfl
      have a2 : wr.cell? ⟨b, o + k * 4 + 2, none⟩ = some (.string (F k).val) := hr 2 _ rfl
      have a3 : wr.cell? ⟨b, o + k * 4 + 3, none⟩ = some (.string (F k).eff) := hr 3 _ rfl
      obtain ⟨s0, s1, s2, s3⟩ := hs.out k hkn
      have hk0 : (0 : Int) ≤ (k : Int) := by omega
      have hk1 : (k : Int) < (n : Int) := by omega
      clear hr hj hl
      go_wp2
      go_quiet (fail)
      obtain ⟨M, hM⟩ : ∃ M : Int, M = m' + 64 + ↑(F k).key.size + ↑(F k).op.size + ↑(F k).val.size + ↑(F k).eff.size := ⟨_, rfl⟩
      rw [← hM]
      have hM0 : 0 ≤ M := by omega
      have hM1 : M ≤ 10000000 := by omega
      have hB2 : Hid (Below w.heap.size w (wr.drewN nq)) := hB.out.trans ⟨rfl, rfl, rfl, Nat.le_refl _, fun _ _ => rfl⟩
      clear hM a0 a1 a2 a3 s0 s1 s2 s3
      by_cases hg : M ≤ 1048576
      · go_wp2
        go_roundw
        case rel => exact ⟨k + 1, M, by omega, by go_num, rfl, hM0, hg, hB2⟩
        case measure => simp [intOf]; omega
      · go_wp2
        go_ret
        exact ⟨⟨_, rfl⟩, hB2.out⟩
    · have hkk : k = n := by omega
      subst hkk
      go_wp2
      go_ret
      exact ⟨⟨_, rfl⟩, hB.out⟩

/-! ### zzBytes: yes says that all is small -/
def BytesPost (w : World) (F : Nat → Tol) (n : Nat) (x : Tnt) (e : Ending) (w' : World) : Prop := (e = .returned (.bool false) ∨ (e = .returned (.bool true) ∧ n ≤ 1048576 ∧ Sml F n ∧ x.key.size ≤ 1048576 ∧ x.val.size ≤ 1048576 ∧ x.eff.size ≤ 1048576)) ∧ Below w.heap.size w w'
theorem ByteNo {w w' : World} {F : Nat → Tol} {n : Nat} {x : Tnt} (h : Below w.heap.size w w') : BytesPost w F n x (.returned (.bool false)) w' := ⟨.inl rfl, h⟩
set_option maxRecDepth 100000 in
set_option maxHeartbeats 2000000 in
theorem bytes30_any (F : Nat → Tol) (a : Option Addr) (n c : Nat) (x : Tnt) (kk : Int) (w : World) (hn : n ≤ 9223372036854775807) (hp : RowsIn w 4 (fun j => ltolL (F j)) a n) (hF : ∀ j, j < n → (F j).key.size ≤ 9223372036854775807 ∧ (F j).op.size ≤ 9223372036854775807 ∧ (F j).val.size ≤ 9223372036854775807 ∧ (F j).eff.size ≤ 9223372036854775807) (hx : x.key.size ≤ 9223372036854775807 ∧ x.val.size ≤ 9223372036854775807 ∧ x.eff.size ≤ 9223372036854775807) :
    Calls Try.prog 30 #[.slice a n c, .agg (tntL x).toArray, .int .i64 kk] w (BytesPost w F n x) := by
  obtain ⟨W, hW, hr, hb, hz⟩ : ∃ W, W = (w.alloc (.cells (tntL x).toArray 50)) ∧ W.rangeAt w.heap.size 0 (tntL x) ∧ Below w.heap.size w W ∧ w.heap.size < W.heap.size :=
    ⟨_, rfl, (range_new w _ _ rfl), below1 _ _, by simp⟩
  replace hp : Hid (RowsIn W 4 (fun j => ltolL (F j)) a n) := hp.below hb
  have a0 : W.cell? ⟨w.heap.size, 0, none⟩ = some (.string x.key) := hr 0 _ rfl
  have a1 : W.cell? ⟨w.heap.size, 1, none⟩ = some (.string x.val) := hr 1 _ rfl
  have a2 : W.cell? ⟨w.heap.size, 2, none⟩ = some (.string x.eff) := hr 2 _ rfl
  replace hb : Hid (Below w.heap.size w W) := hb
  replace hF : Hid (∀ j, j < n → (F j).key.size ≤ 9223372036854775807 ∧ (F j).op.size ≤ 9223372036854775807 ∧ (F j).val.size ≤ 9223372036854775807 ∧ (F j).eff.size ≤ 9223372036854775807) := hF
  obtain ⟨hx0, hx1, hx2⟩ := hx
  clear hr
  by_cases hnc : n ≤ 1048576
  case neg =>
    go_enter Try.func30, Try.ntmps30
    go_upto_region 1 with fail
    rw [← hW]
    clear hW
    go_wp2
    go_ret
    exact ByteNo hb.out
  go_enter Try.func30, Try.ntmps30
  go_upto_region 1 with fail
  rw [← hW]
  clear hW
  go_wp2
  go_loopw [7, 8] (fun m i wr => ∃ (k : Nat) (m' : Int), k ≤ n ∧ i = .int .i64 k ∧ m = .int .i64 m' ∧ 0 ≤ m' ∧ m' ≤ 1048576 ∧ wr = W ∧ Hid (Sml F k)) (fun _ i _ => n - (intOf i).toNat)
  case atStart => exact ⟨0, n, Nat.zero_le _, rfl, rfl, by omega, by omega, rfl, fun j hj => absurd hj (by omega)⟩
  case round =>
    obtain ⟨k, m', hk, rfl, rfl, hm'0, hm'1, rfl, hS⟩ := hrel
    by_cases hkn : k < n
    · obtain ⟨b, o, rfl, hl, hj⟩ := hp.out (by omega)
      have hr := hj k hkn
      have b0 : wr.cell? ⟨b, o + k * 4, none⟩ = some (.string (F k).key) := hr 0 _ rfl
      have b1 : wr.cell? ⟨b, o + k * 4 + 1, none⟩ = some (.string (F k).op) := hr 1 _ rfl
      have b2 : wr.cell? ⟨b, o + k * 4 + 2, none⟩ = some (.string (F k).val) := hr 2 _ rfl
      have b3 : wr.cell? ⟨b, o + k * 4 + 3, none⟩ = some (.string (F k).eff) := hr 3 _ rfl
      obtain ⟨s0, s1, s2, s3⟩ := hF.out k hkn
      have hk0 : (0 : Int) ≤ (k : Int) := by omega
      have hk1 : (k : Int) < (n : Int) := by omega
      clear hr hj hl
      go_wp2
      all_goals first
        | (go_roundw; (case rel => exact ⟨k + 1, _, by omega, by go_num, rfl, by omega, by omega, trivial, fun j hj => by
                by_cases hjk : j = k
                · subst hjk; exact ⟨by omega, by omega, by omega, by omega⟩
                · exact hS.out j (by omega)⟩); (case measure => simp [intOf]; omega))
        | (go_ret; exact ByteNo hb.out)
        | skip
    · have hkk : k = n := by omega
      subst hkk
      go_wp2
      all_goals first
        | (go_ret; exact ByteNo hb.out)
        | (go_ret; exact ⟨.inr ⟨rfl, hnc, hS.out, by omega, by omega, by omega⟩, hb.out⟩)
        | skip

/-! ### lawInsertToleration -/
theorem info52 : (Try.prog.info? 52).map (fun i => (i.zero.isSome, i.size, i.bytes)) = some (true, 4, 64) := by kernel_rfl
def insT (F : Nat → Tol) (k : Nat) (t : Tol) (i : Nat) : Tol := if i < k then F i else if i = k then t else F (i - 1)
def InsPost (w : World) (F : Nat → Tol) (n k : Nat) (t : Tol) (e : Ending) (w' : World) : Prop := (∃ g, e = .returned (.slice (some ⟨g, 0, none⟩) (n + 1) (n + 1)) ∧ RowsIn w' 4 (fun j => ltolL (insT F k t j)) (some ⟨g, 0, none⟩) (n + 1)) ∧ Below w.heap.size w w'
def HeldI (w0 : World) (G : Nat → Tol) (t : Tol) (n k : Nat) (w : World) : Prop := Below w0.heap.size w0 w ∧ Blk w (w0.heap.size + 1) 52 ((n + 1) * 4) ∧ w.rangeAt w0.heap.size 0 (ltolL t) ∧ ∀ j, j < k → w.rangeAt (w0.heap.size + 1) (j * 4) (ltolL (G j))
theorem HeldI.there {w0 w : World} {G : Nat → Tol} {t : Tol} {n k : Nat} (h : HeldI w0 G t n k w) (hkn : k < n + 1) : w.there (w0.heap.size + 1) (k * 4) 4 := h.2.1.there _ _ (row_fits 4 hkn)
theorem HeldI.stored {w0 w : World} {G : Nat → Tol} {t : Tol} {n k : Nat} (h : HeldI w0 G t n k w) (hkn : k < n + 1) {x : Tol} (hx : x = G k) : HeldI w0 G t n (k + 1) (w.setCells (w0.heap.size + 1) (k * 4) (ltolL x).toArray.toList) := by
  subst hx
  exact ⟨below_setCells (Nat.le_succ _) _ _ _ h.1, h.2.1.stored _ _, World.rangeAt_setCells_apart h.2.2.1 _ _ _ (.inl (by omega)),
    rows_store (L := fun j => ltolL (G j)) (st := 4) (fun _ => rfl) h.2.2.2 (h.there hkn) rfl⟩

set_option maxRecDepth 100000 in
set_option maxHeartbeats 1000000 in
theorem insertTol_any (F : Nat → Tol) (a : Option Addr) (n c k : Nat) (t : Tol) (w : World) (hn : n ≤ 1048576) (hkn : k ≤ n) (hp : RowsIn w 4 (fun j => ltolL (F j)) a n) : Calls Try.prog 32 #[.slice a n c, .int .i64 k, .agg (ltolL t).toArray] w (InsPost w F n k t) := by
  obtain ⟨C, hC, hmk⟩ := makes 48 52 4 64 Try.underlying48 info52 (n + 1) (by omega) (by omega)
  rw [show ((n + 1 : Nat) : Int) = (n : Int) + 1 from rfl] at hmk
  obtain ⟨W, hW, hr, hb, hz⟩ : ∃ W, W = (w.alloc (.cells (ltolL t).toArray 52)) ∧ W.rangeAt w.heap.size 0 (ltolL t) ∧ Below w.heap.size w W ∧ W.heap.size = w.heap.size + 1 :=
    ⟨_, rfl, (range_new w _ _ rfl), below1 _ _, by simp⟩
  replace hC : Hid (C.size = (n + 1) * 4) := hC
  replace hp : Hid (RowsIn w 4 (fun j => ltolL (F j)) a n) := hp
  replace hr : Hid (W.rangeAt w.heap.size 0 (ltolL t)) := hr
  replace hb : Hid (Below w.heap.size w W) := hb
  go_enter Try.func32, Try.ntmps32
  go_upto_region 1 with fail
  rw [← hW]
  clear hW
  go_upto_region 3 with fail
  obtain ⟨W1, hW1, hH⟩ : ∃ W1, W1 = W.alloc (.cells C 52) ∧ HeldI w (insT F k t) t n 0 W1 :=
    ⟨_, rfl, hb.out.alloc (by omega) _, by rw [← hC.out]; exact Blk.new _ _ _ hz.symm, range_below hr.out (below1 _ _) (by omega), fun j hj => absurd hj (by omega)⟩
  rw [← hW1]
  replace hH : Hid (HeldI w (insT F k t) t n 0 W1) := hH
  clear hW1 hr hb hC hmk
  go_loopw [8] (fun i wr => ∃ q : Nat, q ≤ k ∧ i = .int .i64 q ∧ Hid (HeldI w (insT F k t) t n q wr)) (fun i _ => k - (intOf i).toNat)
  case atStart => exact ⟨0, Nat.zero_le _, rfl, hH⟩
  case round =>
    clear hH
    obtain ⟨q, hq, rfl, hH⟩ := hrel
    by_cases hqk : q < k
    · obtain ⟨b, o, rfl, hl, hj⟩ := hp.out (by omega)
      have hrk : Hid (wr.rangeAt b (o + q * 4) (ltolL (F q))) := range_below (hj q (by omega)) hH.out.1 hl
      have hth : Hid (wr.there (w.heap.size + 1) (q * 4) 4) := hH.out.there (by omega)
      have hq0 : (0 : Int) ≤ (q : Int) := by omega
      have hq1 : (q : Int) < (k : Int) := by omega
      have hq2 : (q : Int) < (n : Int) := by omega
      have hq3 : (q : Int) < (n : Int) + 1 := by omega
      clear hj hl
      go_wp2_with (first
        | (refine wpl_exec (.agg (ltolL (F q)).toArray) ?_ (exec_load 52 _ Try.underlying52 (ltolL (F q)) size52 (.tmp 23) ?_ _ b (o + q * 4) ?_ hrk.out) ?_; rfl; rfl; rfl)
        | (refine wpl_storeB 52 4 size52 ?_ (.tmp 25) (.tmp 24) ?_ (w.heap.size + 1) (q * 4) ?_ (ltolL (F q)).toArray ?_ rfl (ltolL_one _) ?_ ?_; rfl; rfl; rfl; rfl; exact hth.out; rintro w2 hw2; replace hw2 : Hid _ := hw2))
      have H2 : Hid (HeldI w (insT F k t) t n (q + 1) w2) := by
        have e := hw2.out
        subst e
        exact hH.out.stored (by omega) (by simp [insT, hqk])
      clear hw2 hrk hth hH
      go_wp2
      go_roundw
      case rel => exact ⟨q + 1, by omega, by go_num, H2⟩
      case measure => simp [intOf]; omega
    · have hqq : q = k := by omega
      subst hqq
      have hth : Hid (wr.there (w.heap.size + 1) (q * 4) 4) := hH.out.there (by omega)
      have hrt : Hid (wr.rangeAt w.heap.size 0 (ltolL t)) := hH.out.2.2.1
      have hq0 : (0 : Int) ≤ (q : Int) := by omega
      have hq3 : (q : Int) < (n : Int) + 1 := by omega
      go_upto_region 8 with (first
        | (refine wpl_exec (.agg (ltolL t).toArray) ?_ (exec_load 52 _ Try.underlying52 (ltolL t) size52 (.tmp 5) ?_ _ w.heap.size 0 ?_ hrt.out) ?_; rfl; rfl; rfl)
        | (refine wpl_storeB 52 4 size52 ?_ (.tmp 29) (.tmp 28) ?_ (w.heap.size + 1) (q * 4) ?_ (ltolL t).toArray ?_ rfl (ltolL_one _) ?_ ?_; rfl; rfl; rfl; rfl; exact hth.out; rintro w2 hw2; replace hw2 : Hid _ := hw2))
      have H2 : Hid (HeldI w (insT F q t) t n (q + 1) w2) := by
        have e := hw2.out
        subst e
        exact hH.out.stored (by omega) (by simp [insT])
      clear hw2 hrt hth hH hq3
      go_loopw [9] (fun i wr => ∃ r : Nat, q ≤ r ∧ r ≤ n ∧ i = .int .i64 r ∧ Hid (HeldI w (insT F q t) t n (r + 1) wr)) (fun i _ => n - (intOf i).toNat)
      case atStart => exact ⟨q, Nat.le_refl _, hkn, rfl, H2⟩
      case round =>
        clear H2
        obtain ⟨r, hqr, hrn, rfl, hH⟩ := hrel
        by_cases hr : r < n
        · obtain ⟨b, o, rfl, hl, hj⟩ := hp.out (by omega)
          have hrk : Hid (wr.rangeAt b (o + r * 4) (ltolL (F r))) := range_below (hj r (by omega)) hH.out.1 hl
          have hth : Hid (wr.there (w.heap.size + 1) ((r + 1) * 4) 4) := hH.out.there (by omega)
          have hr0 : (0 : Int) ≤ (r : Int) := by omega
          have hr1 : (r : Int) < (n : Int) := by omega
          have hr2 : (r : Int) + 1 < (n : Int) + 1 := by omega
          clear hj hl
          go_wp2_with (first
            | (refine wpl_exec (.agg (ltolL (F r)).toArray) ?_ (exec_load 52 _ Try.underlying52 (ltolL (F r)) size52 (.tmp 42) ?_ _ b (o + r * 4) ?_ hrk.out) ?_; rfl; rfl; rfl)
            | (refine wpl_storeB 52 4 size52 ?_ (.tmp 44) (.tmp 43) ?_ (w.heap.size + 1) ((r + 1) * 4) ?_ (ltolL (F r)).toArray ?_ rfl (ltolL_one _) ?_ ?_; rfl; rfl; rfl; rfl; exact hth.out; rintro w2 hw2; replace hw2 : Hid _ := hw2))
          have H2 : Hid (HeldI w (insT F q t) t n (r + 1 + 1) w2) := by
            have e := hw2.out
            subst e
            exact hH.out.stored (by omega) (by rw [insT, if_neg (by omega), if_neg (by omega), Nat.add_sub_cancel])
          clear hw2 hrk hth hH
          go_wp2
          go_roundw
          case rel => exact ⟨r + 1, by omega, by omega, by go_num, H2⟩
          case measure => simp [intOf]; omega
        · have hrr : r = n := by omega
          subst hrr
          go_wp2
          go_ret
          exact ⟨⟨_, rfl, RowsIn.of_new hH.out.2.1.lt hH.out.2.2.2⟩, hH.out.1⟩
end Go.Proofs.Qxb6608834a
