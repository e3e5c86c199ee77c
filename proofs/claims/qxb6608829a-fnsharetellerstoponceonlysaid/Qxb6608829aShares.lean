import Derived.Test.Qxb6608829aMake
namespace Go.Proofs.Qxb6608829a
open Go.RowKit
set_option linter.unusedVariables false
set_option linter.unusedSimpArgs false

/-- What toShares makes: nil for nil; else a new block of n * 43 cells. -/
def SharesPost (w : World) (n : Nat) (e : Ending) (w' : World) : Prop := ((n = 0 ∧ e = .returned (.slice none 0 0)) ∨ ∃ g, e = .returned (.slice (some ⟨g, 0, none⟩) n n) ∧ w.heap.size ≤ g ∧ Blk w' g 44 (n * 43)) ∧ Below w.heap.size w w'

theorem toShares_nil (c : Nat) (w : World) : Calls Try.prog 14 #[.slice none 0 c] w (SharesPost w 0) := by
  have hnil := fun (w : World) (a : Option Addr) (n c n' c' : Nat) => Lib.run_eql_slice_nil (P := Try.prog) w 29 34 a n c n' c' Try.underlying29
  go_enter Try.func14, Try.ntmps14
  go_wp2
  go_ret
  exact ⟨.inl ⟨rfl, rfl⟩, Below.refl _ _⟩

theorem toShares_zero (x : Addr) (c : Nat) (w : World) : Calls Try.prog 14 #[.slice (some x) 0 c] w (SharesPost w 0) := by
  obtain ⟨C, hC, hmk⟩ := makes 37 44 43 80 Try.underlying37 info44 0 (by omega) (by omega)
  have hnil := fun (w : World) (a : Option Addr) (n c n' c' : Nat) => Lib.run_eql_slice_nil (P := Try.prog) w 29 34 a n c n' c' Try.underlying29
  rw [show ((0 : Nat) : Int) = 0 from rfl] at hmk
  have HC : Hid (C.size = 0 * 43) := hC
  clear hC
  go_enter Try.func14, Try.ntmps14
  go_wp2
  go_loopw [4] (fun i wr => i = .int .i64 0 ∧ Below w.heap.size w wr ∧ Blk wr w.heap.size 44 (0 * 43)) (fun i _ => 0)
  case atStart => exact ⟨rfl, (Below.refl _ _).alloc (Nat.le_refl _) _, by rw [← HC.out]; exact Blk.new w C 44 rfl⟩
  case round =>
    obtain ⟨rfl, hbel, hblk⟩ := hrel
    have HB : Hid (Below w.heap.size w wr ∧ Blk wr w.heap.size 44 (0 * 43)) := ⟨hbel, hblk⟩
    clear hbel hblk
    go_wp2
    go_ret
    exact ⟨.inr ⟨_, rfl, Nat.le_refl _, HB.out.2⟩, HB.out.1⟩

/-- 'wpAnyH_take', the slot named: the frame is laid out anew. -/
theorem wpAnyH_takeD {P : Program} {ops : Array Oper} {Q : Exit → Act → World → Prop} {md : Region.Mode} {S : World → Prop} {i : Nat} {oi : Oper} (d : Nat) {v : Value} {fuel : Nat} {listed : Array Bool} {l : List Value} {ds : List Deferred} {w : World} (hi : ops[i]? = some oi) (hd : oi.dst = some d)
    (hs : Region.noSelect ops = true) (hf : Region.free md ops listed i = true) (hr : (Region.ready md ops listed).contains i = true)
    (hQ : ∀ c a w, Q (.panic c) (a.put (some d) v) w → Q (.panic c) a w) (hy : YieldsIf P ops S oi v ⟨l.toArray, ds⟩) (hS : S w)
    (h : wpAnyH P md ops Q S fuel (listed.setIfInBounds i true) ⟨(l.set d v).toArray, ds⟩ w) : wpAnyH P md ops Q S (fuel + 1) listed ⟨l.toArray, ds⟩ w := by
  refine wpAnyH_take hi hs hf hr (by rw [hd]; exact hQ) hy hS ?_
  rw [hd]
  have : Act.put ⟨l.toArray, ds⟩ (some d) v = ⟨(l.set d v).toArray, ds⟩ := by simp [Act.put]
  rw [this]
  exact h

def HeldT (w0 : World) (n : Nat) (w : World) : Prop := Below w0.heap.size w0 w ∧ Blk w w0.heap.size 44 (n * 43)
theorem HeldT.next {w0 w w1 : World} {n : Nat} (h : HeldT w0 n w) (hb : Below w.heap.size w w1) : HeldT w0 n w1 := ⟨h.1.trans (hb.mono h.1.size), h.2.below hb h.2.lt⟩
theorem HeldT.drew {w0 w : World} {n : Nat} (h : HeldT w0 n w) : HeldT w0 n w.drew := ⟨h.1.drew, h.2.same rfl⟩

set_option maxRecDepth 100000 in
set_option maxHeartbeats 1000000 in
theorem toShares_some (b o n c : Nat) (w : World) (hn : n ≤ 1048576) (hb : b < w.heap.size) (hp : ∀ j, j < n → ShareAt w b (o + j * 43)) (hsm : Small w b o n) :
    Calls Try.prog 14 #[.slice (some ⟨b, o, none⟩) n c] w (SharesPost w n) := by
  obtain ⟨C, hC, hmk⟩ := makes 37 44 43 80 Try.underlying37 info44 n hn (by omega)
  have hnil := fun (w : World) (a : Option Addr) (n c n' c' : Nat) => Lib.run_eql_slice_nil (P := Try.prog) w 29 34 a n c n' c' Try.underlying29
  go_enter Try.func14, Try.ntmps14
  go_wp2
  go_loopw [4] (fun i wr => ∃ k : Nat, k ≤ n ∧ i = .int .i64 k ∧ HeldT w n wr) (fun i _ => n - (intOf i).toNat)
  case atStart => exact ⟨0, Nat.zero_le _, rfl, (Below.refl _ _).alloc (Nat.le_refl _) _, by rw [← hC]; exact Blk.new w C 44 rfl⟩
  case round =>
    obtain ⟨k, hk, rfl, hH⟩ := hrel
    by_cases hkn : k < n
    · obtain ⟨⟨pt, c0, _, _⟩, ⟨ow, c1⟩, ⟨fr, hfrl, hfrr⟩, ⟨to, htol, htor⟩, ⟨ha, hl, hc, c4, hpin⟩⟩ := hp k hkn
      have hln : hl ≤ 1048576 := hsm k hkn ha hl hc c4
      have hk0 : (0 : Int) ≤ (k : Int) := by omega
      have hk1 : (k : Int) < (n : Int) := by omega
      replace c0 : Hid _ := c0
      replace c1 : Hid _ := c1
      replace c4 : Hid _ := c4
      clear hmk hp hsm hnil
      go_wp2
      refine wp_region_held_drew (S := HeldT w n) (by kernel_rfl) hH.drew (fun hHeld => ?_)
      refine wpAnyH_takeD (i := 0) 16 (v := .slice (some ⟨w.heap.size, 0, none⟩) n n) rfl rfl (by kernel_rfl) (by kernel_rfl) (by kernel_rfl) (fun _ _ _ h => h) (Or.inl ⟨by rfl, fun _ _ => rfl⟩) hHeld ?_
      simp only [List.set_cons_zero, List.set_cons_succ]
      refine wpAnyH_takeD (i := 1) 17 (v := .int .i64 k) rfl rfl (by kernel_rfl) (by kernel_rfl) (by kernel_rfl) (fun _ _ _ h => h) (Or.inl ⟨by rfl, fun _ _ => rfl⟩) hHeld ?_
      simp only [List.set_cons_zero, List.set_cons_succ]
      refine wpAnyH_takeD (i := 2) 18 (v := .slice (some ⟨b, o, none⟩) n c) rfl rfl (by kernel_rfl) (by kernel_rfl) (by kernel_rfl) (fun _ _ _ h => h) (Or.inl ⟨by rfl, fun _ _ => rfl⟩) hHeld ?_
      simp only [List.set_cons_zero, List.set_cons_succ]
      refine wpAnyH_takeD (i := 3) 19 (v := .int .i64 k) rfl rfl (by kernel_rfl) (by kernel_rfl) (by kernel_rfl) (fun _ _ _ h => h) (Or.inl ⟨by rfl, fun _ _ => rfl⟩) hHeld ?_
      simp only [List.set_cons_zero, List.set_cons_succ]
      refine wpAnyH_takeD (i := 4) 20 (v := .pointer (some ⟨b, o + k * 43, none⟩)) rfl rfl (by kernel_rfl) (by kernel_rfl) (by kernel_rfl) (fun _ _ _ h => h) (Or.inl ⟨by rfl, fun w h => by go_simp⟩) hHeld ?_
      simp only [List.set_cons_zero, List.set_cons_succ]
      refine wpAnyH_takeD (i := 5) 21 (v := .pointer (some ⟨b, o + k * 43, none⟩)) rfl rfl (by kernel_rfl) (by kernel_rfl) (by kernel_rfl) (fun _ _ _ h => h) (Or.inl ⟨by rfl, fun w h => by go_simp⟩) hHeld ?_
      simp only [List.set_cons_zero, List.set_cons_succ]
      refine wpAnyH_takeD (i := 6) 22 (v := .int .i64 pt) rfl rfl (by kernel_rfl) (by kernel_rfl) (by kernel_rfl) (fun _ _ _ h => h) (Or.inl ⟨by rfl, fun w' h => by have hq := (h.1.cell (p := ⟨b, o + k * 43, none⟩) hb).trans c0.out; clear h; go_simp⟩) hHeld ?_
      simp only [List.set_cons_zero, List.set_cons_succ]
      refine wpAnyH_takeD (i := 7) 23 (v := .slice (some ⟨b, o, none⟩) n c) rfl rfl (by kernel_rfl) (by kernel_rfl) (by kernel_rfl) (fun _ _ _ h => h) (Or.inl ⟨by rfl, fun _ _ => rfl⟩) hHeld ?_
      simp only [List.set_cons_zero, List.set_cons_succ]
      refine wpAnyH_takeD (i := 8) 24 (v := .int .i64 k) rfl rfl (by kernel_rfl) (by kernel_rfl) (by kernel_rfl) (fun _ _ _ h => h) (Or.inl ⟨by rfl, fun _ _ => rfl⟩) hHeld ?_
      simp only [List.set_cons_zero, List.set_cons_succ]
      refine wpAnyH_takeD (i := 9) 25 (v := .pointer (some ⟨b, o + k * 43, none⟩)) rfl rfl (by kernel_rfl) (by kernel_rfl) (by kernel_rfl) (fun _ _ _ h => h) (Or.inl ⟨by rfl, fun w h => by go_simp⟩) hHeld ?_
      simp only [List.set_cons_zero, List.set_cons_succ]
      refine wpAnyH_takeD (i := 10) 26 (v := .pointer (some ⟨b, o + k * 43 + 1, none⟩)) rfl rfl (by kernel_rfl) (by kernel_rfl) (by kernel_rfl) (fun _ _ _ h => h) (Or.inl ⟨by rfl, fun w h => by go_simp⟩) hHeld ?_
      simp only [List.set_cons_zero, List.set_cons_succ]
      refine wpAnyH_takeD (i := 11) 27 (v := .bool ow) rfl rfl (by kernel_rfl) (by kernel_rfl) (by kernel_rfl) (fun _ _ _ h => h) (Or.inl ⟨by rfl, fun w' h => by have hq := (h.1.cell (p := ⟨b, o + k * 43 + 1, none⟩) hb).trans c1.out; clear h; go_simp⟩) hHeld ?_
      simp only [List.set_cons_zero, List.set_cons_succ]
      refine wpAnyH_takeD (i := 12) 28 (v := .slice (some ⟨b, o, none⟩) n c) rfl rfl (by kernel_rfl) (by kernel_rfl) (by kernel_rfl) (fun _ _ _ h => h) (Or.inl ⟨by rfl, fun _ _ => rfl⟩) hHeld ?_
      simp only [List.set_cons_zero, List.set_cons_succ]
      refine wpAnyH_takeD (i := 13) 29 (v := .int .i64 k) rfl rfl (by kernel_rfl) (by kernel_rfl) (by kernel_rfl) (fun _ _ _ h => h) (Or.inl ⟨by rfl, fun _ _ => rfl⟩) hHeld ?_
      simp only [List.set_cons_zero, List.set_cons_succ]
      refine wpAnyH_takeD (i := 14) 30 (v := .pointer (some ⟨b, o + k * 43, none⟩)) rfl rfl (by kernel_rfl) (by kernel_rfl) (by kernel_rfl) (fun _ _ _ h => h) (Or.inl ⟨by rfl, fun w h => by go_simp⟩) hHeld ?_
      simp only [List.set_cons_zero, List.set_cons_succ]
      refine wpAnyH_takeD (i := 15) 31 (v := .pointer (some ⟨b, o + k * 43 + 2, none⟩)) rfl rfl (by kernel_rfl) (by kernel_rfl) (by kernel_rfl) (fun _ _ _ h => h) (Or.inl ⟨by rfl, fun w h => by go_simp⟩) hHeld ?_
      simp only [List.set_cons_zero, List.set_cons_succ]
      refine wpAnyH_takeD (i := 16) 32 (v := .agg (ag fr)) rfl rfl (by kernel_rfl) (by kernel_rfl) (by kernel_rfl) (fun _ _ _ h => h) (yieldsM 22 (.inl rfl) (by rfl) _ rfl _ _ rfl fr hfrl (fun w' h => rangeAt_below h.1 hb hfrr)) hHeld ?_
      simp only [List.set_cons_zero, List.set_cons_succ]
      refine wpAnyH_takeD (i := 17) 33 (v := .slice (some ⟨b, o, none⟩) n c) rfl rfl (by kernel_rfl) (by kernel_rfl) (by kernel_rfl) (fun _ _ _ h => h) (Or.inl ⟨by rfl, fun _ _ => rfl⟩) hHeld ?_
      simp only [List.set_cons_zero, List.set_cons_succ]
      refine wpAnyH_takeD (i := 18) 34 (v := .int .i64 k) rfl rfl (by kernel_rfl) (by kernel_rfl) (by kernel_rfl) (fun _ _ _ h => h) (Or.inl ⟨by rfl, fun _ _ => rfl⟩) hHeld ?_
      simp only [List.set_cons_zero, List.set_cons_succ]
      refine wpAnyH_takeD (i := 19) 35 (v := .pointer (some ⟨b, o + k * 43, none⟩)) rfl rfl (by kernel_rfl) (by kernel_rfl) (by kernel_rfl) (fun _ _ _ h => h) (Or.inl ⟨by rfl, fun w h => by go_simp⟩) hHeld ?_
      simp only [List.set_cons_zero, List.set_cons_succ]
      refine wpAnyH_takeD (i := 20) 36 (v := .pointer (some ⟨b, o + k * 43 + 22, none⟩)) rfl rfl (by kernel_rfl) (by kernel_rfl) (by kernel_rfl) (fun _ _ _ h => h) (Or.inl ⟨by rfl, fun w h => by go_simp⟩) hHeld ?_
      simp only [List.set_cons_zero, List.set_cons_succ]
      refine wpAnyH_takeD (i := 21) 37 (v := .agg (ag to)) rfl rfl (by kernel_rfl) (by kernel_rfl) (by kernel_rfl) (fun _ _ _ h => h) (yieldsM 22 (.inl rfl) (by rfl) _ rfl _ _ rfl to htol (fun w' h => rangeAt_below h.1 hb htor)) hHeld ?_
      simp only [List.set_cons_zero, List.set_cons_succ]
      refine wpAnyH_takeD (i := 22) 38 (v := .slice (some ⟨b, o, none⟩) n c) rfl rfl (by kernel_rfl) (by kernel_rfl) (by kernel_rfl) (fun _ _ _ h => h) (Or.inl ⟨by rfl, fun _ _ => rfl⟩) hHeld ?_
      simp only [List.set_cons_zero, List.set_cons_succ]
      refine wpAnyH_takeD (i := 23) 39 (v := .int .i64 k) rfl rfl (by kernel_rfl) (by kernel_rfl) (by kernel_rfl) (fun _ _ _ h => h) (Or.inl ⟨by rfl, fun _ _ => rfl⟩) hHeld ?_
      simp only [List.set_cons_zero, List.set_cons_succ]
      refine wpAnyH_takeD (i := 24) 40 (v := .pointer (some ⟨b, o + k * 43, none⟩)) rfl rfl (by kernel_rfl) (by kernel_rfl) (by kernel_rfl) (fun _ _ _ h => h) (Or.inl ⟨by rfl, fun w h => by go_simp⟩) hHeld ?_
      simp only [List.set_cons_zero, List.set_cons_succ]
      refine wpAnyH_takeD (i := 25) 41 (v := .pointer (some ⟨b, o + k * 43 + 42, none⟩)) rfl rfl (by kernel_rfl) (by kernel_rfl) (by kernel_rfl) (fun _ _ _ h => h) (Or.inl ⟨by rfl, fun w h => by go_simp⟩) hHeld ?_
      simp only [List.set_cons_zero, List.set_cons_succ]
      refine wpAnyH_takeD (i := 26) 42 (v := .slice ha hl hc) rfl rfl (by kernel_rfl) (by kernel_rfl) (by kernel_rfl) (fun _ _ _ h => h) (Or.inl ⟨by rfl, fun w' h => by have hq := (h.1.cell (p := ⟨b, o + k * 43 + 42, none⟩) hb).trans c4.out; clear h; go_simp⟩) hHeld ?_
      simp only [List.set_cons_zero, List.set_cons_succ]
      refine wpAnyH_ready (rs := [27]) (by kernel_rfl) (by simp) ?_
      refine AllReadyH.cons rfl (fun K hK => ?_) AllReadyH.nil
      go_simp
      refine (toShare_any pt ow fr to ha hl hc _ hfrl htol (hpin.below hHeld.1) hln).mono ?_
      rintro e w1 ⟨⟨D, hD, hD1, rfl⟩, hb1⟩
      refine hK.out _ _ (hHeld.next hb1) (fun hHeld1 => ?_)
      clear hK K hHeld hH hb1
      refine wpAnyH_takeD (i := 28) 44 (v := .pointer (some ⟨w.heap.size, k * 43, none⟩)) rfl rfl (by kernel_rfl) (by kernel_rfl) (by kernel_rfl) (fun _ _ _ h => h) (Or.inl ⟨by rfl, fun w h => by go_simp⟩) hHeld1 ?_
      simp only [List.set_cons_zero, List.set_cons_succ]
      refine wpAnyH_ready (rs := [29]) (by kernel_rfl) (by simp) ?_
      refine AllReadyH.cons rfl (fun K hK => ?_) AllReadyH.nil
      rw [if_pos (by rfl)]
      have hthere := hHeld1.2.there (k * 43) 43 (by have : (k + 1) * 43 ≤ n * 43 := Nat.mul_le_mul_right _ hkn
                                                    omega)
      refine wp_store_mid 44 _ _ rfl w.heap.size (k * 43) D rfl rfl (by rw [hD]; exact hthere) (by rw [Try.size44, hD]) hD1 ?_
      refine hK.out _ _ ⟨below_setCells (Nat.le_refl _) _ _ _ hHeld1.1, hHeld1.2.stored _ _⟩ (fun hHeld3 => ?_)
      clear hK K hHeld1 hthere
      refine wpAnyH_done (by kernel_rfl) ?_ _
      replace hHeld3 : Hid _ := hHeld3
      go_wp2
      go_roundw
      case rel => exact ⟨k + 1, by omega, by go_num, hHeld3.out⟩
      case measure => simp [intOf]; omega
    · replace hH : Hid _ := hH
      go_wp2
      go_ret
      exact ⟨.inr ⟨_, rfl, Nat.le_refl _, hH.out.2⟩, hH.out.1⟩

theorem toShares_any (a : Option Addr) (n c : Nat) (w : World) (hp : SharesIn w a n) (hn : n ≤ 1048576) (hsm : ∀ b o, a = some ⟨b, o, none⟩ → Small w b o n) : Calls Try.prog 14 #[.slice a n c] w (SharesPost w n) := by
  obtain ⟨_, h0, hs⟩ := hp
  rcases Nat.eq_zero_or_pos n with rfl | hpos
  · cases a with
    | none => exact toShares_nil c w
    | some x => exact toShares_zero x c w
  · obtain ⟨b, o, rfl, hb, hj⟩ := hs hpos
    exact toShares_some b o n c w hn hb hj (hsm b o rfl)
end Go.Proofs.Qxb6608829a
