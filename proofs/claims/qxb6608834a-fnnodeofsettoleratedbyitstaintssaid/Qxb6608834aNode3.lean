import Derived.Test.Qxb6608834aNode2
namespace Go.Proofs.Qxb6608834a
open Go.RowKit
set_option linter.unusedVariables false
set_option linter.unusedSimpArgs false

def eqT (x : Tnt) : Tol := ⟨x.key, ⟨#[]⟩, x.val, x.eff⟩
def exT (x : Tnt) : Tol := ⟨x.key, ⟨#[69, 120, 105, 115, 116, 115]⟩, ⟨#[]⟩, ⟨#[]⟩⟩
theorem tolB_eqT (x : Tnt) : tolB (eqT x) x = true := by
  have : (⟨#[]⟩ : ByteArray).toList = [] := by rw [ByteArray.toList_eq]
  simp [tolB, eqT, this]
theorem tolB_exT (x : Tnt) : tolB (exT x) x = true := by
  have : (⟨#[]⟩ : ByteArray).toList = [] := by rw [ByteArray.toList_eq]
  have h2 : (⟨#[69, 120, 105, 115, 116, 115]⟩ : ByteArray).toList = [69, 120, 105, 115, 116, 115] := by rw [ByteArray.toList_eq]
  simp [tolB, exT, this, h2]
theorem neq56 (x : Tnt) (w : World) : (binOp .neq 56 (.agg (tntL x).toArray) (.agg (tntL x).toArray)).run Try.prog w = .ok (.bool false) w := by
  have e9 := fun (y : ByteArray) => run_equalIn_string (P := Try.prog) (w := w) 9998 9 y y Try.underlying9
  have e54 := fun (y : ByteArray) => run_equalIn_string (P := Try.prog) (w := w) 9998 54 y y Try.underlying54
  go_simp
  simp [tntL, e9, e54]
theorem info52' : (Try.prog.info? 52).map (fun i => (i.zero.isSome, i.size, i.bytes)) = some (true, 4, 64) := by kernel_rfl
def HeldE (W : World) (F : Nat → Tnt) (n k k' : Nat) (w : World) : Prop := Below W.heap.size W w ∧ Blk w W.heap.size 52 (n * 4) ∧ Blk w (W.heap.size + 1) 52 (n * 4) ∧ (∀ j, j < k → w.rangeAt W.heap.size (j * 4) (ltolL (eqT (F j)))) ∧ ∀ j, j < k' → w.rangeAt (W.heap.size + 1) (j * 4) (ltolL (exT (F j)))
theorem HeldE.drew {W w : World} {F : Nat → Tnt} {n k k' : Nat} (h : HeldE W F n k k' w) : HeldE W F n k k' w.drew := ⟨h.1.drew, h.2.1.same rfl, h.2.2.1.same rfl, h.2.2.2.1, h.2.2.2.2⟩
theorem HeldE.storedE {W w : World} {F : Nat → Tnt} {n k k' : Nat} (h : HeldE W F n k k' w) (hkn : k < n) : HeldE W F n (k + 1) k' (w.setCells W.heap.size (k * 4) (ltolL (eqT (F k))).toArray.toList) :=
  ⟨below_setCells (Nat.le_refl _) _ _ _ h.1, h.2.1.stored _ _, h.2.2.1.same (heap_setCells_oth _ _ _ _ _ (by omega)), rows_store (L := fun j => ltolL (eqT (F j))) (st := 4) (fun _ => rfl) h.2.2.2.1 (h.2.1.there _ _ (row_fits 4 hkn)) rfl,
    fun j hj => World.rangeAt_setCells_apart (h.2.2.2.2 j hj) _ _ _ (.inl (by omega))⟩
theorem HeldE.storedX {W w : World} {F : Nat → Tnt} {n k k' : Nat} (h : HeldE W F n k k' w) (hkn : k' < n) : HeldE W F n k (k' + 1) (w.setCells (W.heap.size + 1) (k' * 4) (ltolL (exT (F k'))).toArray.toList) :=
  ⟨below_setCells (Nat.le_succ _) _ _ _ h.1, h.2.1.same (heap_setCells_oth _ _ _ _ _ (by omega)), h.2.2.1.stored _ _, fun j hj => World.rangeAt_setCells_apart (h.2.2.2.1 j hj) _ _ _ (.inl (by omega)),
    rows_store (L := fun j => ltolL (exT (F j))) (st := 4) (fun _ => rfl) h.2.2.2.2 (h.2.2.1.there _ _ (row_fits 4 hkn)) rfl⟩
def LawPN (w : World) (e : Ending) (w' : World) : Prop := e = .returned (.bool true) ∧ Below w.heap.size w w'

set_option maxRecDepth 100000 in
set_option maxHeartbeats 2000000 in
theorem law5_any (F : Nat → Tnt) (a : Option Addr) (n c : Nat) (s : ByteArray) (w : World) (hn : n ≤ 9223372036854775807) (hz : a = none → n = 0) (hp : RowsIn w 3 (fun j => tntL (F j)) a n) (hF : ∀ j, j < n → (F j).key.size ≤ 9223372036854775807 ∧ (F j).val.size ≤ 9223372036854775807 ∧ (F j).eff.size ≤ 9223372036854775807) (hs : s.size ≤ 9223372036854775807) :
    Calls Try.prog 5 #[.slice a n c, .string s] w (LawPN w) := by
  have h17 : Hid _ := bytes17_any F a n c s w hn hp hF hs
  replace hp : Hid (RowsIn w 3 (fun j => tntL (F j)) a n) := hp
  replace hz : Hid (a = none → n = 0) := hz
  clear hF
  go_enter Try.func5, Try.ntmps5
  go_wp2_with fail
  refine Calls.mono h17.out ?_
  rintro e w1 ⟨he, rfl⟩
  rcases he with rfl | ⟨rfl, hn', hsm, hs'⟩
  · go_wp2
    go_ret
    exact ⟨rfl, Below.refl _ _⟩
  replace hsm : Hid (SmlX F n) := hsm
  clear h17
  by_cases hbig : 16 + (s.size : Int) ≤ 1048576
  case neg =>
    go_wp2
    go_ret
    exact ⟨rfl, Below.refl _ _⟩
  go_wp2_with fail
  refine (tntBytes_any _ (by omega) (by omega) F a n c w1 hn' hsm.out hp.out).mono ?_
  rintro e w2 ⟨⟨m, rfl⟩, hb2⟩
  replace hp : Hid (RowsIn w2 3 (fun j => tntL (F j)) a n) := hp.out.below hb2
  replace hb2 : Hid (Below w1.heap.size w1 w2) := hb2
  clear hsm
  by_cases hm : m ≤ 1048576
  case neg =>
    go_wp2
    go_ret
    exact ⟨rfl, hb2.out⟩
  go_wp2_with fail
  refine (taints_any F a n c w2 (by omega) hz.out hp.out).mono ?_
  rintro e w3 ⟨⟨at3, rfl, hz3, hr3⟩, hb3⟩
  replace hp : Hid (RowsIn w3 3 (fun j => tntL (F j)) a n) := hp.out.below hb3
  replace hb3 : Hid (Below w1.heap.size w1 w3) := hb2.out.trans (hb3.mono hb2.out.size)
  replace hr3 : Hid (RowsIn w3 3 (fun j => tntL (F j)) at3 n) := hr3
  replace hz3 : Hid (at3 = none → n = 0) := hz3
  clear hb2
  go_upto_region 9 with fail
  obtain ⟨w4, hw4, hb4, d2, d3, d4, hlt⟩ : ∃ w4, w4 = w3.alloc (.cells #[.string ⟨#[115, 101, 116]⟩, .int .i64 0, .map none, .slice at3 n n, .map none] 42) ∧ Below w3.heap.size w3 w4 ∧ w4.cell? ⟨w3.heap.size, 2, none⟩ = some (.map none) ∧ w4.cell? ⟨w3.heap.size, 3, none⟩ = some (.slice at3 n n) ∧ w4.cell? ⟨w3.heap.size, 4, none⟩ = some (.map none) ∧ w3.heap.size < w4.heap.size :=
    ⟨_, rfl, below1 _ _, by rw [cell_of_row _ _ 2 _ _ _ (heap_alloc_new _ _)]; rfl, by rw [cell_of_row _ _ 3 _ _ _ (heap_alloc_new _ _)]; rfl, by rw [cell_of_row _ _ 4 _ _ _ (heap_alloc_new _ _)]; rfl, by simp⟩
  rw [← hw4]
  have h20 : Hid _ := newNode_any w3.heap.size s F at3 n w4 (by omega) hz3.out hlt d2 d3 d4 (hr3.out.below hb4)
  replace hp : Hid (RowsIn w4 3 (fun j => tntL (F j)) a n) := hp.out.below hb4
  replace hb4 : Hid (Below w1.heap.size w1 w4) := hb3.out.trans (hb4.mono hb3.out.size)
  clear hw4 d2 d3 d4 hlt hb3 hr3 hz3
  go_wp2_with fail
  refine Calls.mono h20.out ?_
  rintro e w5 ⟨g, rfl, hN, hb5⟩
  replace hp : Hid (RowsIn w5 3 (fun j => tntL (F j)) a n) := hp.out.below hb5
  replace hb5 : Hid (Below w1.heap.size w1 w5) := hb4.out.trans (hb5.mono hb4.out.size)
  clear h20 hb4
  have hN' := hN
  obtain ⟨hglt, n0, an, cn, n3, hrn⟩ := hN
  replace hN' : Hid (NodeAt w5 g s F n) := hN'
  replace hrn : Hid (RowsIn w5 3 (fun j => tntL (F j)) an n) := hrn
  obtain ⟨C, hC, hmk⟩ := makes 48 52 4 64 Try.underlying48 info52' n (by omega) (by omega)
  go_upto_region 15 with fail
  obtain ⟨W6, hW6, hH6⟩ : ∃ W6, W6 = (w5.alloc (.cells C 52)).alloc (.cells C 52) ∧ HeldE w5 F n 0 0 W6 :=
    ⟨_, rfl, below2 _ _ _, (by have := Blk.new w5 C 52 rfl; rw [hC] at this; exact this.below (below1 _ _) (by simp)), (by have := Blk.new (w5.alloc (.cells C 52)) C 52 (g := w5.heap.size + 1) (by simp); rw [hC] at this; exact this), fun j hj => absurd hj (by omega), fun j hj => absurd hj (by omega)⟩
  rw [← hW6]
  replace hH6 : Hid (HeldE w5 F n 0 0 W6) := hH6
  clear hW6 hC hmk n0 n3 hrn hglt hm hbig
  go_loopw [10] (fun i wr => ∃ k : Nat, k ≤ n ∧ i = .int .i64 k ∧ Hid (HeldE w5 F n k k wr)) (fun i _ => n - (intOf i).toNat)
  case atStart => exact ⟨0, Nat.zero_le _, rfl, hH6⟩
  case round =>
    clear hH6
    obtain ⟨k, hk, rfl, hH⟩ := hrel
    by_cases hkn : k < n
    · obtain ⟨b, o, rfl, hl, hj⟩ := hp.out (by omega)
      have hsrc : Hid (∀ w', Below w5.heap.size w5 w' → w'.rangeAt b (o + k * 3) (tntL (F k))) := fun w' hb' => range_below (hj k hkn) hb' hl
      have hr := hsrc.out wr hH.out.1
      have a0 : wr.cell? ⟨b, o + k * 3, none⟩ = some (.string (F k).key) := hr 0 _ rfl
      have a1 : wr.cell? ⟨b, o + k * 3 + 1, none⟩ = some (.string (F k).val) := hr 1 _ rfl
      have a2 : wr.cell? ⟨b, o + k * 3 + 2, none⟩ = some (.string (F k).eff) := hr 2 _ rfl
      have hk0 : (0 : Int) ≤ (k : Int) := by omega
      have hk1 : (k : Int) < (n : Int) := by omega
      clear hr hj hl
      go_upto_region 17 with fail
      refine wp_region_still_tail 19 (by kernel_rfl) (by kernel_rfl) ?_
      simp only [List.take_succ_cons, List.take_zero, List.drop_succ_cons, List.drop_zero]
      change wpStill _ _ wr.drew _ _ _
      iterate 19 still_step
      refine wpStill_nil ?_
      refine wpl_storeB 52 4 size52 ?_ (.tmp 85) (.tmp 84) ?_ w5.heap.size (k * 4) ?_ (ltolL (eqT (F k))).toArray ?_ rfl (ltolL_one _) ?_ ?_
      · rfl
      · rfl
      · rfl
      · rfl
      · exact hH.out.drew.2.1.there _ _ (row_fits 4 hkn)
      rintro w7 hw7
      have H7 : Hid (HeldE w5 F n (k + 1) k w7) := by
        subst hw7
        exact hH.out.drew.storedE hkn
      clear hw7 hH a0 a1 a2
      have hr := hsrc.out w7 H7.out.1
      have a0 : w7.cell? ⟨b, o + k * 3, none⟩ = some (.string (F k).key) := hr 0 _ rfl
      have hth : Hid (w7.there (w5.heap.size + 1) (k * 4) 4) := H7.out.2.2.1.there _ _ (row_fits 4 hkn)
      clear hr
      go_wp2_with (first
        | (refine wpl_storeB 52 4 size52 ?_ (.tmp 94) (.tmp 93) ?_ (w5.heap.size + 1) (k * 4) ?_ (ltolL (exT (F k))).toArray ?_ rfl (ltolL_one _) ?_ ?_; rfl; rfl; rfl; rfl; exact hth.out; rintro w8 hw8; replace hw8 : Hid _ := hw8))
      have H8 : Hid (HeldE w5 F n (k + 1) (k + 1) w8) := by
        have e := hw8.out
        subst e
        exact H7.out.storedX hkn
      clear hw8 H7 hth a0
      go_wp2
      go_roundw
      case rel => exact ⟨k + 1, by omega, by go_num, H8⟩
      case measure => simp [intOf]; omega
    · have hkk : k = n := by omega
      subst hkk
      go_wp2_with fail
      refine (podTolerating_any (fun j => eqT (F j)) (some ⟨w5.heap.size, 0, none⟩) k k wr (by omega) (by simp) (RowsIn.of_new hH.out.2.1.lt hH.out.2.2.2.1)).mono ?_
      rintro e u1 ⟨pe, rfl, hpe, hu1⟩
      have hrx : RowsIn u1 4 (fun j => ltolL (exT (F j))) (some ⟨w5.heap.size + 1, 0, none⟩) k := (RowsIn.of_new hH.out.2.2.1.lt hH.out.2.2.2.2 : RowsIn wr 4 (fun j => ltolL (exT (F j))) (some ⟨w5.heap.size + 1, 0, none⟩) k).below hu1
      replace hrx : Hid (RowsIn u1 4 (fun j => ltolL (exT (F j))) (some ⟨w5.heap.size + 1, 0, none⟩) k) := hrx
      replace hpe : Hid (PodAt u1 pe (fun j => eqT (F j)) k) := hpe
      replace hu1 : Hid (Below w5.heap.size w5 u1) := hH.out.1.trans (hu1.mono hH.out.1.size)
      clear hH
      go_wp2_with fail
      refine (podTolerating_any (fun j => exT (F j)) (some ⟨w5.heap.size + 1, 0, none⟩) k k u1 (by omega) (by simp) hrx.out).mono ?_
      rintro e u2 ⟨px, rfl, hpx, hu2⟩
      replace hpe : Hid (PodAt u2 pe (fun j => eqT (F j)) k) := hpe.out.below hu2
      replace hpx : Hid (PodAt u2 px (fun j => exT (F j)) k) := hpx
      replace hu2 : Hid (Below w5.heap.size w5 u2) := hu1.out.trans (hu2.mono hu1.out.size)
      clear hrx hu1
      go_wp2_with fail
      refine (podTolerating_any (fun j => eqT (F j)) none 0 0 u2 (by omega) (fun _ => rfl) (fun h => absurd h (by omega))).mono ?_
      rintro e u3 ⟨p0, rfl, hp0, hu3⟩
      replace hpe : Hid (PodAt u3 pe (fun j => eqT (F j)) k) := hpe.out.below hu3
      replace hpx : Hid (PodAt u3 px (fun j => exT (F j)) k) := hpx.out.below hu3
      replace hp0 : Hid (PodAt u3 p0 (fun j => eqT (F j)) 0) := hp0
      replace hu3 : Hid (Below w5.heap.size w5 u3) := hu2.out.trans (hu3.mono hu2.out.size)
      replace hp : Hid (RowsIn u3 3 (fun j => tntL (F j)) a k) := hp.out.below hu3.out
      replace hN' : Hid (NodeAt u3 g s F k) := hN'.out.below hu3.out
      have hbU : Hid (Below w1.heap.size w1 u3) := hb5.out.trans (hu3.out.mono hb5.out.size)
      clear hu2 hu3 hb5
      go_upto_region 23 with fail
      go_loopw [14] (fun i wr => ∃ q : Nat, q ≤ k ∧ i = .int .i64 q ∧ Hid (Below u3.heap.size u3 wr)) (fun i _ => k - (intOf i).toNat)
      case atStart => exact ⟨0, Nat.zero_le _, rfl, Below.refl _ _⟩
      case round =>
        obtain ⟨q, hq, rfl, hB⟩ := hrel
        by_cases hqk : q < k
        · obtain ⟨b, o, rfl, hl, hj⟩ := hp.out (by omega)
          obtain ⟨hglt, _, an, cn, n3, hrn⟩ := hN'.out
          obtain ⟨bn, on, rfl, hln, hjn⟩ := hrn (by omega)
          have hsrc : Hid (∀ w', Below u3.heap.size u3 w' → w'.rangeAt b (o + q * 3) (tntL (F q))) := fun w' hb' => range_below (hj q hqk) hb' hl
          have hnod : Hid (∀ w', Below u3.heap.size u3 w' → w'.rangeAt bn (on + q * 3) (tntL (F q))) := fun w' hb' => range_below (hjn q hqk) hb' hln
          have hn3 : Hid (∀ w', Below u3.heap.size u3 w' → w'.cell? ⟨g, 3, none⟩ = some (.slice (some ⟨bn, on, none⟩) k cn)) := fun w' hb' => by rw [hb'.cell (by exact hglt)]; exact n3
          have hq0 : (0 : Int) ≤ (q : Int) := by omega
          have hq1 : (q : Int) < (k : Int) := by omega
          clear hj hl hjn hln hrn n3 hglt
          go_upto_region 25 with fail
          refine wp_region_held_drew (S := fun w' => Below u3.heap.size u3 w') (by kernel_rfl) hB.out.drew (fun hHeld => ?_)
          refine wpAnyH_takeD (i := 0) 106 (v := (.pointer (some ⟨g, 0, none⟩))) rfl rfl (by kernel_rfl) (by kernel_rfl) (by kernel_rfl) (fun _ _ _ h => h) (Or.inl ⟨by rfl, fun _ _ => rfl⟩) hHeld ?_
          simp only [List.set_cons_zero, List.set_cons_succ]
          refine wpAnyH_takeD (i := 1) 107 (v := (.pointer (some ⟨g, 0, none⟩))) rfl rfl (by kernel_rfl) (by kernel_rfl) (by kernel_rfl) (fun _ _ _ h => h) (Or.inl ⟨by rfl, fun w' h => by clear h; go_simp⟩) hHeld ?_
          simp only [List.set_cons_zero, List.set_cons_succ]
          refine wpAnyH_takeD (i := 2) 108 (v := (.pointer (some ⟨g, 3, none⟩))) rfl rfl (by kernel_rfl) (by kernel_rfl) (by kernel_rfl) (fun _ _ _ h => h) (Or.inl ⟨by rfl, fun w' h => by clear h; go_simp⟩) hHeld ?_
          simp only [List.set_cons_zero, List.set_cons_succ]
          refine wpAnyH_takeD (i := 3) 109 (v := (.slice (some ⟨bn, on, none⟩) k cn)) rfl rfl (by kernel_rfl) (by kernel_rfl) (by kernel_rfl) (fun _ _ _ h => h) (Or.inl ⟨by rfl, fun w' h => by have hq := hn3.out w' h; clear h; go_simp⟩) hHeld ?_
          simp only [List.set_cons_zero, List.set_cons_succ]
          refine wpAnyH_takeD (i := 4) 110 (v := (.int .i64 q)) rfl rfl (by kernel_rfl) (by kernel_rfl) (by kernel_rfl) (fun _ _ _ h => h) (Or.inl ⟨by rfl, fun _ _ => rfl⟩) hHeld ?_
          simp only [List.set_cons_zero, List.set_cons_succ]
          refine wpAnyH_takeD (i := 5) 111 (v := (.pointer (some ⟨bn, on + q * 3, none⟩))) rfl rfl (by kernel_rfl) (by kernel_rfl) (by kernel_rfl) (fun _ _ _ h => h) (Or.inl ⟨by rfl, fun w' h => by clear h; go_simp⟩) hHeld ?_
          simp only [List.set_cons_zero, List.set_cons_succ]
          refine wpAnyH_takeD (i := 6) 112 (v := (.agg (tntL (F q)).toArray)) rfl rfl (by kernel_rfl) (by kernel_rfl) (by kernel_rfl) (fun _ _ _ h => h) (Or.inl ⟨by rfl, fun w' h => exec_load 56 _ Try.underlying56 (tntL (F q)) size56 (.tmp 111) rfl _ bn (on + q * 3) rfl (hnod.out w' h)⟩) hHeld ?_
          simp only [List.set_cons_zero, List.set_cons_succ]
          refine wpAnyH_takeD (i := 7) 113 (v := (.slice (some ⟨b, o, none⟩) k c)) rfl rfl (by kernel_rfl) (by kernel_rfl) (by kernel_rfl) (fun _ _ _ h => h) (Or.inl ⟨by rfl, fun _ _ => rfl⟩) hHeld ?_
          simp only [List.set_cons_zero, List.set_cons_succ]
          refine wpAnyH_takeD (i := 8) 114 (v := (.int .i64 q)) rfl rfl (by kernel_rfl) (by kernel_rfl) (by kernel_rfl) (fun _ _ _ h => h) (Or.inl ⟨by rfl, fun _ _ => rfl⟩) hHeld ?_
          simp only [List.set_cons_zero, List.set_cons_succ]
          refine wpAnyH_takeD (i := 9) 115 (v := (.pointer (some ⟨b, o + q * 3, none⟩))) rfl rfl (by kernel_rfl) (by kernel_rfl) (by kernel_rfl) (fun _ _ _ h => h) (Or.inl ⟨by rfl, fun w' h => by clear h; go_simp⟩) hHeld ?_
          simp only [List.set_cons_zero, List.set_cons_succ]
          refine wpAnyH_takeD (i := 10) 116 (v := (.agg (tntL (F q)).toArray)) rfl rfl (by kernel_rfl) (by kernel_rfl) (by kernel_rfl) (fun _ _ _ h => h) (Or.inl ⟨by rfl, fun w' h => exec_load 50 _ Try.underlying50 (tntL (F q)) size50 (.tmp 115) rfl _ b (o + q * 3) rfl (hsrc.out w' h)⟩) hHeld ?_
          simp only [List.set_cons_zero, List.set_cons_succ]
          refine wpAnyH_ready (rs := [11]) (by kernel_rfl) (by simp) ?_
          refine AllReadyH.cons rfl (fun K hK => ?_) AllReadyH.nil
          go_simp
          refine (taint_any (F q) _).mono ?_
          rintro e x1 ⟨rfl, hx1⟩
          refine hK.out _ _ (hHeld.trans (hx1.mono hHeld.size)) (fun hHeld1 => ?_)
          clear hK K hx1
          refine wpAnyH_takeD (i := 12) 118 (v := (.bool false)) rfl rfl (by kernel_rfl) (by kernel_rfl) (by kernel_rfl) (fun _ _ _ h => h) (Or.inl ⟨by rfl, fun w' h => by clear h; have e9 := fun (y : ByteArray) => run_equalIn_string (P := Try.prog) (w := w') 9998 9 y y Try.underlying9; have e54 := fun (y : ByteArray) => run_equalIn_string (P := Try.prog) (w := w') 9998 54 y y Try.underlying54; go_simp; simp [tntL, e9, e54]⟩) hHeld1 ?_
          simp only [List.set_cons_zero, List.set_cons_succ]
          refine wpAnyH_done (by kernel_rfl) ?_ _
          obtain ⟨X1, hX1⟩ : ∃ X1, X1 = x1 := ⟨_, rfl⟩
          rw [← hX1] at hHeld1 ⊢
          replace hB : Hid (Below u3.heap.size u3 X1) := hHeld1
          clear hHeld hHeld1 hX1
          have n3 := hn3.out X1 hB.out
          have hrk : Hid (X1.rangeAt bn (on + q * 3) (tntL (F q))) := hnod.out X1 hB.out
          go_wp2_with (first
            | (refine wpl_exec (.agg (tntL (F q)).toArray) ?_ (exec_load 56 _ Try.underlying56 (tntL (F q)) size56 (.tmp 125) ?_ _ bn (on + q * 3) ?_ hrk.out) ?_; rfl; rfl; rfl))
          refine (podTolerates_any pe (fun j => eqT (F j)) k (F q) X1 (by omega) (hpe.out.below hB.out)).mono ?_
          rintro e y1 ⟨rfl, hy1⟩
          rw [show anyB (fun j => eqT (F j)) k (F q) = true from anyB_true hqk (tolB_eqT (F q))]
          replace hB : Hid (Below u3.heap.size u3 y1) := hB.out.trans (hy1.mono hB.out.size)
          clear hy1 n3 hrk
          have n3 := hn3.out y1 hB.out
          have hrk : Hid (y1.rangeAt bn (on + q * 3) (tntL (F q))) := hnod.out y1 hB.out
          go_wp2_with (first
            | (refine wpl_exec (.agg (tntL (F q)).toArray) ?_ (exec_load 56 _ Try.underlying56 (tntL (F q)) size56 (.tmp 136) ?_ _ bn (on + q * 3) ?_ hrk.out) ?_; rfl; rfl; rfl))
          refine (podTolerates_any px (fun j => exT (F j)) k (F q) y1 (by omega) (hpx.out.below hB.out)).mono ?_
          rintro e y2 ⟨rfl, hy2⟩
          rw [show anyB (fun j => exT (F j)) k (F q) = true from anyB_true hqk (tolB_exT (F q))]
          replace hB : Hid (Below u3.heap.size u3 y2) := hB.out.trans (hy2.mono hB.out.size)
          clear hy2 n3 hrk
          have n3 := hn3.out y2 hB.out
          have hrk : Hid (y2.rangeAt bn (on + q * 3) (tntL (F q))) := hnod.out y2 hB.out
          go_wp2_with (first
            | (refine wpl_exec (.agg (tntL (F q)).toArray) ?_ (exec_load 56 _ Try.underlying56 (tntL (F q)) size56 (.tmp 148) ?_ _ bn (on + q * 3) ?_ hrk.out) ?_; rfl; rfl; rfl))
          refine (podTolerates_any p0 (fun j => eqT (F j)) 0 (F q) y2 (by omega) (hp0.out.below hB.out)).mono ?_
          rintro e y3 ⟨rfl, hy3⟩
          rw [show anyB (fun j => eqT (F j)) 0 (F q) = false from anyB_false (n := 0) (fun j hj => absurd hj (by omega))]
          replace hB : Hid (Below u3.heap.size u3 y3) := hB.out.trans (hy3.mono hB.out.size)
          clear hy3 n3 hrk
          go_wp2
          go_roundw
          case rel => exact ⟨q + 1, by omega, by go_num, hB⟩
          case measure => simp [intOf]; omega
        · have hqq : q = k := by omega
          subst hqq
          go_wp2
          go_ret
          exact ⟨rfl, hbU.out.trans (hB.out.mono hbU.out.size)⟩
end Go.Proofs.Qxb6608834a
