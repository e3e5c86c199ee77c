import Derived.Test.Qxb6608834aTol
namespace Go.Proofs.Qxb6608834a
open Go.RowKit
set_option linter.unusedVariables false
set_option linter.unusedSimpArgs false

theorem size56 : (Try.prog.info? 56).map (·.size) = some 3 := by kernel_rfl
theorem size50 : (Try.prog.info? 50).map (·.size) = some 3 := by kernel_rfl
theorem size52 : (Try.prog.info? 52).map (·.size) = some 4 := by kernel_rfl

/-! ### Pod.Tolerates -/
def anyB (F : Nat → Tol) (n : Nat) (x : Tnt) : Bool := (List.range n).any fun i => tolB (F i) x
theorem anyB_false {F : Nat → Tol} {n : Nat} {x : Tnt} (h : ∀ j, j < n → tolB (F j) x = false) : anyB F n x = false := by
  rw [anyB, List.any_eq_false]; intro i hi; rw [h i (by simpa using hi)]; simp
theorem anyB_true {F : Nat → Tol} {n : Nat} {x : Tnt} {k : Nat} (hk : k < n) (h : tolB (F k) x = true) : anyB F n x = true := by
  rw [anyB, List.any_eq_true]; exact ⟨k, by simpa using hk, h⟩
/-- A pod lies at block g: its tolerations are the n rows F. -/
def PodAt (w : World) (g : Nat) (F : Nat → Tol) (n : Nat) : Prop := g < w.heap.size ∧ ∃ a, w.cell? ⟨g, 13, none⟩ = some (.slice a n n) ∧ RowsIn w 5 (fun j => tolL (F j)) a n
theorem PodAt.below {w w' : World} {g : Nat} {F : Nat → Tol} {n : Nat} (h : PodAt w g F n) (hb : Below w.heap.size w w') : PodAt w' g F n :=
  ⟨Nat.lt_of_lt_of_le h.1 hb.size, let ⟨a, h1, h2⟩ := h.2; ⟨a, by rw [hb.cell (by exact h.1)]; exact h1, h2.below hb⟩⟩

set_option maxRecDepth 100000 in
set_option maxHeartbeats 1000000 in
theorem podTolerates_any (g : Nat) (F : Nat → Tol) (n : Nat) (x : Tnt) (w : World) (hn : n ≤ 1048577) (hp : PodAt w g F n) : Calls Try.prog 23 #[.pointer (some ⟨g, 0, none⟩), .agg (tntL x).toArray] w fun e w' => e = .returned (.bool (anyB F n x)) ∧ Below w.heap.size w w' := by
  obtain ⟨hg, a, hc, hr⟩ := hp
  obtain ⟨W, hW, hx, hb, hz⟩ : ∃ W, W = w.alloc (.cells (tntL x).toArray 56) ∧ W.rangeAt w.heap.size 0 (tntL x) ∧ Below w.heap.size w W ∧ w.heap.size < W.heap.size :=
    ⟨_, rfl, range_new _ _ _ rfl, below1 _ _, by simp⟩
  have c13 : W.cell? ⟨g, 13, none⟩ = some (.slice a n n) := by rw [hb.cell (by exact hg)]; exact hc
  replace hr : Hid (RowsIn W 5 (fun j => tolL (F j)) a n) := hr.below hb
  replace hx : Hid (W.rangeAt w.heap.size 0 (tntL x)) := hx
  replace hb : Hid (Below w.heap.size w W) := hb
  replace hz : Hid (w.heap.size < W.heap.size) := hz
  clear hc hg
  go_enter Try.func23, Try.ntmps23
  go_upto_region 1 with fail
  rw [← hW]
  clear hW
  go_wp2
  go_loopw [12] (fun i wr => ∃ k : Nat, k ≤ n ∧ i = .int .i64 k ∧ Hid (Below W.heap.size W wr) ∧ Hid (∀ j, j < k → tolB (F j) x = false)) (fun i _ => n - (intOf i).toNat)
  case atStart => exact ⟨0, Nat.zero_le _, rfl, Below.refl _ _, fun j hj => absurd hj (by omega)⟩
  case round =>
    obtain ⟨k, hk, rfl, hB, hF⟩ := hrel
    by_cases hkn : k < n
    · obtain ⟨b, o, rfl, hl, hj⟩ := hr.out (by omega)
      have hrk : Hid (wr.rangeAt b (o + k * 5) (tolL (F k))) := range_below (hj k hkn) hB.out hl
      have hxr : Hid (wr.rangeAt w.heap.size 0 (tntL x)) := range_below hx.out hB.out hz.out
      have hk0 : (0 : Int) ≤ (k : Int) := by omega
      have hk1 : (k : Int) < (n : Int) := by omega
      clear hj hl
      go_upto_region 4 with (first
        | (refine wpl_exec (.agg (tolL (F k)).toArray) ?_ (exec_load 91 _ Try.underlying91 (tolL (F k)) size91 (.tmp 14) ?_ _ b (o + k * 5) ?_ hrk.out) ?_; rfl; rfl; rfl)
        | (refine wpl_storeB 91 5 size91 ?_ (.tmp 6) (.tmp 15) ?_ wr.heap.size 0 ?_ (tolL (F k)).toArray ?_ rfl (tolL_one _) ?_ ?_; rfl; rfl; rfl; rfl; exact (Blk.new _ _ _ rfl).there _ _ (by simp); rintro w2 hw2; replace hw2 : Hid _ := hw2))
      obtain ⟨hr2, hx2, hB2⟩ : Hid (w2.rangeAt wr.heap.size 0 (tolL (F k))) ∧ Hid (w2.rangeAt w.heap.size 0 (tntL x)) ∧ Hid (Below W.heap.size W w2) := by
        have e := hw2.out
        have hlt : w.heap.size < wr.heap.size := Nat.lt_of_lt_of_le hz.out hB.out.size
        subst e
        exact ⟨World.rangeAt_setCells_same _ wr.heap.size 0 (tolL (F k)) ((Blk.new _ _ _ rfl).there _ _ (by simp [tolL])),
          World.rangeAt_setCells_apart (range_below hxr.out (below1 _ _) hlt) _ _ _ (.inl (by omega)), below_setCells hB.out.size _ _ _ (hB.out.alloc hB.out.size _)⟩
      clear hrk hxr hw2
      go_wp2_with (first
        | (refine wpl_exec (.agg (tolL (F k)).toArray) ?_ (exec_load 91 _ Try.underlying91 (tolL (F k)) size91 (.tmp 6) ?_ _ wr.heap.size 0 ?_ hr2.out) ?_; rfl; rfl; rfl)
        | (refine wpl_exec (.agg (tntL x).toArray) ?_ (exec_load 56 _ Try.underlying56 (tntL x) size56 (.tmp 3) ?_ _ w.heap.size 0 ?_ hx2.out) ?_; rfl; rfl; rfl))
      refine (tolerates_any (F k) x _).mono ?_
      rintro e w3 ⟨rfl, hb3⟩
      have hB3 : Hid (Below W.heap.size W w3) := hB2.out.trans (hb3.mono hB2.out.size)
      clear hb3 hB2 hr2 hx2 hB
      obtain ⟨v, hv⟩ : ∃ v, v = tolB (F k) x := ⟨_, rfl⟩
      rw [← hv]
      replace hv : Hid (v = tolB (F k) x) := hv
      cases v with
      | true =>
        go_wp2
        go_ret
        exact ⟨ret_bool (anyB_true hkn hv.out.symm).symm, hb.out.trans (hB3.out.mono (Nat.le_of_lt hz.out))⟩
      | false =>
        go_wp2
        go_roundw
        case rel => exact ⟨k + 1, by omega, by go_num, hB3, fun j hj => by
          by_cases hjk : j = k
          · subst hjk; exact hv.out.symm
          · exact hF.out j (by omega)⟩
        case measure => simp [intOf]; omega
    · have hkk : k = n := by omega
      subst hkk
      go_wp2
      go_ret
      exact ⟨ret_bool (anyB_false hF.out).symm, hb.out.trans (hB.out.mono (Nat.le_of_lt hz.out))⟩

/-! ### lawPodTolerating -/
def PodPost (w : World) (F : Nat → Tol) (n : Nat) (e : Ending) (w' : World) : Prop := ∃ g, e = .returned (.pointer (some ⟨g, 0, none⟩)) ∧ PodAt w' g F n ∧ Below w.heap.size w w'
set_option maxHeartbeats 400000 in
theorem podTolerating_any (F : Nat → Tol) (a : Option Addr) (n c : Nat) (w : World) (hn : n ≤ 1048577) (hz : a = none → n = 0) (hp : RowsIn w 4 (fun j => ltolL (F j)) a n) : Calls Try.prog 21 #[.slice a n c] w (PodPost w F n) := by
  have hT := tolerations_any F a n c w hn hz hp
  replace hT : Hid _ := hT
  clear hp hz
  go_enter Try.func21, Try.ntmps21
  go_wp2_with fail
  refine Calls.mono hT.out ?_
  rintro e w1 ⟨⟨a', rfl, hr⟩, hb⟩
  replace hr : Hid (RowsIn w1 5 (fun j => tolL (F j)) a' n) := hr
  replace hb : Hid (Below w.heap.size w w1) := hb
  clear hT
  go_wp2
  go_ret
  refine ⟨_, rfl, ⟨by simp, a', ?_, hr.out.below (below1 _ _)⟩, hb.out.trans ((below1 _ _).mono hb.out.size)⟩
  rw [cell_of_row _ _ 13 _ _ _ (heap_alloc_new _ _)]
  rfl
theorem results_cellB {fn : Func} {p : Tmp} (ty : TypeId) (fs : Array Field) (hu : Try.prog.underlying ty = some (.struct fs)) (h : fn.results = #[.cell p ty]) (tmps : Array Value) (w : World) (g : Nat) (cs : List Value) (hi : (Try.prog.info? ty).map (·.size) = some cs.length)
    (hp : tmps.getD p undef = .pointer (some ⟨g, 0, none⟩)) (hr : w.rangeAt g 0 cs) : (results fn tmps).run Try.prog w = .ok (.agg cs.toArray) w := by
  have hp' : tmps[p]?.getD undef = .pointer (some ⟨g, 0, none⟩) := by simpa using hp
  have := run_loadVar_mid (P := Try.prog) w g 0 ty cs _ hr hu rfl hi
  simp [results, h, hp', asAddr, this]
theorem taint_any (x : Tnt) (w : World) : Calls Try.prog 22 #[.agg (tntL x).toArray] w fun e w' => e = .returned (.agg (tntL x).toArray) ∧ Below w.heap.size w w' := by
  obtain ⟨W, hW, hr, hbk, hb⟩ : ∃ W, W = (w.alloc (.cells (tntL x).toArray 50)).alloc (.cells #[.string ⟨#[]⟩, .string ⟨#[]⟩, .string ⟨#[]⟩] 56) ∧ W.rangeAt w.heap.size 0 (tntL x) ∧ Blk W (w.heap.size + 1) 56 3 ∧ Below w.heap.size w W :=
    ⟨_, rfl, range_below (range_new w _ _ rfl) (below1 _ _) (by simp), Blk.new _ _ _ (by simp), below2 _ _ _⟩
  have a0 : W.cell? ⟨w.heap.size, 0, none⟩ = some (.string x.key) := hr 0 _ rfl
  have a1 : W.cell? ⟨w.heap.size, 1, none⟩ = some (.string x.val) := hr 1 _ rfl
  have a2 : W.cell? ⟨w.heap.size, 2, none⟩ = some (.string x.eff) := hr 2 _ rfl
  replace hb : Hid (Below w.heap.size w W) := hb
  replace hbk : Hid (Blk W (w.heap.size + 1) 56 3) := hbk
  clear hr
  go_enter Try.func22, Try.ntmps22
  go_upto_region 1 with fail
  rw [← hW]
  clear hW
  go_wp2_with (first
    | (refine wpl_storeB 56 3 size56 ?_ (.tmp 2) (.tmp 9) ?_ (w.heap.size + 1) 0 ?_ (tntL x).toArray ?_ rfl (tntL_one _) ?_ ?_; rfl; rfl; rfl; rfl; exact hbk.out.there _ _ (by simp); rintro w2 hw2; replace hw2 : Hid _ := hw2))
  have e := hw2.out
  subst e
  refine bodyPost_ret (v := .agg (tntL x).toArray) (by exact results_cellB 56 _ Try.underlying56 rfl _ _ (w.heap.size + 1) (tntL x) size56 rfl (World.rangeAt_setCells_same _ _ _ _ (hbk.out.there _ _ (by simp [tntL])))) rfl ?_
  exact ⟨rfl, below_setCells (by omega) _ _ _ hb.out⟩
end Go.Proofs.Qxb6608834a
