import Derived.Test.Qxb6608834aTol3
namespace Go.Proofs.Qxb6608834a
open Go.RowKit
set_option linter.unusedVariables false
set_option linter.unusedSimpArgs false

theorem slice_left (a : Option Addr) (n c k : Nat) (hk : k ≤ n) (hc : n ≤ c) (hz : a = none → n = 0) :
    ∃ a', (∀ w, (Instr.sliceAt 48 (.slice a n c) none (some (.int .i64 k)) none).run Try.prog w = .ok (.slice a' k c) w) ∧ (∀ (w0 : World) (L : Nat → List Value), RowsIn w0 4 L a n → RowsIn w0 4 L a' k) ∧ (a' = none → k = 0) := by
  have hsz : ∀ w, (sizeOf (Try.prog.elem 48)).run Try.prog w = .ok 4 w := fun w => by
    have : Try.prog.elem 48 = 52 := by kernel_rfl
    rw [this]
    cases hi : Try.prog.info? 52 with
    | none => have := size52; rw [hi] at this; cases this
    | some i => rw [run_sizeOf (h := hi), show Try.prog.cellsOf 52 = 4 by kernel_rfl]
  have hu : Try.prog.underlying 48 = some (.slice (Try.prog.elem 48)) := by
    rw [show Try.prog.elem 48 = 52 by kernel_rfl]; exact Try.underlying48
  refine ⟨if c = 0 then a else a.map (·.add (0 * 4)), fun w => ?_, ?_, ?_⟩
  · rw [run_sliceAt_slice (h := hu), run_slice_h (ht := hu) (h0 := by omega) (h2 := by omega)]
    simp [hsz, sliced]
  · intro w0 L hp
    have : (if c = 0 then a else a.map (·.add (0 * 4))) = a := by
      split
      · rfl
      · cases a <;> simp [Addr.add]
    rw [this]
    exact hp.take hk
  · intro h
    split at h
    · have := hz h; omega
    · cases a with
      | none => have := hz rfl; omega
      | some x => simp at h
theorem slice_right (a : Option Addr) (n c k : Nat) (hk : k ≤ n) (hc : n ≤ c) (hz : a = none → n = 0) :
    ∃ a', (∀ w, (Instr.sliceAt 48 (.slice a n c) (some (.int .i64 k)) none none).run Try.prog w = .ok (.slice a' (n - k) (c - k)) w) ∧ (∀ (w0 : World) (L : Nat → List Value), RowsIn w0 4 L a n → RowsIn w0 4 (fun j => L (k + j)) a' (n - k)) ∧ (a' = none → n - k = 0) := by
  have hsz : ∀ w, (sizeOf (Try.prog.elem 48)).run Try.prog w = .ok 4 w := fun w => by
    have : Try.prog.elem 48 = 52 := by kernel_rfl
    rw [this]
    cases hi : Try.prog.info? 52 with
    | none => have := size52; rw [hi] at this; cases this
    | some i => rw [run_sizeOf (h := hi), show Try.prog.cellsOf 52 = 4 by kernel_rfl]
  have hu : Try.prog.underlying 48 = some (.slice (Try.prog.elem 48)) := by
    rw [show Try.prog.elem 48 = 52 by kernel_rfl]; exact Try.underlying48
  refine ⟨if c = k then a else a.map (·.add (k * 4)), fun w => ?_, ?_, ?_⟩
  · rw [run_sliceAt_slice (h := hu), run_slice_l (ht := hu) (h0 := by omega) (h1 := by omega)]
    simp [hsz, sliced]
  · intro w0 L hp hpos
    obtain ⟨b, o, rfl, hl, hj⟩ := hp (by omega)
    rw [if_neg (by omega)]
    have := RowsIn.drop (k := k) hp hpos
    simpa only [Option.map_some, Addr.add_mid] using this
  · intro h
    split at h
    · omega
    · cases a with
      | none => have := hz rfl; omega
      | some x => simp at h
def LawPost (w : World) (e : Ending) (w' : World) : Prop := e = .returned (.bool true) ∧ Below w.heap.size w w'
/-- What the law holds behind its tests: the taint twice, the rows. -/
def Held7 (w0 : World) (F : Nat → Tol) (a : Option Addr) (n : Nat) (x : Tnt) (g : Nat) (w : World) : Prop :=
  Below w0.heap.size w0 w ∧ w.rangeAt w0.heap.size 0 (tntL x) ∧ w0.heap.size < w.heap.size ∧ w.rangeAt g 0 (tntL x) ∧ g < w.heap.size ∧ RowsIn w 4 (fun j => ltolL (F j)) a n
theorem Held7.drew {w0 : World} {F : Nat → Tol} {a : Option Addr} {n : Nat} {x : Tnt} {g : Nat} {w : World} (h : Held7 w0 F a n x g w) : Held7 w0 F a n x g w.drew := ⟨h.1.drew, h.2.1, h.2.2.1, h.2.2.2.1, h.2.2.2.2.1, h.2.2.2.2.2⟩
def Held8 (w0 : World) (F : Nat → Tol) (a : Option Addr) (n : Nat) (x : Tnt) (g g1 g2 : Nat) (t1 t2 : Tol) (w : World) : Prop :=
  Held7 w0 F a n x g w ∧ w.rangeAt g1 0 (ltolL t1) ∧ g1 < w.heap.size ∧ w.rangeAt g2 0 (ltolL t2) ∧ g2 < w.heap.size
theorem Held8.drew {w0 : World} {F : Nat → Tol} {a : Option Addr} {n : Nat} {x : Tnt} {g g1 g2 : Nat} {t1 t2 : Tol} {w : World} (h : Held8 w0 F a n x g g1 g2 t1 t2 w) : Held8 w0 F a n x g g1 g2 t1 t2 w.drew := ⟨h.1.drew, h.2.1, h.2.2.1, h.2.2.2.1, h.2.2.2.2⟩
theorem new_stored {w w4 : World} {C : Array Value} {t : TypeId} {vs : List Value} (e : w4 = (w.alloc (.cells C t)).setCells w.heap.size 0 vs) (hl : vs.length = C.size) : Below w.heap.size w w4 ∧ w4.rangeAt w.heap.size 0 vs ∧ w.heap.size < w4.heap.size := by
  subst e
  exact ⟨below_setCells (Nat.le_refl _) _ _ _ (below1 _ _), World.rangeAt_setCells_same _ _ _ _ ((Blk.new _ _ _ rfl).there _ _ (by omega)), ((Blk.new w C t rfl).stored 0 vs).lt⟩
theorem Held7.next {w0 : World} {F : Nat → Tol} {a : Option Addr} {n : Nat} {x : Tnt} {g : Nat} {w w' : World} (h : Held7 w0 F a n x g w) (hb : Below w.heap.size w w') : Held7 w0 F a n x g w' :=
  ⟨h.1.trans (hb.mono h.1.size), range_below h.2.1 hb h.2.2.1, Nat.lt_of_lt_of_le h.2.2.1 hb.size, range_below h.2.2.2.1 hb h.2.2.2.2.1, Nat.lt_of_lt_of_le h.2.2.2.2.1 hb.size, h.2.2.2.2.2.below hb⟩

theorem Held8.next {w0 : World} {F : Nat → Tol} {a : Option Addr} {n : Nat} {x : Tnt} {g g1 g2 : Nat} {t1 t2 : Tol} {w w' : World} (h : Held8 w0 F a n x g g1 g2 t1 t2 w) (hb : Below w.heap.size w w') : Held8 w0 F a n x g g1 g2 t1 t2 w' :=
  ⟨h.1.next hb, range_below h.2.1 hb h.2.2.1, Nat.lt_of_lt_of_le h.2.2.1 hb.size, range_below h.2.2.2.1 hb h.2.2.2.2, Nat.lt_of_lt_of_le h.2.2.2.2 hb.size⟩
theorem built1 (t : Tol) (w : World) : (Instr.buildSlice 48 1 #[(0, .agg (ltolL t).toArray)]).run Try.prog w = .ok (.slice (some ⟨w.heap.size, 0, none⟩) 1 1) (w.alloc (.cells (ltolL t).toArray 52)) := by kernel_rfl
theorem wp_built {o : Oper} {a : Act} {w : World} {K : Act → World → Prop} {Q : Exit → Act → World → Prop} (x : Operand) (ho : o.op = .buildSlice 48 1 #[(0, x)]) (t : Tol) (hx : a.eval x = .agg (ltolL t).toArray) (h : K (a.put o.dst (.slice (some ⟨w.heap.size, 0, none⟩) 1 1)) (w.alloc (.cells (ltolL t).toArray 52))) : o.wp Try.prog a w K Q := by
  unfold Oper.wp execOp
  simp only [ho, List.map_toArray, List.map_cons, List.map_nil, hx, Sem.run_bind, built1 t w, Result.andThen_ok, Sem.run_pure]
  exact h
theorem rows_one (w : World) (t : Tol) : RowsIn (w.alloc (.cells (ltolL t).toArray 52)) 4 (fun j => ltolL ((fun _ => t) j)) (some ⟨w.heap.size, 0, none⟩) 1 := fun _ => ⟨_, 0, rfl, by simp, fun j hj => by
  obtain rfl : j = 0 := by omega
  exact range_new _ _ _ rfl⟩
/-! ### the plain laws -/
theorem anyB_cut (F : Nat → Tol) (n k : Nat) (x : Tnt) (hk : k ≤ n) : anyB F n x = (anyB F k x || anyB (fun j => F (k + j)) (n - k) x) := by
  rw [Bool.eq_iff_iff]
  simp only [anyB, Bool.or_eq_true, List.any_eq_true, List.mem_range]
  constructor
  · rintro ⟨i, hi, h⟩
    by_cases hik : i < k
    · exact .inl ⟨i, hik, h⟩
    · exact .inr ⟨i - k, by omega, by rw [show k + (i - k) = i by omega]; exact h⟩
  · rintro (⟨i, hi, h⟩ | ⟨i, hi, h⟩)
    · exact ⟨i, by omega, h⟩
    · exact ⟨k + i, by omega, h⟩
theorem anyB_ins (F : Nat → Tol) (n k : Nat) (t : Tol) (x : Tnt) (hk : k ≤ n) (h : tolB t x = true) : anyB (insT F k t) (n + 1) x = true := anyB_true (k := k) (by omega) (by simp [insT, h])
theorem anyB_one (t : Tol) (x : Tnt) (h : tolB t x = false) : anyB (fun _ => t) 1 x = false := anyB_false fun _ _ => h
theorem anyB_none (F : Nat → Tol) (x : Tnt) : anyB F 0 x = false := anyB_false fun j hj => absurd hj (by omega)
theorem app_ne (l : List UInt8) (z : UInt8) : (l ++ [z] == l) = false := by
  rw [beq_eq_false_iff_ne]
  intro h
  have := congrArg List.length h
  simp at this
theorem app_list (s : ByteArray) : (s ++ (⟨#[120]⟩ : ByteArray)).toList = s.toList ++ [120] := by
  rw [ByteArray.toList_eq, ByteArray.toList_eq]
  simp
theorem tolB_exact (x : Tnt) : tolB ⟨x.key, ⟨#[]⟩, x.val, x.eff⟩ x = true := by
  have : (⟨#[]⟩ : ByteArray).toList = [] := by rw [ByteArray.toList_eq]
  simp [tolB, this]
theorem tolB_wild (x : Tnt) : tolB ⟨⟨#[]⟩, ⟨#[69, 120, 105, 115, 116, 115]⟩, ⟨#[]⟩, ⟨#[]⟩⟩ x = true := by
  have : (⟨#[]⟩ : ByteArray).toList = [] := by rw [ByteArray.toList_eq]
  have h2 : (⟨#[69, 120, 105, 115, 116, 115]⟩ : ByteArray).toList = [69, 120, 105, 115, 116, 115] := by rw [ByteArray.toList_eq]
  simp [tolB, this, h2]
theorem tolB_val (x : Tnt) : tolB ⟨x.key, ⟨#[]⟩, x.val ++ ⟨#[120]⟩, x.eff⟩ x = false := by
  have : (⟨#[]⟩ : ByteArray).toList = [] := by rw [ByteArray.toList_eq]
  simp [tolB, this, app_list]
theorem tolB_key (x : Tnt) : tolB ⟨x.key ++ ⟨#[120]⟩, ⟨#[69, 120, 105, 115, 116, 115]⟩, ⟨#[]⟩, x.eff⟩ x = false := by
  have h2 : (⟨#[69, 120, 105, 115, 116, 115]⟩ : ByteArray).toList = [69, 120, 105, 115, 116, 115] := by rw [ByteArray.toList_eq]
  simp [tolB, h2, app_list]
theorem tolB_eff (x : Tnt) : tolB ⟨x.key, ⟨#[]⟩, x.val, x.eff ++ ⟨#[120]⟩⟩ x = false := by
  have : (⟨#[]⟩ : ByteArray).toList = [] := by rw [ByteArray.toList_eq]
  simp [tolB, this, app_list]

set_option maxRecDepth 100000 in
set_option maxHeartbeats 4000000 in
theorem law7_any (F : Nat → Tol) (a : Option Addr) (n c : Nat) (x : Tnt) (kk : Int) (w : World) (hn : n ≤ 9223372036854775807) (hc : n ≤ c) (hz : a = none → n = 0) (hp : RowsIn w 4 (fun j => ltolL (F j)) a n) (hF : ∀ j, j < n → (F j).key.size ≤ 9223372036854775807 ∧ (F j).op.size ≤ 9223372036854775807 ∧ (F j).val.size ≤ 9223372036854775807 ∧ (F j).eff.size ≤ 9223372036854775807) (hx : x.key.size ≤ 9223372036854775807 ∧ x.val.size ≤ 9223372036854775807 ∧ x.eff.size ≤ 9223372036854775807)
   (hk1 : -9223372036854775808 ≤ kk) (hk2 : kk ≤ 9223372036854775807) :
    Calls Try.prog 7 #[.slice a n c, .agg (tntL x).toArray, .int .i64 kk] w (LawPost w) := by
  obtain ⟨W, hW, hr, hb, hs⟩ : ∃ W, W = (w.alloc (.cells (tntL x).toArray 50)) ∧ W.rangeAt w.heap.size 0 (tntL x) ∧ Below w.heap.size w W ∧ w.heap.size < W.heap.size :=
    ⟨_, rfl, (range_new w _ _ rfl), below1 _ _, by simp⟩
  replace hp : Hid (RowsIn W 4 (fun j => ltolL (F j)) a n) := hp.below hb
  have h30 := bytes30_any F a n c x kk W hn hp.out hF hx
  replace h30 : Hid (Calls Try.prog 30 #[.slice a n c, .agg (tntL x).toArray, .int .i64 kk] W (BytesPost W F n x)) := h30
  replace hr : Hid (W.rangeAt w.heap.size 0 (tntL x)) := hr
  replace hb : Hid (Below w.heap.size w W) := hb
  replace hs : Hid (w.heap.size < W.heap.size) := hs
  replace hz : Hid (a = none → n = 0) := hz
  clear hF hx
  go_enter Try.func7, Try.ntmps7
  go_upto_region 1 with fail
  rw [← hW]
  clear hW
  go_wp2_with (first
    | (refine wpl_exec (.agg (tntL x).toArray) ?_ (exec_load 50 _ Try.underlying50 (tntL x) size50 (.tmp 4) ?_ _ w.heap.size 0 ?_ hr.out) ?_; rfl; rfl; rfl))
  refine Calls.mono h30.out ?_
  rintro e w1 ⟨he, hb1⟩
  have hB1 : Hid (Below w.heap.size w w1) := hb.out.trans (hb1.mono hb.out.size)
  rcases he with rfl | ⟨rfl, hn', hsm, hx0, hx1, hx2⟩
  · go_wp2
    go_ret
    exact ⟨rfl, hB1.out⟩
  have hr1 := range_below hr.out hb1 hs.out
  have hs1 : Hid (w.heap.size < w1.heap.size) := Nat.lt_of_lt_of_le hs.out hb1.size
  replace hp : Hid (RowsIn w1 4 (fun j => ltolL (F j)) a n) := hp.out.below hb1
  have a0 : w1.cell? ⟨w.heap.size, 0, none⟩ = some (.string x.key) := hr1 0 _ rfl
  have a1 : w1.cell? ⟨w.heap.size, 1, none⟩ = some (.string x.val) := hr1 1 _ rfl
  have a2 : w1.cell? ⟨w.heap.size, 2, none⟩ = some (.string x.eff) := hr1 2 _ rfl
  replace hr1 : Hid (w1.rangeAt w.heap.size 0 (tntL x)) := hr1
  replace hsm : Hid (Sml F n) := hsm
  clear h30 hb1 hr hb hs
  go_wp2_with fail
  · go_ret
    exact ⟨rfl, hB1.out⟩
  refine (tolBytes_any _ (by omega) (by omega) F a n c w1 hn' hsm.out hp.out).mono ?_
  rintro e w2 ⟨⟨m, rfl⟩, hb2⟩
  have hr2 : Hid (w2.rangeAt w.heap.size 0 (tntL x)) := range_below hr1.out hb2 hs1.out
  have hs2 : Hid (w.heap.size < w2.heap.size) := Nat.lt_of_lt_of_le hs1.out hb2.size
  have hB2 : Hid (Below w.heap.size w w2) := hB1.out.trans (hb2.mono hB1.out.size)
  replace hp : Hid (RowsIn w2 4 (fun j => ltolL (F j)) a n) := hp.out.below hb2
  clear hb2 hr1 hs1 hB1 a0 a1 a2 hsm
  by_cases hm : m ≤ 1048576
  case neg =>
    go_wp2
    go_ret
    exact ⟨rfl, hB2.out⟩
  by_cases hk0 : kk < 0
  case pos =>
    go_wp2
    go_ret
    exact ⟨rfl, hB2.out⟩
  obtain ⟨k, rfl⟩ : ∃ k : Nat, kk = k := ⟨kk.toNat, by omega⟩
  by_cases hkn : k ≤ n
  case neg =>
    have hkn' : (n : Int) < k := by omega
    go_wp2
    go_ret
    exact ⟨rfl, hB2.out⟩
  have hkn' : (k : Int) ≤ n := by omega
  go_wp2_with (first
    | (refine wpl_exec (.agg (tntL x).toArray) ?_ (exec_load 50 _ Try.underlying50 (tntL x) size50 (.tmp 4) ?_ _ w.heap.size 0 ?_ hr2.out) ?_; rfl; rfl; rfl))
  refine (taint_any x w2).mono ?_
  rintro e w3 ⟨rfl, hb3⟩
  obtain ⟨hp3, hr3, hs3, hB3⟩ : Hid (RowsIn w3 4 (fun j => ltolL (F j)) a n) ∧ Hid (w3.rangeAt w.heap.size 0 (tntL x)) ∧ Hid (w.heap.size < w3.heap.size) ∧ Hid (Below w.heap.size w w3) := ⟨hp.out.below hb3, range_below hr2.out hb3 hs2.out, Nat.lt_of_lt_of_le hs2.out hb3.size, hB2.out.trans (hb3.mono hB2.out.size)⟩
  clear hb3 hp hr2 hs2 hB2
  go_upto_region 11 with (first
    | (refine wpl_storeB 56 3 size56 ?_ (.tmp 8) (.tmp 52) ?_ w3.heap.size 0 ?_ (tntL x).toArray ?_ rfl (tntL_one _) ?_ ?_; rfl; rfl; rfl; rfl; exact (Blk.new _ _ _ rfl).there _ _ (by simp); rintro w4 hw4; replace hw4 : Hid _ := hw4))
  have hH : Hid (Held7 w F a n x w3.heap.size w4) := by
    obtain ⟨b4, r4, l4⟩ := new_stored hw4.out (by simp [tntL])
    exact ⟨hB3.out.trans (b4.mono hB3.out.size), range_below hr3.out b4 hs3.out, Nat.lt_of_lt_of_le hs3.out b4.size, r4, l4, RowsIn.below hp3.out b4⟩
  obtain ⟨g, hg⟩ : ∃ g, g = w3.heap.size := ⟨_, rfl⟩
  rw [← hg] at hH ⊢
  clear hw4 hg hp3 hr3 hs3 hB3 hm
  obtain ⟨aL, hsL, hpL, hzL⟩ := slice_left a n c k hkn hc hz.out
  obtain ⟨aR, hsR, hpR, hzR⟩ := slice_right a n c k hkn hc hz.out
  replace hsL : Hid (∀ w, (Instr.sliceAt 48 (.slice a n c) none (some (.int .i64 k)) none).run Try.prog w = .ok (.slice aL k c) w) := hsL
  replace hsR : Hid (∀ w, (Instr.sliceAt 48 (.slice a n c) (some (.int .i64 k)) none none).run Try.prog w = .ok (.slice aR (n - k) (c - k)) w) := hsR
  replace hpL : Hid (∀ (w0 : World) (L : Nat → List Value), RowsIn w0 4 L a n → RowsIn w0 4 L aL k) := hpL
  replace hpR : Hid (∀ (w0 : World) (L : Nat → List Value), RowsIn w0 4 L a n → RowsIn w0 4 (fun j => L (k + j)) aR (n - k)) := hpR
  replace hzL : Hid (aL = none → k = 0) := hzL
  replace hzR : Hid (aR = none → n - k = 0) := hzR
  refine wp_region_held_drew (S := fun w' => Held7 w F a n x g w') (by kernel_rfl) hH.out.drew (fun hHeld => ?_)
  refine wpAnyH_takeD (i := 0) 53 (v := (.slice a n c)) rfl rfl (by kernel_rfl) (by kernel_rfl) (by kernel_rfl) (fun _ _ _ h => h) (Or.inl ⟨by rfl, fun _ _ => rfl⟩) hHeld ?_
  simp only [List.set_cons_zero, List.set_cons_succ]
  refine wpAnyH_takeD (i := 2) 55 (v := (.agg (tntL x).toArray)) rfl rfl (by kernel_rfl) (by kernel_rfl) (by kernel_rfl) (fun _ _ _ h => h) (Or.inl ⟨by rfl, fun w' h => exec_load 56 _ Try.underlying56 (tntL x) size56 (.tmp 8) rfl _ g 0 rfl h.2.2.2.1⟩) hHeld ?_
  simp only [List.set_cons_zero, List.set_cons_succ]
  refine wpAnyH_ready (rs := [1]) (by kernel_rfl) (by simp) ?_
  refine AllReadyH.cons rfl (fun K hK => ?_) AllReadyH.nil
  go_simp
  refine (podTolerating_any F a n c _ (by omega) hz.out hHeld.2.2.2.2.2).mono ?_
  rintro e w5 ⟨pg, rfl, hpod, hb5⟩
  refine hK.out _ _ (Held7.next ‹_› hb5) (fun hHeld => ?_)
  clear hK K
  refine wpAnyH_ready (rs := [3]) (by kernel_rfl) (by simp) ?_
  refine AllReadyH.cons rfl (fun K hK => ?_) AllReadyH.nil
  go_simp
  refine (podTolerates_any pg F n x _ (by omega) hpod).mono ?_
  rintro e w6 ⟨rfl, hb6⟩
  refine hK.out _ _ (Held7.next ‹_› hb6) (fun hHeld => ?_)
  clear hK K hpod hb5 hb6
  refine wpAnyH_takeD (i := 4) 9 (v := .bool (anyB F n x)) rfl rfl (by kernel_rfl) (by kernel_rfl) (by kernel_rfl) (fun _ _ _ h => h) (Or.inl ⟨by rfl, fun _ _ => rfl⟩) hHeld ?_
  simp only [List.set_cons_zero, List.set_cons_succ]
  refine wpAnyH_done (by kernel_rfl) ?_ _
  obtain ⟨W6, hW6⟩ : ∃ W6, W6 = w6 := ⟨_, rfl⟩
  rw [← hW6] at hHeld ⊢
  clear hH
  have hH : Hid (Held7 w F a n x g W6) := hHeld
  clear hHeld hW6
  obtain ⟨v1, hv1⟩ : ∃ v, v = anyB F n x := ⟨_, rfl⟩
  rw [← hv1]
  replace hv1 : Hid (v1 = anyB F n x) := hv1
  go_upto_region 12 with fail
  refine wp_region_held_drew (S := fun w' => Held7 w F a n x g w') (by kernel_rfl) hH.out.drew (fun hHeld => ?_)
  refine wpAnyH_takeD (i := 0) 57 (v := (.slice a n c)) rfl rfl (by kernel_rfl) (by kernel_rfl) (by kernel_rfl) (fun _ _ _ h => h) (Or.inl ⟨by rfl, fun _ _ => rfl⟩) hHeld ?_
  simp only [List.set_cons_zero, List.set_cons_succ]
  refine wpAnyH_takeD (i := 1) 58 (v := (.int .i64 k)) rfl rfl (by kernel_rfl) (by kernel_rfl) (by kernel_rfl) (fun _ _ _ h => h) (Or.inl ⟨by rfl, fun _ _ => rfl⟩) hHeld ?_
  simp only [List.set_cons_zero, List.set_cons_succ]
  refine wpAnyH_takeD (i := 2) 59 (v := (.slice aL k c)) rfl rfl (by kernel_rfl) (by kernel_rfl) (by kernel_rfl) (fun _ _ _ h => h) (Or.inl ⟨by rfl, fun w' h => by have hq := hsL.out w'; clear h; go_simp⟩) hHeld ?_
  simp only [List.set_cons_zero, List.set_cons_succ]
  refine wpAnyH_takeD (i := 4) 61 (v := (.agg (tntL x).toArray)) rfl rfl (by kernel_rfl) (by kernel_rfl) (by kernel_rfl) (fun _ _ _ h => h) (Or.inl ⟨by rfl, fun w' h => exec_load 56 _ Try.underlying56 (tntL x) size56 (.tmp 8) rfl _ g 0 rfl h.2.2.2.1⟩) hHeld ?_
  simp only [List.set_cons_zero, List.set_cons_succ]
  refine wpAnyH_ready (rs := [3]) (by kernel_rfl) (by simp) ?_
  refine AllReadyH.cons rfl (fun K hK => ?_) AllReadyH.nil
  go_simp
  refine (podTolerating_any F aL k c _ (by omega) hzL.out (hpL.out _ _ hHeld.2.2.2.2.2)).mono ?_
  rintro e w5 ⟨pg, rfl, hpod, hb5⟩
  refine hK.out _ _ (Held7.next ‹_› hb5) (fun hHeld => ?_)
  clear hK K
  refine wpAnyH_ready (rs := [5]) (by kernel_rfl) (by simp) ?_
  refine AllReadyH.cons rfl (fun K hK => ?_) AllReadyH.nil
  go_simp
  refine (podTolerates_any pg F k x _ (by omega) hpod).mono ?_
  rintro e w6 ⟨rfl, hb6⟩
  refine hK.out _ _ (Held7.next ‹_› hb6) (fun hHeld => ?_)
  clear hK K hpod hb5 hb6
  refine wpAnyH_takeD (i := 6) 10 (v := .bool (anyB F k x)) rfl rfl (by kernel_rfl) (by kernel_rfl) (by kernel_rfl) (fun _ _ _ h => h) (Or.inl ⟨by rfl, fun _ _ => rfl⟩) hHeld ?_
  simp only [List.set_cons_zero, List.set_cons_succ]
  refine wpAnyH_done (by kernel_rfl) ?_ _
  obtain ⟨W6, hW6⟩ : ∃ W6, W6 = w6 := ⟨_, rfl⟩
  rw [← hW6] at hHeld ⊢
  clear hH
  have hH : Hid (Held7 w F a n x g W6) := hHeld
  clear hHeld hW6
  obtain ⟨v2, hv2⟩ : ∃ v, v = anyB F k x := ⟨_, rfl⟩
  rw [← hv2]
  replace hv2 : Hid (v2 = anyB F k x) := hv2
  go_upto_region 13 with fail
  refine wp_region_held_drew (S := fun w' => Held7 w F a n x g w') (by kernel_rfl) hH.out.drew (fun hHeld => ?_)
  refine wpAnyH_takeD (i := 0) 63 (v := (.slice a n c)) rfl rfl (by kernel_rfl) (by kernel_rfl) (by kernel_rfl) (fun _ _ _ h => h) (Or.inl ⟨by rfl, fun _ _ => rfl⟩) hHeld ?_
  simp only [List.set_cons_zero, List.set_cons_succ]
  refine wpAnyH_takeD (i := 1) 64 (v := (.int .i64 k)) rfl rfl (by kernel_rfl) (by kernel_rfl) (by kernel_rfl) (fun _ _ _ h => h) (Or.inl ⟨by rfl, fun _ _ => rfl⟩) hHeld ?_
  simp only [List.set_cons_zero, List.set_cons_succ]
  refine wpAnyH_takeD (i := 2) 65 (v := (.slice aR (n - k) (c - k))) rfl rfl (by kernel_rfl) (by kernel_rfl) (by kernel_rfl) (fun _ _ _ h => h) (Or.inl ⟨by rfl, fun w' h => by have hq := hsR.out w'; clear h; go_simp⟩) hHeld ?_
  simp only [List.set_cons_zero, List.set_cons_succ]
  refine wpAnyH_takeD (i := 4) 67 (v := (.agg (tntL x).toArray)) rfl rfl (by kernel_rfl) (by kernel_rfl) (by kernel_rfl) (fun _ _ _ h => h) (Or.inl ⟨by rfl, fun w' h => exec_load 56 _ Try.underlying56 (tntL x) size56 (.tmp 8) rfl _ g 0 rfl h.2.2.2.1⟩) hHeld ?_
  simp only [List.set_cons_zero, List.set_cons_succ]
  refine wpAnyH_ready (rs := [3]) (by kernel_rfl) (by simp) ?_
  refine AllReadyH.cons rfl (fun K hK => ?_) AllReadyH.nil
  go_simp
  refine (podTolerating_any (fun j => F (k + j)) aR (n - k) (c - k) _ (by omega) hzR.out (hpR.out _ _ hHeld.2.2.2.2.2)).mono ?_
  rintro e w5 ⟨pg, rfl, hpod, hb5⟩
  refine hK.out _ _ (Held7.next ‹_› hb5) (fun hHeld => ?_)
  clear hK K
  refine wpAnyH_ready (rs := [5]) (by kernel_rfl) (by simp) ?_
  refine AllReadyH.cons rfl (fun K hK => ?_) AllReadyH.nil
  go_simp
  refine (podTolerates_any pg (fun j => F (k + j)) (n - k) x _ (by omega) hpod).mono ?_
  rintro e w6 ⟨rfl, hb6⟩
  refine hK.out _ _ (Held7.next ‹_› hb6) (fun hHeld => ?_)
  clear hK K hpod hb5 hb6
  refine wpAnyH_takeD (i := 6) 11 (v := .bool (anyB (fun j => F (k + j)) (n - k) x)) rfl rfl (by kernel_rfl) (by kernel_rfl) (by kernel_rfl) (fun _ _ _ h => h) (Or.inl ⟨by rfl, fun _ _ => rfl⟩) hHeld ?_
  simp only [List.set_cons_zero, List.set_cons_succ]
  refine wpAnyH_done (by kernel_rfl) ?_ _
  obtain ⟨W6, hW6⟩ : ∃ W6, W6 = w6 := ⟨_, rfl⟩
  rw [← hW6] at hHeld ⊢
  clear hH
  have hH : Hid (Held7 w F a n x g W6) := hHeld
  clear hHeld hW6
  obtain ⟨v3, hv3⟩ : ∃ v, v = anyB (fun j => F (k + j)) (n - k) x := ⟨_, rfl⟩
  rw [← hv3]
  replace hv3 : Hid (v3 = anyB (fun j => F (k + j)) (n - k) x) := hv3
  go_upto_region 14 with fail
  have c0 : W6.cell? ⟨w.heap.size, 0, none⟩ = some (.string x.key) := hH.out.2.1 0 _ rfl
  have c1 : W6.cell? ⟨w.heap.size, 1, none⟩ = some (.string x.val) := hH.out.2.1 1 _ rfl
  have c2 : W6.cell? ⟨w.heap.size, 2, none⟩ = some (.string x.eff) := hH.out.2.1 2 _ rfl
  go_upto_region 15 with (first
    | (refine wpl_storeB 52 4 size52 ?_ (.tmp 12) (.tmp 75) ?_ W6.heap.size 0 ?_ (ltolL (Tol.mk x.key ⟨#[]⟩ x.val x.eff)).toArray ?_ rfl (ltolL_one _) ?_ ?_; rfl; rfl; rfl; rfl; exact (Blk.new _ _ _ rfl).there _ _ (by simp); rintro w7 hw7; replace hw7 : Hid _ := hw7))
  obtain ⟨b7, r7, l7⟩ := new_stored hw7.out (by simp [ltolL])
  obtain ⟨g1, hg1⟩ : ∃ g1, g1 = W6.heap.size := ⟨_, rfl⟩
  have hH7 : Hid (Held7 w F a n x g w7 ∧ w7.rangeAt g1 0 (ltolL (Tol.mk x.key ⟨#[]⟩ x.val x.eff)) ∧ g1 < w7.heap.size) := by subst hg1; exact ⟨hH.out.next b7, r7, l7⟩
  rw [← hg1]
  clear hg1 b7 r7 l7 hw7 hH c0 c1 c2
  go_upto_region 16 with (first
    | (refine wpl_storeB 52 4 size52 ?_ (.tmp 13) (.tmp 76) ?_ w7.heap.size 0 ?_ (ltolL (Tol.mk ⟨#[]⟩ ⟨#[69, 120, 105, 115, 116, 115]⟩ ⟨#[]⟩ ⟨#[]⟩)).toArray ?_ rfl (ltolL_one _) ?_ ?_; rfl; rfl; rfl; rfl; exact (Blk.new _ _ _ rfl).there _ _ (by simp); rintro w8 hw8; replace hw8 : Hid _ := hw8))
  obtain ⟨b8, r8, l8⟩ := new_stored hw8.out (by simp [ltolL])
  obtain ⟨g2, hg2⟩ : ∃ g2, g2 = w7.heap.size := ⟨_, rfl⟩
  have hH : Hid (Held8 w F a n x g g1 g2 (Tol.mk x.key ⟨#[]⟩ x.val x.eff) (Tol.mk ⟨#[]⟩ ⟨#[69, 120, 105, 115, 116, 115]⟩ ⟨#[]⟩ ⟨#[]⟩) w8) := by subst hg2; exact ⟨hH7.out.1.next b8, range_below hH7.out.2.1 b8 hH7.out.2.2, Nat.lt_of_lt_of_le hH7.out.2.2 b8.size, r8, l8⟩
  rw [← hg2]
  clear hg2 b8 r8 l8 hw8 hH7
  refine wp_region_held_drew (S := fun w' => Held8 w F a n x g g1 g2 (Tol.mk x.key ⟨#[]⟩ x.val x.eff) (Tol.mk ⟨#[]⟩ ⟨#[69, 120, 105, 115, 116, 115]⟩ ⟨#[]⟩ ⟨#[]⟩) w') (by kernel_rfl) hH.out.drew (fun hHeld => ?_)
  refine wpAnyH_takeD (i := 0) 77 (v := (.slice a n c)) rfl rfl (by kernel_rfl) (by kernel_rfl) (by kernel_rfl) (fun _ _ _ h => h) (Or.inl ⟨by rfl, fun _ _ => rfl⟩) hHeld ?_
  simp only [List.set_cons_zero, List.set_cons_succ]
  refine wpAnyH_takeD (i := 1) 78 (v := (.int .i64 k)) rfl rfl (by kernel_rfl) (by kernel_rfl) (by kernel_rfl) (fun _ _ _ h => h) (Or.inl ⟨by rfl, fun _ _ => rfl⟩) hHeld ?_
  simp only [List.set_cons_zero, List.set_cons_succ]
  refine wpAnyH_takeD (i := 2) 79 (v := (.agg (ltolL (Tol.mk x.key ⟨#[]⟩ x.val x.eff)).toArray)) rfl rfl (by kernel_rfl) (by kernel_rfl) (by kernel_rfl) (fun _ _ _ h => h) (Or.inl ⟨by rfl, fun w' h => exec_load 52 _ Try.underlying52 (ltolL (Tol.mk x.key ⟨#[]⟩ x.val x.eff)) size52 (.tmp 12) rfl _ g1 0 rfl h.2.1⟩) hHeld ?_
  simp only [List.set_cons_zero, List.set_cons_succ]
  refine wpAnyH_takeD (i := 5) 82 (v := (.agg (tntL x).toArray)) rfl rfl (by kernel_rfl) (by kernel_rfl) (by kernel_rfl) (fun _ _ _ h => h) (Or.inl ⟨by rfl, fun w' h => exec_load 56 _ Try.underlying56 (tntL x) size56 (.tmp 8) rfl _ g 0 rfl h.1.2.2.2.1⟩) hHeld ?_
  simp only [List.set_cons_zero, List.set_cons_succ]
  refine wpAnyH_ready (rs := [3]) (by kernel_rfl) (by simp) ?_
  refine AllReadyH.cons rfl (fun K hK => ?_) AllReadyH.nil
  go_simp
  refine (insertTol_any F a n c k (Tol.mk x.key ⟨#[]⟩ x.val x.eff) _ (by omega) hkn hHeld.1.2.2.2.2.2).mono ?_
  rintro e w9 ⟨⟨pi, rfl, hri⟩, hb9⟩
  refine hK.out _ _ (Held8.next ‹_› hb9) (fun hHeld => ?_)
  clear hK K
  refine wpAnyH_ready (rs := [4]) (by kernel_rfl) (by simp) ?_
  refine AllReadyH.cons rfl (fun K hK => ?_) AllReadyH.nil
  go_simp
  refine (podTolerating_any (insT F k (Tol.mk x.key ⟨#[]⟩ x.val x.eff)) (some ⟨pi, 0, none⟩) (n + 1) (n + 1) _ (by omega) (by simp) hri).mono ?_
  rintro e w5 ⟨pg, rfl, hpod, hb5⟩
  refine hK.out _ _ (Held8.next ‹_› hb5) (fun hHeld => ?_)
  clear hK K
  refine wpAnyH_ready (rs := [6]) (by kernel_rfl) (by simp) ?_
  refine AllReadyH.cons rfl (fun K hK => ?_) AllReadyH.nil
  go_simp
  refine (podTolerates_any pg (insT F k (Tol.mk x.key ⟨#[]⟩ x.val x.eff)) (n + 1) x _ (by omega) hpod).mono ?_
  rintro e w6 ⟨rfl, hb6⟩
  refine hK.out _ _ (Held8.next ‹_› hb6) (fun hHeld => ?_)
  clear hK K hpod hb5 hb6 hri hb9
  refine wpAnyH_takeD (i := 7) 14 (v := .bool (anyB (insT F k (Tol.mk x.key ⟨#[]⟩ x.val x.eff)) (n + 1) x)) rfl rfl (by kernel_rfl) (by kernel_rfl) (by kernel_rfl) (fun _ _ _ h => h) (Or.inl ⟨by rfl, fun _ _ => rfl⟩) hHeld ?_
  simp only [List.set_cons_zero, List.set_cons_succ]
  refine wpAnyH_done (by kernel_rfl) ?_ _
  obtain ⟨W6, hW6⟩ : ∃ W6, W6 = w6 := ⟨_, rfl⟩
  rw [← hW6] at hHeld ⊢
  clear hH
  have hH : Hid (Held8 w F a n x g g1 g2 (Tol.mk x.key ⟨#[]⟩ x.val x.eff) (Tol.mk ⟨#[]⟩ ⟨#[69, 120, 105, 115, 116, 115]⟩ ⟨#[]⟩ ⟨#[]⟩) W6) := hHeld
  clear hHeld hW6
  rw [anyB_ins F n k _ x hkn (tolB_exact x)]
  go_upto_region 17 with fail
  refine wp_region_held_drew (S := fun w' => Held8 w F a n x g g1 g2 (Tol.mk x.key ⟨#[]⟩ x.val x.eff) (Tol.mk ⟨#[]⟩ ⟨#[69, 120, 105, 115, 116, 115]⟩ ⟨#[]⟩ ⟨#[]⟩) w') (by kernel_rfl) hH.out.drew (fun hHeld => ?_)
  refine wpAnyH_takeD (i := 0) 84 (v := (.slice a n c)) rfl rfl (by kernel_rfl) (by kernel_rfl) (by kernel_rfl) (fun _ _ _ h => h) (Or.inl ⟨by rfl, fun _ _ => rfl⟩) hHeld ?_
  simp only [List.set_cons_zero, List.set_cons_succ]
  refine wpAnyH_takeD (i := 1) 85 (v := (.int .i64 k)) rfl rfl (by kernel_rfl) (by kernel_rfl) (by kernel_rfl) (fun _ _ _ h => h) (Or.inl ⟨by rfl, fun _ _ => rfl⟩) hHeld ?_
  simp only [List.set_cons_zero, List.set_cons_succ]
  refine wpAnyH_takeD (i := 2) 86 (v := (.agg (ltolL (Tol.mk ⟨#[]⟩ ⟨#[69, 120, 105, 115, 116, 115]⟩ ⟨#[]⟩ ⟨#[]⟩)).toArray)) rfl rfl (by kernel_rfl) (by kernel_rfl) (by kernel_rfl) (fun _ _ _ h => h) (Or.inl ⟨by rfl, fun w' h => exec_load 52 _ Try.underlying52 (ltolL (Tol.mk ⟨#[]⟩ ⟨#[69, 120, 105, 115, 116, 115]⟩ ⟨#[]⟩ ⟨#[]⟩)) size52 (.tmp 13) rfl _ g2 0 rfl h.2.2.2.1⟩) hHeld ?_
  simp only [List.set_cons_zero, List.set_cons_succ]
  refine wpAnyH_takeD (i := 5) 89 (v := (.agg (tntL x).toArray)) rfl rfl (by kernel_rfl) (by kernel_rfl) (by kernel_rfl) (fun _ _ _ h => h) (Or.inl ⟨by rfl, fun w' h => exec_load 56 _ Try.underlying56 (tntL x) size56 (.tmp 8) rfl _ g 0 rfl h.1.2.2.2.1⟩) hHeld ?_
  simp only [List.set_cons_zero, List.set_cons_succ]
  refine wpAnyH_ready (rs := [3]) (by kernel_rfl) (by simp) ?_
  refine AllReadyH.cons rfl (fun K hK => ?_) AllReadyH.nil
  go_simp
  refine (insertTol_any F a n c k (Tol.mk ⟨#[]⟩ ⟨#[69, 120, 105, 115, 116, 115]⟩ ⟨#[]⟩ ⟨#[]⟩) _ (by omega) hkn hHeld.1.2.2.2.2.2).mono ?_
  rintro e w9 ⟨⟨pi, rfl, hri⟩, hb9⟩
  refine hK.out _ _ (Held8.next ‹_› hb9) (fun hHeld => ?_)
  clear hK K
  refine wpAnyH_ready (rs := [4]) (by kernel_rfl) (by simp) ?_
  refine AllReadyH.cons rfl (fun K hK => ?_) AllReadyH.nil
  go_simp
  refine (podTolerating_any (insT F k (Tol.mk ⟨#[]⟩ ⟨#[69, 120, 105, 115, 116, 115]⟩ ⟨#[]⟩ ⟨#[]⟩)) (some ⟨pi, 0, none⟩) (n + 1) (n + 1) _ (by omega) (by simp) hri).mono ?_
  rintro e w5 ⟨pg, rfl, hpod, hb5⟩
  refine hK.out _ _ (Held8.next ‹_› hb5) (fun hHeld => ?_)
  clear hK K
  refine wpAnyH_ready (rs := [6]) (by kernel_rfl) (by simp) ?_
  refine AllReadyH.cons rfl (fun K hK => ?_) AllReadyH.nil
  go_simp
  refine (podTolerates_any pg (insT F k (Tol.mk ⟨#[]⟩ ⟨#[69, 120, 105, 115, 116, 115]⟩ ⟨#[]⟩ ⟨#[]⟩)) (n + 1) x _ (by omega) hpod).mono ?_
  rintro e w6 ⟨rfl, hb6⟩
  refine hK.out _ _ (Held8.next ‹_› hb6) (fun hHeld => ?_)
  clear hK K hpod hb5 hb6 hri hb9
  refine wpAnyH_takeD (i := 7) 15 (v := .bool (anyB (insT F k (Tol.mk ⟨#[]⟩ ⟨#[69, 120, 105, 115, 116, 115]⟩ ⟨#[]⟩ ⟨#[]⟩)) (n + 1) x)) rfl rfl (by kernel_rfl) (by kernel_rfl) (by kernel_rfl) (fun _ _ _ h => h) (Or.inl ⟨by rfl, fun _ _ => rfl⟩) hHeld ?_
  simp only [List.set_cons_zero, List.set_cons_succ]
  refine wpAnyH_done (by kernel_rfl) ?_ _
  obtain ⟨W6, hW6⟩ : ∃ W6, W6 = w6 := ⟨_, rfl⟩
  rw [← hW6] at hHeld ⊢
  clear hH
  have hH : Hid (Held8 w F a n x g g1 g2 (Tol.mk x.key ⟨#[]⟩ x.val x.eff) (Tol.mk ⟨#[]⟩ ⟨#[69, 120, 105, 115, 116, 115]⟩ ⟨#[]⟩ ⟨#[]⟩) W6) := hHeld
  clear hHeld hW6
  rw [anyB_ins F n k _ x hkn (tolB_wild x)]
  go_upto_region 18 with fail
  replace hH : Hid (Held7 w F a n x g W6) := hH.out.1
  refine wp_region_held_drew (S := fun w' => Held7 w F a n x g w') (by kernel_rfl) hH.out.drew (fun hHeld => ?_)
  refine wpAnyH_takeD (i := 1) 92 (v := (.agg (tntL x).toArray)) rfl rfl (by kernel_rfl) (by kernel_rfl) (by kernel_rfl) (fun _ _ _ h => h) (Or.inl ⟨by rfl, fun w' h => exec_load 56 _ Try.underlying56 (tntL x) size56 (.tmp 8) rfl _ g 0 rfl h.2.2.2.1⟩) hHeld ?_
  simp only [List.set_cons_zero, List.set_cons_succ]
  refine wpAnyH_ready (rs := [0]) (by kernel_rfl) (by simp) ?_
  refine AllReadyH.cons rfl (fun K hK => ?_) AllReadyH.nil
  go_simp
  refine (podTolerating_any F none 0 0 _ (by omega) (fun _ => rfl) (fun h => absurd h (by omega))).mono ?_
  rintro e w5 ⟨pg, rfl, hpod, hb5⟩
  refine hK.out _ _ (Held7.next ‹_› hb5) (fun hHeld => ?_)
  clear hK K
  refine wpAnyH_ready (rs := [2]) (by kernel_rfl) (by simp) ?_
  refine AllReadyH.cons rfl (fun K hK => ?_) AllReadyH.nil
  go_simp
  refine (podTolerates_any pg F 0 x _ (by omega) hpod).mono ?_
  rintro e w6 ⟨rfl, hb6⟩
  refine hK.out _ _ (Held7.next ‹_› hb6) (fun hHeld => ?_)
  clear hK K hpod hb5 hb6
  refine wpAnyH_takeD (i := 3) 16 (v := .bool (anyB F 0 x)) rfl rfl (by kernel_rfl) (by kernel_rfl) (by kernel_rfl) (fun _ _ _ h => h) (Or.inl ⟨by rfl, fun _ _ => rfl⟩) hHeld ?_
  simp only [List.set_cons_zero, List.set_cons_succ]
  refine wpAnyH_done (by kernel_rfl) ?_ _
  obtain ⟨W6, hW6⟩ : ∃ W6, W6 = w6 := ⟨_, rfl⟩
  rw [← hW6] at hHeld ⊢
  clear hH
  have hH : Hid (Held7 w F a n x g W6) := hHeld
  clear hHeld hW6
  rw [anyB_none]
  go_upto_region 19 with fail
  refine wp_region_held_drew (S := fun w' => Held7 w F a n x g w') (by kernel_rfl) hH.out.drew (fun hHeld => ?_)
  refine wpAnyH_takeD (i := 0) 94 (v := (.pointer (some ⟨w.heap.size, 0, none⟩))) rfl rfl (by kernel_rfl) (by kernel_rfl) (by kernel_rfl) (fun _ _ _ h => h) (Or.inl ⟨by rfl, fun w' h => by clear h; go_simp⟩) hHeld ?_
  simp only [List.set_cons_zero, List.set_cons_succ]
  refine wpAnyH_takeD (i := 1) 95 (v := (.string x.key)) rfl rfl (by kernel_rfl) (by kernel_rfl) (by kernel_rfl) (fun _ _ _ h => h) (Or.inl ⟨by rfl, fun w' h => by have hq : w'.cell? ⟨w.heap.size, 0, none⟩ = some (.string x.key) := h.2.1 0 _ rfl; clear h; go_simp⟩) hHeld ?_
  simp only [List.set_cons_zero, List.set_cons_succ]
  refine wpAnyH_takeD (i := 2) 96 (v := (.pointer (some ⟨w.heap.size, 1, none⟩))) rfl rfl (by kernel_rfl) (by kernel_rfl) (by kernel_rfl) (fun _ _ _ h => h) (Or.inl ⟨by rfl, fun w' h => by clear h; go_simp⟩) hHeld ?_
  simp only [List.set_cons_zero, List.set_cons_succ]
  refine wpAnyH_takeD (i := 3) 97 (v := (.string x.val)) rfl rfl (by kernel_rfl) (by kernel_rfl) (by kernel_rfl) (fun _ _ _ h => h) (Or.inl ⟨by rfl, fun w' h => by have hq : w'.cell? ⟨w.heap.size, 1, none⟩ = some (.string x.val) := h.2.1 1 _ rfl; clear h; go_simp⟩) hHeld ?_
  simp only [List.set_cons_zero, List.set_cons_succ]
  refine wpAnyH_takeD (i := 4) 98 (v := (.string (x.val ++ ⟨#[120]⟩))) rfl rfl (by kernel_rfl) (by kernel_rfl) (by kernel_rfl) (fun _ _ _ h => h) (Or.inl ⟨by rfl, fun w' h => by clear h; go_simp; omega⟩) hHeld ?_
  simp only [List.set_cons_zero, List.set_cons_succ]
  refine wpAnyH_takeD (i := 5) 99 (v := (.pointer (some ⟨w.heap.size, 2, none⟩))) rfl rfl (by kernel_rfl) (by kernel_rfl) (by kernel_rfl) (fun _ _ _ h => h) (Or.inl ⟨by rfl, fun w' h => by clear h; go_simp⟩) hHeld ?_
  simp only [List.set_cons_zero, List.set_cons_succ]
  refine wpAnyH_takeD (i := 6) 100 (v := (.string x.eff)) rfl rfl (by kernel_rfl) (by kernel_rfl) (by kernel_rfl) (fun _ _ _ h => h) (Or.inl ⟨by rfl, fun w' h => by have hq : w'.cell? ⟨w.heap.size, 2, none⟩ = some (.string x.eff) := h.2.1 2 _ rfl; clear h; go_simp⟩) hHeld ?_
  simp only [List.set_cons_zero, List.set_cons_succ]
  refine wpAnyH_takeD (i := 7) 101 (v := (.agg (ltolL (Tol.mk x.key ⟨#[]⟩ (x.val ++ ⟨#[120]⟩) x.eff)).toArray)) rfl rfl (by kernel_rfl) (by kernel_rfl) (by kernel_rfl) (fun _ _ _ h => h) (Or.inl ⟨by rfl, fun w' h => by clear h; go_simp; rfl⟩) hHeld ?_
  simp only [List.set_cons_zero, List.set_cons_succ]
  refine wpAnyH_takeD (i := 10) 104 (v := (.agg (tntL x).toArray)) rfl rfl (by kernel_rfl) (by kernel_rfl) (by kernel_rfl) (fun _ _ _ h => h) (Or.inl ⟨by rfl, fun w' h => exec_load 56 _ Try.underlying56 (tntL x) size56 (.tmp 8) rfl _ g 0 rfl h.2.2.2.1⟩) hHeld ?_
  simp only [List.set_cons_zero, List.set_cons_succ]
  refine wpAnyH_ready (rs := [8]) (by kernel_rfl) (by simp) ?_
  refine AllReadyH.cons rfl (fun K hK => ?_) AllReadyH.nil
  rw [if_pos (by rfl)]
  refine wp_built (.tmp 101) rfl (Tol.mk x.key ⟨#[]⟩ (x.val ++ ⟨#[120]⟩) x.eff) rfl ?_
  refine hK.out _ _ (by exact Held7.next hHeld (below1 _ (.cells (ltolL (Tol.mk x.key ⟨#[]⟩ (x.val ++ ⟨#[120]⟩) x.eff)).toArray 52))) (fun hHeld => ?_)
  clear hK K
  simp only [Act.put, List.setIfInBounds_toArray, List.set_cons_zero, List.set_cons_succ]
  obtain ⟨W9, hW9, hr9⟩ : ∃ W9, W9 = W6.drew.alloc (.cells (ltolL (Tol.mk x.key ⟨#[]⟩ (x.val ++ ⟨#[120]⟩) x.eff)).toArray 52) ∧ RowsIn W9 4 (fun j => ltolL ((fun _ => (Tol.mk x.key ⟨#[]⟩ (x.val ++ ⟨#[120]⟩) x.eff)) j)) (some ⟨W6.heap.size, 0, none⟩) 1 := ⟨_, rfl, rows_one W6.drew _⟩
  rw [← hW9] at hHeld ⊢
  replace hr9 : Hid (RowsIn W9 4 (fun j => ltolL ((fun _ => (Tol.mk x.key ⟨#[]⟩ (x.val ++ ⟨#[120]⟩) x.eff)) j)) (some ⟨W6.heap.size, 0, none⟩) 1) := hr9
  clear hW9
  refine wpAnyH_ready (rs := [9]) (by kernel_rfl) (by simp) ?_
  refine AllReadyH.cons rfl (fun K hK => ?_) AllReadyH.nil
  go_simp
  refine (podTolerating_any (fun _ => (Tol.mk x.key ⟨#[]⟩ (x.val ++ ⟨#[120]⟩) x.eff)) (some ⟨W6.heap.size, 0, none⟩) 1 1 _ (by omega) (by simp) hr9.out).mono ?_
  rintro e w5 ⟨pg, rfl, hpod, hb5⟩
  refine hK.out _ _ (Held7.next ‹_› hb5) (fun hHeld => ?_)
  clear hK K
  refine wpAnyH_ready (rs := [11]) (by kernel_rfl) (by simp) ?_
  refine AllReadyH.cons rfl (fun K hK => ?_) AllReadyH.nil
  go_simp
  refine (podTolerates_any pg (fun _ => (Tol.mk x.key ⟨#[]⟩ (x.val ++ ⟨#[120]⟩) x.eff)) 1 x _ (by omega) hpod).mono ?_
  rintro e w6 ⟨rfl, hb6⟩
  refine hK.out _ _ (Held7.next ‹_› hb6) (fun hHeld => ?_)
  clear hK K hpod hb5 hb6
  refine wpAnyH_takeD (i := 12) 17 (v := .bool (anyB (fun _ => (Tol.mk x.key ⟨#[]⟩ (x.val ++ ⟨#[120]⟩) x.eff)) 1 x)) rfl rfl (by kernel_rfl) (by kernel_rfl) (by kernel_rfl) (fun _ _ _ h => h) (Or.inl ⟨by rfl, fun _ _ => rfl⟩) hHeld ?_
  simp only [List.set_cons_zero, List.set_cons_succ]
  refine wpAnyH_done (by kernel_rfl) ?_ _
  obtain ⟨W6, hW6⟩ : ∃ W6, W6 = w6 := ⟨_, rfl⟩
  rw [← hW6] at hHeld ⊢
  clear hH
  have hH : Hid (Held7 w F a n x g W6) := hHeld
  clear hHeld hW6
  rw [anyB_one _ x (tolB_val x)]
  go_upto_region 20 with fail
  refine wp_region_held_drew (S := fun w' => Held7 w F a n x g w') (by kernel_rfl) hH.out.drew (fun hHeld => ?_)
  refine wpAnyH_takeD (i := 0) 106 (v := (.pointer (some ⟨w.heap.size, 0, none⟩))) rfl rfl (by kernel_rfl) (by kernel_rfl) (by kernel_rfl) (fun _ _ _ h => h) (Or.inl ⟨by rfl, fun w' h => by clear h; go_simp⟩) hHeld ?_
  simp only [List.set_cons_zero, List.set_cons_succ]
  refine wpAnyH_takeD (i := 1) 107 (v := (.string x.key)) rfl rfl (by kernel_rfl) (by kernel_rfl) (by kernel_rfl) (fun _ _ _ h => h) (Or.inl ⟨by rfl, fun w' h => by have hq : w'.cell? ⟨w.heap.size, 0, none⟩ = some (.string x.key) := h.2.1 0 _ rfl; clear h; go_simp⟩) hHeld ?_
  simp only [List.set_cons_zero, List.set_cons_succ]
  refine wpAnyH_takeD (i := 2) 108 (v := (.string (x.key ++ ⟨#[120]⟩))) rfl rfl (by kernel_rfl) (by kernel_rfl) (by kernel_rfl) (fun _ _ _ h => h) (Or.inl ⟨by rfl, fun w' h => by clear h; go_simp; omega⟩) hHeld ?_
  simp only [List.set_cons_zero, List.set_cons_succ]
  refine wpAnyH_takeD (i := 3) 109 (v := (.pointer (some ⟨w.heap.size, 2, none⟩))) rfl rfl (by kernel_rfl) (by kernel_rfl) (by kernel_rfl) (fun _ _ _ h => h) (Or.inl ⟨by rfl, fun w' h => by clear h; go_simp⟩) hHeld ?_
  simp only [List.set_cons_zero, List.set_cons_succ]
  refine wpAnyH_takeD (i := 4) 110 (v := (.string x.eff)) rfl rfl (by kernel_rfl) (by kernel_rfl) (by kernel_rfl) (fun _ _ _ h => h) (Or.inl ⟨by rfl, fun w' h => by have hq : w'.cell? ⟨w.heap.size, 2, none⟩ = some (.string x.eff) := h.2.1 2 _ rfl; clear h; go_simp⟩) hHeld ?_
  simp only [List.set_cons_zero, List.set_cons_succ]
  refine wpAnyH_takeD (i := 5) 111 (v := (.agg (ltolL (Tol.mk (x.key ++ ⟨#[120]⟩) ⟨#[69, 120, 105, 115, 116, 115]⟩ ⟨#[]⟩ x.eff)).toArray)) rfl rfl (by kernel_rfl) (by kernel_rfl) (by kernel_rfl) (fun _ _ _ h => h) (Or.inl ⟨by rfl, fun w' h => by clear h; go_simp; rfl⟩) hHeld ?_
  simp only [List.set_cons_zero, List.set_cons_succ]
  refine wpAnyH_takeD (i := 8) 114 (v := (.agg (tntL x).toArray)) rfl rfl (by kernel_rfl) (by kernel_rfl) (by kernel_rfl) (fun _ _ _ h => h) (Or.inl ⟨by rfl, fun w' h => exec_load 56 _ Try.underlying56 (tntL x) size56 (.tmp 8) rfl _ g 0 rfl h.2.2.2.1⟩) hHeld ?_
  simp only [List.set_cons_zero, List.set_cons_succ]
  refine wpAnyH_ready (rs := [6]) (by kernel_rfl) (by simp) ?_
  refine AllReadyH.cons rfl (fun K hK => ?_) AllReadyH.nil
  rw [if_pos (by rfl)]
  refine wp_built (.tmp 111) rfl (Tol.mk (x.key ++ ⟨#[120]⟩) ⟨#[69, 120, 105, 115, 116, 115]⟩ ⟨#[]⟩ x.eff) rfl ?_
  refine hK.out _ _ (by exact Held7.next hHeld (below1 _ (.cells (ltolL (Tol.mk (x.key ++ ⟨#[120]⟩) ⟨#[69, 120, 105, 115, 116, 115]⟩ ⟨#[]⟩ x.eff)).toArray 52))) (fun hHeld => ?_)
  clear hK K
  simp only [Act.put, List.setIfInBounds_toArray, List.set_cons_zero, List.set_cons_succ]
  obtain ⟨W9, hW9, hr9⟩ : ∃ W9, W9 = W6.drew.alloc (.cells (ltolL (Tol.mk (x.key ++ ⟨#[120]⟩) ⟨#[69, 120, 105, 115, 116, 115]⟩ ⟨#[]⟩ x.eff)).toArray 52) ∧ RowsIn W9 4 (fun j => ltolL ((fun _ => (Tol.mk (x.key ++ ⟨#[120]⟩) ⟨#[69, 120, 105, 115, 116, 115]⟩ ⟨#[]⟩ x.eff)) j)) (some ⟨W6.heap.size, 0, none⟩) 1 := ⟨_, rfl, rows_one W6.drew _⟩
  rw [← hW9] at hHeld ⊢
  replace hr9 : Hid (RowsIn W9 4 (fun j => ltolL ((fun _ => (Tol.mk (x.key ++ ⟨#[120]⟩) ⟨#[69, 120, 105, 115, 116, 115]⟩ ⟨#[]⟩ x.eff)) j)) (some ⟨W6.heap.size, 0, none⟩) 1) := hr9
  clear hW9
  refine wpAnyH_ready (rs := [7]) (by kernel_rfl) (by simp) ?_
  refine AllReadyH.cons rfl (fun K hK => ?_) AllReadyH.nil
  go_simp
  refine (podTolerating_any (fun _ => (Tol.mk (x.key ++ ⟨#[120]⟩) ⟨#[69, 120, 105, 115, 116, 115]⟩ ⟨#[]⟩ x.eff)) (some ⟨W6.heap.size, 0, none⟩) 1 1 _ (by omega) (by simp) hr9.out).mono ?_
  rintro e w5 ⟨pg, rfl, hpod, hb5⟩
  refine hK.out _ _ (Held7.next ‹_› hb5) (fun hHeld => ?_)
  clear hK K
  refine wpAnyH_ready (rs := [9]) (by kernel_rfl) (by simp) ?_
  refine AllReadyH.cons rfl (fun K hK => ?_) AllReadyH.nil
  go_simp
  refine (podTolerates_any pg (fun _ => (Tol.mk (x.key ++ ⟨#[120]⟩) ⟨#[69, 120, 105, 115, 116, 115]⟩ ⟨#[]⟩ x.eff)) 1 x _ (by omega) hpod).mono ?_
  rintro e w6 ⟨rfl, hb6⟩
  refine hK.out _ _ (Held7.next ‹_› hb6) (fun hHeld => ?_)
  clear hK K hpod hb5 hb6
  refine wpAnyH_takeD (i := 10) 18 (v := .bool (anyB (fun _ => (Tol.mk (x.key ++ ⟨#[120]⟩) ⟨#[69, 120, 105, 115, 116, 115]⟩ ⟨#[]⟩ x.eff)) 1 x)) rfl rfl (by kernel_rfl) (by kernel_rfl) (by kernel_rfl) (fun _ _ _ h => h) (Or.inl ⟨by rfl, fun _ _ => rfl⟩) hHeld ?_
  simp only [List.set_cons_zero, List.set_cons_succ]
  refine wpAnyH_done (by kernel_rfl) ?_ _
  obtain ⟨W6, hW6⟩ : ∃ W6, W6 = w6 := ⟨_, rfl⟩
  rw [← hW6] at hHeld ⊢
  clear hH
  have hH : Hid (Held7 w F a n x g W6) := hHeld
  clear hHeld hW6
  rw [anyB_one _ x (tolB_key x)]
  go_upto_region 21 with fail
  refine wp_region_held_drew (S := fun w' => Held7 w F a n x g w') (by kernel_rfl) hH.out.drew (fun hHeld => ?_)
  refine wpAnyH_takeD (i := 0) 116 (v := (.pointer (some ⟨w.heap.size, 0, none⟩))) rfl rfl (by kernel_rfl) (by kernel_rfl) (by kernel_rfl) (fun _ _ _ h => h) (Or.inl ⟨by rfl, fun w' h => by clear h; go_simp⟩) hHeld ?_
  simp only [List.set_cons_zero, List.set_cons_succ]
  refine wpAnyH_takeD (i := 1) 117 (v := (.string x.key)) rfl rfl (by kernel_rfl) (by kernel_rfl) (by kernel_rfl) (fun _ _ _ h => h) (Or.inl ⟨by rfl, fun w' h => by have hq : w'.cell? ⟨w.heap.size, 0, none⟩ = some (.string x.key) := h.2.1 0 _ rfl; clear h; go_simp⟩) hHeld ?_
  simp only [List.set_cons_zero, List.set_cons_succ]
  refine wpAnyH_takeD (i := 2) 118 (v := (.pointer (some ⟨w.heap.size, 1, none⟩))) rfl rfl (by kernel_rfl) (by kernel_rfl) (by kernel_rfl) (fun _ _ _ h => h) (Or.inl ⟨by rfl, fun w' h => by clear h; go_simp⟩) hHeld ?_
  simp only [List.set_cons_zero, List.set_cons_succ]
  refine wpAnyH_takeD (i := 3) 119 (v := (.string x.val)) rfl rfl (by kernel_rfl) (by kernel_rfl) (by kernel_rfl) (fun _ _ _ h => h) (Or.inl ⟨by rfl, fun w' h => by have hq : w'.cell? ⟨w.heap.size, 1, none⟩ = some (.string x.val) := h.2.1 1 _ rfl; clear h; go_simp⟩) hHeld ?_
  simp only [List.set_cons_zero, List.set_cons_succ]
  refine wpAnyH_takeD (i := 4) 120 (v := (.pointer (some ⟨w.heap.size, 2, none⟩))) rfl rfl (by kernel_rfl) (by kernel_rfl) (by kernel_rfl) (fun _ _ _ h => h) (Or.inl ⟨by rfl, fun w' h => by clear h; go_simp⟩) hHeld ?_
  simp only [List.set_cons_zero, List.set_cons_succ]
  refine wpAnyH_takeD (i := 5) 121 (v := (.string x.eff)) rfl rfl (by kernel_rfl) (by kernel_rfl) (by kernel_rfl) (fun _ _ _ h => h) (Or.inl ⟨by rfl, fun w' h => by have hq : w'.cell? ⟨w.heap.size, 2, none⟩ = some (.string x.eff) := h.2.1 2 _ rfl; clear h; go_simp⟩) hHeld ?_
  simp only [List.set_cons_zero, List.set_cons_succ]
  refine wpAnyH_takeD (i := 6) 122 (v := (.string (x.eff ++ ⟨#[120]⟩))) rfl rfl (by kernel_rfl) (by kernel_rfl) (by kernel_rfl) (fun _ _ _ h => h) (Or.inl ⟨by rfl, fun w' h => by clear h; go_simp; omega⟩) hHeld ?_
  simp only [List.set_cons_zero, List.set_cons_succ]
  refine wpAnyH_takeD (i := 7) 123 (v := (.agg (ltolL (Tol.mk x.key ⟨#[]⟩ x.val (x.eff ++ ⟨#[120]⟩))).toArray)) rfl rfl (by kernel_rfl) (by kernel_rfl) (by kernel_rfl) (fun _ _ _ h => h) (Or.inl ⟨by rfl, fun w' h => by clear h; go_simp; rfl⟩) hHeld ?_
  simp only [List.set_cons_zero, List.set_cons_succ]
  refine wpAnyH_takeD (i := 10) 126 (v := (.agg (tntL x).toArray)) rfl rfl (by kernel_rfl) (by kernel_rfl) (by kernel_rfl) (fun _ _ _ h => h) (Or.inl ⟨by rfl, fun w' h => exec_load 56 _ Try.underlying56 (tntL x) size56 (.tmp 8) rfl _ g 0 rfl h.2.2.2.1⟩) hHeld ?_
  simp only [List.set_cons_zero, List.set_cons_succ]
  refine wpAnyH_ready (rs := [8]) (by kernel_rfl) (by simp) ?_
  refine AllReadyH.cons rfl (fun K hK => ?_) AllReadyH.nil
  rw [if_pos (by rfl)]
  refine wp_built (.tmp 123) rfl (Tol.mk x.key ⟨#[]⟩ x.val (x.eff ++ ⟨#[120]⟩)) rfl ?_
  refine hK.out _ _ (by exact Held7.next hHeld (below1 _ (.cells (ltolL (Tol.mk x.key ⟨#[]⟩ x.val (x.eff ++ ⟨#[120]⟩))).toArray 52))) (fun hHeld => ?_)
  clear hK K
  simp only [Act.put, List.setIfInBounds_toArray, List.set_cons_zero, List.set_cons_succ]
  obtain ⟨W9, hW9, hr9⟩ : ∃ W9, W9 = W6.drew.alloc (.cells (ltolL (Tol.mk x.key ⟨#[]⟩ x.val (x.eff ++ ⟨#[120]⟩))).toArray 52) ∧ RowsIn W9 4 (fun j => ltolL ((fun _ => (Tol.mk x.key ⟨#[]⟩ x.val (x.eff ++ ⟨#[120]⟩))) j)) (some ⟨W6.heap.size, 0, none⟩) 1 := ⟨_, rfl, rows_one W6.drew _⟩
  rw [← hW9] at hHeld ⊢
  replace hr9 : Hid (RowsIn W9 4 (fun j => ltolL ((fun _ => (Tol.mk x.key ⟨#[]⟩ x.val (x.eff ++ ⟨#[120]⟩))) j)) (some ⟨W6.heap.size, 0, none⟩) 1) := hr9
  clear hW9
  refine wpAnyH_ready (rs := [9]) (by kernel_rfl) (by simp) ?_
  refine AllReadyH.cons rfl (fun K hK => ?_) AllReadyH.nil
  go_simp
  refine (podTolerating_any (fun _ => (Tol.mk x.key ⟨#[]⟩ x.val (x.eff ++ ⟨#[120]⟩))) (some ⟨W6.heap.size, 0, none⟩) 1 1 _ (by omega) (by simp) hr9.out).mono ?_
  rintro e w5 ⟨pg, rfl, hpod, hb5⟩
  refine hK.out _ _ (Held7.next ‹_› hb5) (fun hHeld => ?_)
  clear hK K
  refine wpAnyH_ready (rs := [11]) (by kernel_rfl) (by simp) ?_
  refine AllReadyH.cons rfl (fun K hK => ?_) AllReadyH.nil
  go_simp
  refine (podTolerates_any pg (fun _ => (Tol.mk x.key ⟨#[]⟩ x.val (x.eff ++ ⟨#[120]⟩))) 1 x _ (by omega) hpod).mono ?_
  rintro e w6 ⟨rfl, hb6⟩
  refine hK.out _ _ (Held7.next ‹_› hb6) (fun hHeld => ?_)
  clear hK K hpod hb5 hb6
  refine wpAnyH_takeD (i := 12) 19 (v := .bool (anyB (fun _ => (Tol.mk x.key ⟨#[]⟩ x.val (x.eff ++ ⟨#[120]⟩))) 1 x)) rfl rfl (by kernel_rfl) (by kernel_rfl) (by kernel_rfl) (fun _ _ _ h => h) (Or.inl ⟨by rfl, fun _ _ => rfl⟩) hHeld ?_
  simp only [List.set_cons_zero, List.set_cons_succ]
  refine wpAnyH_done (by kernel_rfl) ?_ _
  obtain ⟨W6, hW6⟩ : ∃ W6, W6 = w6 := ⟨_, rfl⟩
  rw [← hW6] at hHeld ⊢
  clear hH
  have hH : Hid (Held7 w F a n x g W6) := hHeld
  clear hHeld hW6
  rw [anyB_one _ x (tolB_eff x)]
  have hcut : v1 = (v2 || v3) := by rw [hv1.out, hv2.out, hv3.out]; exact anyB_cut F n k x hkn
  clear hv1 hv2 hv3
  subst hcut
  cases v2 <;> cases v3 <;> simp only [Bool.or_true, Bool.or_false, Bool.true_or, Bool.false_or]
  all_goals (go_wp2; go_ret; exact ⟨rfl, hH.out.1⟩)
end Go.Proofs.Qxb6608834a
