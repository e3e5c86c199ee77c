import Derived.Test.Qxb6608829aWalkC
import Derived.Deep.Cut
namespace Go.Proofs.Qxb6608829a
open Go.RowKit
set_option linter.unusedVariables false
set_option linter.unusedSimpArgs false

def putL (c : Array Value) (o : Nat) : List Value → Array Value
  | [] => c
  | v :: r => putL (c.setIfInBounds o v) (o + 1) r
theorem heap_setCells_self (b : Nat) (t : TypeId) : ∀ (vs : List Value) (o : Nat) (w : World) (c : Array Value), w.heap[b]? = some (.cells c t) → (w.setCells b o vs).heap[b]? = some (.cells (putL c o vs) t)
  | [], _, _, _, h => h
  | v :: r, o, w, c, h => by
    refine heap_setCells_self b t r (o + 1) (w.setCell ⟨b, o, none⟩ v) (c.setIfInBounds o v) ?_
    have hb : b < w.heap.size := by
      apply Classical.byContradiction; intro hn
      rw [Array.getElem?_eq_none (by omega)] at h; cases h
    simp only [World.setCell, Array.getElem?_modify]
    simp [h]
theorem heap_setCells_oth (b : Nat) : ∀ (vs : List Value) (o : Nat) (w : World) (k : Nat), k ≠ b → (w.setCells b o vs).heap[k]? = w.heap[k]?
  | [], _, _, _, _ => rfl
  | v :: r, o, w, k, h => by
    show ((w.setCell ⟨b, o, none⟩ v).setCells b (o + 1) r).heap[k]? = _
    rw [heap_setCells_oth b r (o + 1) _ k h]
    exact Below.heap_setCell _ _ _ _ h
theorem size_setCells (b : Nat) : ∀ (vs : List Value) (o : Nat) (w : World), (w.setCells b o vs).heap.size = w.heap.size
  | [], _, _ => rfl
  | v :: r, o, w => by
    show ((w.setCell ⟨b, o, none⟩ v).setCells b (o + 1) r).heap.size = _
    rw [size_setCells b r (o + 1)]
    simp [World.setCell]
theorem putL_size : ∀ (vs : List Value) (c : Array Value) (o : Nat), (putL c o vs).size = c.size
  | [], _, _ => rfl
  | v :: r, c, o => by simp [putL, putL_size r]
theorem putL_get : ∀ (vs : List Value) (c : Array Value) (o k : Nat), o + vs.length ≤ c.size → (putL c o vs)[k]? = if o ≤ k ∧ k < o + vs.length then vs[k - o]? else c[k]?
  | [], c, o, k, h => by
    rw [if_neg (by simp only [List.length_nil]; omega)]; rfl
  | v :: r, c, o, k, h => by
    simp only [List.length_cons] at h
    rw [putL, putL_get r _ _ _ (by simp; omega)]
    by_cases h1 : o + 1 ≤ k ∧ k < o + 1 + r.length
    · rw [if_pos h1, if_pos (by simp only [List.length_cons]; omega)]
      have : k - o = (k - (o + 1)) + 1 := by omega
      rw [this, List.getElem?_cons_succ]
    · rw [if_neg h1]
      by_cases h2 : k = o
      · subst h2
        rw [if_pos (by simp only [List.length_cons]; omega)]
        simp [Array.getElem?_setIfInBounds]
        omega
      · rw [if_neg (by simp only [List.length_cons]; omega), Array.getElem?_setIfInBounds_ne (by omega)]
theorem RowAt.stored {w : World} {b : Nat} {t : TypeId} {xs ys : List Int} (h : RowAt w b t xs) (hl : ys.length = xs.length) : RowAt (w.setCells b 0 (ys.map (Value.int .u8))) b t ys := by
  unfold RowAt
  rw [heap_setCells_self b t _ 0 w (ag xs) h]
  congr 2
  apply Array.ext_getElem?
  intro k
  rw [putL_get _ _ _ _ (by rw [ag_size]; simp; omega)]
  by_cases hk : k < ys.length
  · rw [if_pos (by simp; omega)]; simp [ag]
  · rw [if_neg (by simp; omega), Array.getElem?_eq_none (by rw [ag_size]; omega), Array.getElem?_eq_none (by rw [ag_size]; omega)]
theorem RowAt.stored_oth {w : World} {b c : Nat} {t : TypeId} {xs : List Int} (h : RowAt w b t xs) (hne : b ≠ c) (o : Nat) (vs : List Value) : RowAt (w.setCells c o vs) b t xs := by
  unfold RowAt; rw [heap_setCells_oth c vs o w b hne]; exact h

/-- A whole array is stored into a fresh variable: THE WORLD BEHIND IT IS A LETTER. -/
theorem wpl_storeA {ops : Array Oper} {rest : List Oper} {o : Oper} {a : Act} {w : World} {Q : Exit → Act → World → Prop} (ty : TypeId) (hty : ty = 22 ∨ ty = 24) (hgd : o.guard = none) (x y : Operand) (ho : o.op = .store ty x y)
    (g : Nat) (hx : a.eval x = .pointer (some ⟨g, 0, none⟩)) (ys : List Int) (hy : a.eval y = .agg (ag ys)) (t : TypeId) (xs : List Int) (hg : RowAt w g t xs) (hl : xs.length = 20) (hl' : ys.length = 20)
    (h : ∀ w', w'.heap.size = w.heap.size → RowAt w' g t ys → (∀ b t zs, b ≠ g → RowAt w b t zs → RowAt w' b t zs) → (∀ B v, B ≤ g → Below B v w → Below B v w') → wpList Try.prog ops Q rest (a.put o.dst undef) w') : wpList Try.prog ops Q (o :: rest) a w :=
  wpl_store ty hty hgd x y ho g hx ys hy t xs hg hl hl' (h _ (size_setCells _ _ _ _) (hg.stored (by omega)) (fun b t zs hb hr => hr.stored_oth hb _ _) (fun B v hB hb => below_setCells hB _ _ _ hb))

/-- .. at an operation that stands under a guard which says yes. -/
theorem wpl_loadG {ops : Array Oper} {rest : List Oper} {o : Oper} {a : Act} {w : World} {Q : Exit → Act → World → Prop} (ty : TypeId) (hty : ty = 22 ∨ ty = 24) (hw : Region.wanted o (yielded ops a.tmps) = true) (x : Operand) (ho : o.op = .load ty x)
    (g : Nat) (hx : a.eval x = .pointer (some ⟨g, 0, none⟩)) (t : TypeId) (xs : List Int) (hg : RowAt w g t xs) (hl : xs.length = 20)
    (h : wpList Try.prog ops Q rest (a.put o.dst (.agg (ag xs))) w) : wpList Try.prog ops Q (o :: rest) a w := by
  rcases hty with rfl | rfl
  · exact BigFrame.wpList_want hw fun _ hK => wp_load_row 22 x ho g hx t (ag xs) _ _ hg Try.underlying22 rfl (by rw [Try.size22, ag_size, hl]) (hK _ _ h)
  · exact BigFrame.wpList_want hw fun _ hK => wp_load_row 24 x ho g hx t (ag xs) _ _ hg Try.underlying24 rfl (by rw [Try.size24, ag_size, hl]) (hK _ _ h)
theorem keepRow {w1 w2 : World} {o : Obj} {g : Nat} (s2 : ∀ b t zs, b ≠ g → RowAt (w1.alloc o) b t zs → RowAt w2 b t zs) (hg : g = w1.heap.size) {b : Nat} {t : TypeId} {zs : List Int} (h : RowAt w1 b t zs) : RowAt w2 b t zs :=
  s2 _ _ _ (by have := h.lt; omega) (h.alloc _)
theorem keepBelow {w w1 w2 : World} {o : Obj} {g : Nat} (s3 : ∀ B v, B ≤ g → Below B v (w1.alloc o) → Below B v w2) (hg : g = w1.heap.size) (h : Below w.heap.size w w1) : Below w.heap.size w w2 :=
  s3 _ _ (by have := h.size; omega) (h.alloc h.size _)

theorem litL (p : Prop) [Decidable p] (x : Int) : ∃ L : Int, ((L = 0 ∧ decide p = true) ∨ (L = x ∧ decide p = false)) ∧ (if p then 0 else x) = L := by
  by_cases h : p
  · exact ⟨0, .inl ⟨rfl, decide_eq_true h⟩, if_pos h⟩
  · exact ⟨x, .inr ⟨rfl, decide_eq_false h⟩, if_neg h⟩

theorem ag_one_lit : #[Value.int .u8 0, .int .u8 0, .int .u8 0, .int .u8 0, .int .u8 0, .int .u8 0, .int .u8 0, .int .u8 0, .int .u8 0, .int .u8 0, .int .u8 0, .int .u8 0, .int .u8 0, .int .u8 0, .int .u8 0, .int .u8 0, .int .u8 0, .int .u8 0, .int .u8 0, .int .u8 1] = ag one20 := rfl

set_option maxHeartbeats 1000000 in
theorem law4_any (os bs : List Int) (w : World) (ho : os.length = 20) (hb : bs.length = 20) (bo : Byts os) (bb : Byts bs) :
    Calls Try.prog 4 #[.agg (ag os), .agg (ag bs)] w fun e w' => e = .returned (.bool true) ∧ Below w.heap.size w w' := by
  go_enter Try.func4, Try.ntmps4
  go_upto_region 3 with fail
  rw [ag_one_lit]
  obtain ⟨W0, hW0, r1, r2, r3, hb0, hz0⟩ : ∃ W0, W0 = ((w.alloc (.cells (ag os) 22)).alloc (.cells (ag bs) 22)).alloc (.cells (ag one20) 22) ∧ RowAt W0 w.heap.size 22 os ∧ RowAt W0 (w.heap.size + 1) 22 bs ∧ RowAt W0 (w.heap.size + 1 + 1) 22 one20 ∧ Below w.heap.size w W0 ∧ w.heap.size + 3 = W0.heap.size :=
    ⟨_, rfl, ((RowAt.new _ _ _ (by simp)).alloc _).alloc _, (RowAt.new _ _ _ (by simp)).alloc _, RowAt.new _ _ _ (by simp), (below2 _ _ _).alloc (by simp; omega) _, by simp⟩
  rw [← hW0]
  clear hW0
  have ha := add20_any os one20 W0 ho rfl bo one_byts
  have HA : Hid (w.heap.size + 3 = W0.heap.size ∧ Below w.heap.size w W0) := ⟨hz0, hb0⟩
  clear hz0 hb0
  go_upto_region 4 with (first
        | (refine wpl_load 22 (.inl rfl) rfl _ rfl _ rfl 22 os (by exact r1) ho ?_)
        | (refine wpl_load 22 (.inl rfl) rfl _ rfl _ rfl 22 one20 (by exact r3) rfl ?_)
        | (go_at_call 10; refine ha.mono ?_; rintro e w1 ⟨ns, rfl, hn, bn, hadd, hb1⟩; replace hb1 : Hid _ := hb1; replace hadd : Hid _ := hadd)
        | (refine wpl_storeA 22 (.inl rfl) ?_ (.tmp 6) (.tmp 15) ?_ w1.heap.size ?_ ns ?_ 22 z20 ?_ ?_ hn ?_; rfl; rfl; rfl; rfl; exact RowAt.new _ _ z20 rfl; rfl; intro w2 hz2 s1 s2 s3))
  have HA2 : Hid (Below w.heap.size w w2) := keepBelow s3 rfl (HA.out.2.trans (hb1.out.mono (by have := HA.out.1; omega)))
  replace r1 := keepRow s2 rfl (r1.below hb1.out r1.lt)
  replace r2 := keepRow s2 rfl (r2.below hb1.out r2.lt)
  rw [val_one] at hadd
  clear hz2 s2 s3 HA hb1 r3 ha
  go_upto_region 5 with (first
        | (refine wpl_load 22 (.inl rfl) rfl _ rfl _ rfl 22 os (by exact r1) ho ?_)
        | (refine wpl_storeA 24 (.inr rfl) ?_ (.tmp 7) (.tmp 16) ?_ w2.heap.size ?_ os ?_ 24 z20 ?_ ?_ ho ?_; rfl; rfl; rfl; rfl; exact RowAt.new _ _ z20 rfl; rfl; intro w3 hz3 s4 s2 s3))
  have HA3 : Hid (Below w.heap.size w w3) := keepBelow s3 rfl HA2.out
  replace r1 := keepRow s2 rfl r1
  replace r2 := keepRow s2 rfl r2
  replace s1 := keepRow s2 rfl s1
  clear hz3 s2 s3 HA2
  go_upto_region 6 with (first
        | (refine wpl_load 22 (.inl rfl) rfl _ rfl _ rfl 22 ns (by exact s1) hn ?_)
        | (refine wpl_storeA 24 (.inr rfl) ?_ (.tmp 8) (.tmp 17) ?_ w3.heap.size ?_ ns ?_ 24 z20 ?_ ?_ hn ?_; rfl; rfl; rfl; rfl; exact RowAt.new _ _ z20 rfl; rfl; intro w4 hz4 s5 s2 s3))
  have HA4 : Hid (Below w.heap.size w w4) := keepBelow s3 rfl HA3.out
  replace r1 := keepRow s2 rfl r1
  replace r2 := keepRow s2 rfl r2
  replace s1 := keepRow s2 rfl s1
  replace s4 := keepRow s2 rfl s4
  clear hz4 s2 s3 HA3
  go_upto_region 7 with (first
        | (refine wpl_load 22 (.inl rfl) rfl _ rfl _ rfl 22 bs (by exact r2) hb ?_)
        | (refine wpl_storeA 24 (.inr rfl) ?_ (.tmp 9) (.tmp 18) ?_ w4.heap.size ?_ bs ?_ 24 z20 ?_ ?_ hb ?_; rfl; rfl; rfl; rfl; exact RowAt.new _ _ z20 rfl; rfl; intro w5 hz5 s6 s2 s3))
  have HA5 : Hid (Below w.heap.size w w5) := keepBelow s3 rfl HA4.out
  replace r1 := keepRow s2 rfl r1
  replace r2 := keepRow s2 rfl r2
  replace s1 := keepRow s2 rfl s1
  replace s4 := keepRow s2 rfl s4
  replace s5 := keepRow s2 rfl s5
  clear hz5 s2 s3 HA4
  have heq1 : ∀ w, (Op.equalIn 10000 22 (.agg (ag bs)) (.agg (ag os))).run Try.prog w = .ok (decide (val bs = val os)) w := fun w => by rw [← eqv bs os hb ho bb bo]; exact eq_arr 9998 22 Try.underlying22 bs os w hb ho
  have heq2 : ∀ w, (Op.equalIn 10000 22 (.agg (ag bs)) (.agg (ag ns))).run Try.prog w = .ok (decide (val bs = val ns)) w := fun w => by rw [← eqv bs ns hb hn bb bn]; exact eq_arr 9998 22 Try.underlying22 bs ns w hb hn
  have io : In (val os) := by have := val_bound os bo; rw [ho] at this; exact this
  have ib : In (val bs) := by have := val_bound bs bb; rw [hb] at this; exact this
  have iN : In (val ns) := by have := val_bound ns bn; rw [hn] at this; exact this
  have c1 : ∀ w, Calls Try.prog 7 #[.agg (ag os), .agg (ag os), .agg (ag bs)] w fun e w' => e = .returned (.int .i64 (if val bs = val os then 0 else 1)) ∧ Below w.heap.size w w' := fun w => by rw [← cf_last]; exact zz_any os os bs w ho ho hb bo bo bb
  have c2 : ∀ w, Calls Try.prog 7 #[.agg (ag os), .agg (ag bs), .agg (ag os)] w fun e w' => e = .returned (.int .i64 (-(if val bs = val os then 0 else 1))) ∧ Below w.heap.size w w' := fun w => by rw [← cf_last']; exact zz_any os bs os w ho hb ho bo bb bo
  have c3 : ∀ w, Calls Try.prog 7 #[.agg (ag os), .agg (ag ns), .agg (ag bs)] w fun e w' => e = .returned (.int .i64 (if val bs = val ns then 0 else -1)) ∧ Below w.heap.size w w' := fun w => by rw [← cf_first _ _ _ io iN ib hadd.out]; exact zz_any os ns bs w ho hn hb bo bn bb
  have c4 : ∀ w, Calls Try.prog 7 #[.agg (ag os), .agg (ag bs), .agg (ag ns)] w fun e w' => e = .returned (.int .i64 (-(if val bs = val ns then 0 else -1))) ∧ Below w.heap.size w w' := fun w => by rw [← cf_first' _ _ _ io iN ib hadd.out]; exact zz_any os bs ns w ho hb hn bo bb bn
  clear io ib iN hadd bo bb bn
  obtain ⟨L, hL, eL⟩ := litL (val bs = val os) 1
  obtain ⟨F, hF, eF⟩ := litL (val bs = val ns) (-1)
  rw [eL] at c1 c2
  rw [eF] at c3 c4
  clear eL eF
  have C1 : Hid _ := c1
  have C2 : Hid _ := c2
  have C3 : Hid _ := c3
  have C4 : Hid _ := c4
  clear c1 c2 c3 c4
  rcases hL with ⟨rfl, hL⟩ | ⟨rfl, hL⟩ <;> rcases hF with ⟨rfl, hF⟩ | ⟨rfl, hF⟩
  all_goals
    rw [hL] at heq1
    rw [hF] at heq2
    clear hL hF
    go_wp2_with (first
      | (refine wpl_load 22 (.inl rfl) rfl _ rfl _ rfl 22 bs (by exact r2) hb ?_)
      | (refine wpl_load 22 (.inl rfl) rfl _ rfl _ rfl 22 os (by exact r1) ho ?_)
      | (refine wpl_load 22 (.inl rfl) rfl _ rfl _ rfl 22 ns (by exact s1) hn ?_)
      | (refine wpl_load 24 (.inr rfl) rfl _ rfl _ rfl 24 os (by exact s4) ho ?_)
      | (refine wpl_load 24 (.inr rfl) rfl _ rfl _ rfl 24 ns (by exact s5) hn ?_)
      | (refine wpl_load 24 (.inr rfl) rfl _ rfl _ rfl 24 bs (by exact s6) hb ?_))
    refine (C1.out _).mono ?_
    rintro e w6 ⟨rfl, hb6⟩
    have HA6 : Hid (Below w.heap.size w w6) := HA5.out.trans (hb6.mono HA5.out.size)
    replace s4 := s4.below hb6 s4.lt
    replace s5 := s5.below hb6 s5.lt
    replace s6 := s6.below hb6 s6.lt
    clear hb6 HA5 r1 r2 s1 C1 heq1 heq2
    go_wp2_with (first
      | (refine wpl_loadG 24 (.inr rfl) ?_ _ rfl _ rfl 24 os (by exact s4) ho ?_; rfl)
      | (refine wpl_loadG 24 (.inr rfl) ?_ _ rfl _ rfl 24 ns (by exact s5) hn ?_; rfl)
      | (refine wpl_loadG 24 (.inr rfl) ?_ _ rfl _ rfl 24 bs (by exact s6) hb ?_; rfl))
    refine (C2.out _).mono ?_
    rintro e w7 ⟨rfl, hb7⟩
    have HA7 : Hid (Below w.heap.size w w7) := HA6.out.trans (hb7.mono HA6.out.size)
    replace s4 := s4.below hb7 s4.lt
    replace s5 := s5.below hb7 s5.lt
    replace s6 := s6.below hb7 s6.lt
    clear hb7 HA6 C2
    go_wp2_with (first
      | (refine wpl_loadG 24 (.inr rfl) ?_ _ rfl _ rfl 24 os (by exact s4) ho ?_; rfl)
      | (refine wpl_loadG 24 (.inr rfl) ?_ _ rfl _ rfl 24 ns (by exact s5) hn ?_; rfl)
      | (refine wpl_loadG 24 (.inr rfl) ?_ _ rfl _ rfl 24 bs (by exact s6) hb ?_; rfl))
    refine (C3.out _).mono ?_
    rintro e w8 ⟨rfl, hb8⟩
    have HA8 : Hid (Below w.heap.size w w8) := HA7.out.trans (hb8.mono HA7.out.size)
    replace s4 := s4.below hb8 s4.lt
    replace s5 := s5.below hb8 s5.lt
    replace s6 := s6.below hb8 s6.lt
    clear hb8 HA7 C3
    go_wp2_with (first
      | (refine wpl_loadG 24 (.inr rfl) ?_ _ rfl _ rfl 24 os (by exact s4) ho ?_; rfl)
      | (refine wpl_loadG 24 (.inr rfl) ?_ _ rfl _ rfl 24 ns (by exact s5) hn ?_; rfl)
      | (refine wpl_loadG 24 (.inr rfl) ?_ _ rfl _ rfl 24 bs (by exact s6) hb ?_; rfl))
    refine (C4.out _).mono ?_
    rintro e w9 ⟨rfl, hb9⟩
    have HA9 : Hid (Below w.heap.size w w9) := HA8.out.trans (hb9.mono HA8.out.size)
    clear hb9 HA8 C4 s4 s5 s6
    go_wp2
    go_ret
    exact ⟨rfl, HA9.out⟩
end Go.Proofs.Qxb6608829a
