import Derived.Test.Qxb6608829aArr
import Derived.Deep.QuietTactic
import Derived.BigQuiet
namespace Go.Proofs.Qxb6608829a
open Go.RowKit
set_option linter.unusedVariables false
set_option linter.unusedSimpArgs false

theorem below2 (w : World) (o1 o2 : Obj) : Below w.heap.size w ((w.alloc o1).alloc o2) := ((Below.refl _ _).alloc (Nat.le_refl _) _).alloc (by simp) _
theorem set_row22 (W : World) (zs : List Int) (n k b : Nat) (v : Int) (hb : b = W.heap.size) :
    ((W.alloc (.cells (ag zs) 22)).drewN n).setCell ⟨b, k, none⟩ (.int .u8 v) = (W.alloc (.cells (ag (zs.set k v)) 22)).drewN n := by
  rw [← ag_set, ← World.setCell_alloc_at _ _ b k _ hb]; rfl

set_option maxHeartbeats 400000 in
theorem add20_any (xs ys : List Int) (w : World) (hx : xs.length = 20) (hy : ys.length = 20) (bx : Byts xs) (byy : Byts ys) :
    Calls Try.prog 10 #[.agg (ag xs), .agg (ag ys)] w fun e w' => ∃ zs, e = .returned (.agg (ag zs)) ∧ zs.length = 20 ∧ Byts zs ∧ isAdd (val xs) (val ys) (val zs) ∧ Below w.heap.size w w' := by
  go_enter Try.func10, Try.ntmps10
  go_wp2
  rw [ag_zero]
  go_loopw [6, 7] (fun c i wr => ∃ (j : Nat) (q : Int) (zs : List Int) (n : Nat), j ≤ 20 ∧ i = .int .i64 ((j : Int) - 1) ∧ c = .int .i64 q ∧ (q = 0 ∨ q = 1) ∧ zs.length = 20 ∧ Byts zs ∧
      sv zs j + q * 256 ^ (20 - j) = sv xs j + sv ys j ∧ wr = (((((w.alloc (.cells (ag xs) 22)).alloc (.cells (ag ys) 22)).alloc (.cells (ag z20) 22)).alloc (.cells (ag zs) 22))).drewN n) (fun _ i _ => (intOf i + 1).toNat)
  case atStart => exact ⟨20, 0, z20, 0, by omega, rfl, rfl, .inl rfl, rfl, z20_byts, by rw [sv_end _ _ (by simp [z20]), sv_end _ _ (by omega), sv_end _ _ (by omega)]; decide, rfl⟩
  case round =>
    obtain ⟨j, q, zs, n, hj, rfl, rfl, hq, hz, bz, hs, rfl⟩ := hrel
    cases j with
    | zero =>
      have HS : Hid (sv zs 0 + q * 256 ^ (20 - 0) = sv xs 0 + sv ys 0) := hs
      clear hs
      have r4 : RowAt (((((w.alloc (.cells (ag xs) 22)).alloc (.cells (ag ys) 22)).alloc (.cells (ag z20) 22)).alloc (.cells (ag zs) 22)).drewN n) (w.heap.size + 1 + 1 + 1) 22 zs := (RowAt.new _ _ _ (by simp)).drewN n
      have r3 : RowAt (((((w.alloc (.cells (ag xs) 22)).alloc (.cells (ag ys) 22)).alloc (.cells (ag z20) 22)).alloc (.cells (ag zs) 22)).drewN n) (w.heap.size + 1 + 1) 22 z20 := ((RowAt.new _ _ _ (by simp)).alloc _).drewN n
      go_wp2_with (first
        | (refine wpl_load 22 (.inl rfl) rfl _ rfl _ rfl 22 zs (by exact r4) hz ?_)
        | (refine wpl_store 22 (.inl rfl) rfl _ _ rfl _ rfl zs rfl 22 z20 (by exact r3) rfl hz ?_))
      refine bodyPost_ret (v := .agg (ag zs)) (by exact results_arr rfl _ _ _ 22 z20 zs rfl r3 rfl hz) rfl ?_
      refine ⟨zs, rfl, hz, bz, ?_, below_setCells (by omega) _ _ _ ?_⟩
      · have h := HS.out
        rw [sv_zero, sv_zero, sv_zero] at h
        unfold isAdd M
        rcases hq with rfl | rfl <;> omega
      · exact below_drewN (((((Below.refl _ _).alloc (Nat.le_refl _) _).alloc (by simp) _).alloc (by simp; omega) _).alloc (by simp; omega) _) n
    | succ k =>
      have e1 : (((k + 1 : Nat) : Int) - 1) = (k : Int) := by omega
      rw [e1]
      have r1 : RowAt (((((w.alloc (.cells (ag xs) 22)).alloc (.cells (ag ys) 22)).alloc (.cells (ag z20) 22)).alloc (.cells (ag zs) 22))) (w.heap.size) 22 xs := ((((RowAt.new _ _ _ (by simp)).alloc _).alloc _).alloc _)
      have r2 : RowAt (((((w.alloc (.cells (ag xs) 22)).alloc (.cells (ag ys) 22)).alloc (.cells (ag z20) 22)).alloc (.cells (ag zs) 22))) (w.heap.size + 1) 22 ys := (((RowAt.new _ _ _ (by simp)).alloc _).alloc _)
      obtain ⟨xk, hxk⟩ : ∃ xk, xk = xs.getD k 0 := ⟨_, rfl⟩
      obtain ⟨yk, hyk⟩ : ∃ yk, yk = ys.getD k 0 := ⟨_, rfl⟩
      have c1 := r1.cell k (by omega)
      have c2 := r2.cell k (by omega)
      rw [← hxk] at c1
      rw [← hyk] at c2
      have b1 : 0 ≤ xk ∧ xk ≤ 255 := by rw [hxk]; exact bx.at k
      have b2 : 0 ≤ yk ∧ yk ≤ 255 := by rw [hyk]; exact byy.at k
      obtain ⟨b1a, b1b⟩ := b1
      obtain ⟨b2a, b2b⟩ := b2
      have hq0 : 0 ≤ q := by rcases hq with h | h <;> omega
      have hq1 : q ≤ 1 := by rcases hq with h | h <;> omega
      have hk0 : (0 : Int) ≤ (k : Int) := by omega
      have hk1 : (k : Int) < 20 := by omega
      have HX : Hid (xk = xs.getD k 0 ∧ yk = ys.getD k 0 ∧ sv zs (k + 1) + q * 256 ^ (20 - (k + 1)) = sv xs (k + 1) + sv ys (k + 1)) := ⟨hxk, hyk, hs⟩
      have r4 : RowAt (((((w.alloc (.cells (ag xs) 22)).alloc (.cells (ag ys) 22)).alloc (.cells (ag z20) 22)).alloc (.cells (ag zs) 22))) (w.heap.size + 1 + 1 + 1) 22 zs := RowAt.new _ _ _ (by simp)
      have c4 := r4.cell k (by omega)
      have f4 := r4.frozen k
      clear r1 r2 r4 hxk hyk hs hq e1
      by_cases hc : 255 < xk + yk + q
      · go_wp2
        go_quiet (fail)
        go_wp2
        go_roundw
        case rel =>
          obtain ⟨hxk, hyk, hs⟩ := HX.out
          exact ⟨k, 1, zs.set k (xk + yk + q - 256), n + nq, by omega, rfl, rfl, .inr rfl, by simpa using hz, bz.set k (by omega), add_round xs ys zs k q 1 _ 20 hx hy hz (by omega) hs (by omega), set_row22 _ _ _ _ _ _ (by simp)⟩
        case measure => simp [intOf]
      · go_wp2
        go_quiet (fail)
        go_wp2
        go_roundw
        case rel =>
          obtain ⟨hxk, hyk, hs⟩ := HX.out
          exact ⟨k, 0, zs.set k (xk + yk + q), n + nq, by omega, rfl, rfl, .inl rfl, by simpa using hz, bz.set k (by omega), add_round xs ys zs k q 0 _ 20 hx hy hz (by omega) hs (by omega), set_row22 _ _ _ _ _ _ (by simp)⟩
        case measure => simp [intOf]
set_option maxHeartbeats 400000 in
theorem sub20_any (xs ys : List Int) (w : World) (hx : xs.length = 20) (hy : ys.length = 20) (bx : Byts xs) (byy : Byts ys) :
    Calls Try.prog 23 #[.agg (ag xs), .agg (ag ys)] w fun e w' => ∃ zs, e = .returned (.agg (ag zs)) ∧ zs.length = 20 ∧ Byts zs ∧ isSub (val xs) (val ys) (val zs) ∧ Below w.heap.size w w' := by
  go_enter Try.func23, Try.ntmps23
  go_wp2
  rw [ag_zero]
  go_loopw [6, 7] (fun c i wr => ∃ (j : Nat) (q : Int) (zs : List Int) (n : Nat), j ≤ 20 ∧ i = .int .i64 ((j : Int) - 1) ∧ c = .int .i64 q ∧ (q = 0 ∨ q = 1) ∧ zs.length = 20 ∧ Byts zs ∧
      sv zs j - q * 256 ^ (20 - j) = sv xs j - sv ys j ∧ wr = (((((w.alloc (.cells (ag xs) 22)).alloc (.cells (ag ys) 22)).alloc (.cells (ag z20) 22)).alloc (.cells (ag zs) 22))).drewN n) (fun _ i _ => (intOf i + 1).toNat)
  case atStart => exact ⟨20, 0, z20, 0, by omega, rfl, rfl, .inl rfl, rfl, z20_byts, by rw [sv_end _ _ (by simp [z20]), sv_end _ _ (by omega), sv_end _ _ (by omega)]; decide, rfl⟩
  case round =>
    obtain ⟨j, q, zs, n, hj, rfl, rfl, hq, hz, bz, hs, rfl⟩ := hrel
    cases j with
    | zero =>
      have HS : Hid (sv zs 0 - q * 256 ^ (20 - 0) = sv xs 0 - sv ys 0) := hs
      clear hs
      have r4 : RowAt (((((w.alloc (.cells (ag xs) 22)).alloc (.cells (ag ys) 22)).alloc (.cells (ag z20) 22)).alloc (.cells (ag zs) 22)).drewN n) (w.heap.size + 1 + 1 + 1) 22 zs := (RowAt.new _ _ _ (by simp)).drewN n
      have r3 : RowAt (((((w.alloc (.cells (ag xs) 22)).alloc (.cells (ag ys) 22)).alloc (.cells (ag z20) 22)).alloc (.cells (ag zs) 22)).drewN n) (w.heap.size + 1 + 1) 22 z20 := ((RowAt.new _ _ _ (by simp)).alloc _).drewN n
      go_wp2_with (first
        | (refine wpl_load 22 (.inl rfl) rfl _ rfl _ rfl 22 zs (by exact r4) hz ?_)
        | (refine wpl_store 22 (.inl rfl) rfl _ _ rfl _ rfl zs rfl 22 z20 (by exact r3) rfl hz ?_))
      refine bodyPost_ret (v := .agg (ag zs)) (by exact results_arr rfl _ _ _ 22 z20 zs rfl r3 rfl hz) rfl ?_
      refine ⟨zs, rfl, hz, bz, ?_, below_setCells (by omega) _ _ _ ?_⟩
      · have h := HS.out
        rw [sv_zero, sv_zero, sv_zero] at h
        unfold isSub M
        rcases hq with rfl | rfl <;> omega
      · exact below_drewN (((((Below.refl _ _).alloc (Nat.le_refl _) _).alloc (by simp) _).alloc (by simp; omega) _).alloc (by simp; omega) _) n
    | succ k =>
      have e1 : (((k + 1 : Nat) : Int) - 1) = (k : Int) := by omega
      rw [e1]
      have r1 : RowAt (((((w.alloc (.cells (ag xs) 22)).alloc (.cells (ag ys) 22)).alloc (.cells (ag z20) 22)).alloc (.cells (ag zs) 22))) (w.heap.size) 22 xs := ((((RowAt.new _ _ _ (by simp)).alloc _).alloc _).alloc _)
      have r2 : RowAt (((((w.alloc (.cells (ag xs) 22)).alloc (.cells (ag ys) 22)).alloc (.cells (ag z20) 22)).alloc (.cells (ag zs) 22))) (w.heap.size + 1) 22 ys := (((RowAt.new _ _ _ (by simp)).alloc _).alloc _)
      obtain ⟨xk, hxk⟩ : ∃ xk, xk = xs.getD k 0 := ⟨_, rfl⟩
      obtain ⟨yk, hyk⟩ : ∃ yk, yk = ys.getD k 0 := ⟨_, rfl⟩
      have c1 := r1.cell k (by omega)
      have c2 := r2.cell k (by omega)
      rw [← hxk] at c1
      rw [← hyk] at c2
      have b1 : 0 ≤ xk ∧ xk ≤ 255 := by rw [hxk]; exact bx.at k
      have b2 : 0 ≤ yk ∧ yk ≤ 255 := by rw [hyk]; exact byy.at k
      obtain ⟨b1a, b1b⟩ := b1
      obtain ⟨b2a, b2b⟩ := b2
      have hq0 : 0 ≤ q := by rcases hq with h | h <;> omega
      have hq1 : q ≤ 1 := by rcases hq with h | h <;> omega
      have hk0 : (0 : Int) ≤ (k : Int) := by omega
      have hk1 : (k : Int) < 20 := by omega
      have HX : Hid (xk = xs.getD k 0 ∧ yk = ys.getD k 0 ∧ sv zs (k + 1) - q * 256 ^ (20 - (k + 1)) = sv xs (k + 1) - sv ys (k + 1)) := ⟨hxk, hyk, hs⟩
      have r4 : RowAt (((((w.alloc (.cells (ag xs) 22)).alloc (.cells (ag ys) 22)).alloc (.cells (ag z20) 22)).alloc (.cells (ag zs) 22))) (w.heap.size + 1 + 1 + 1) 22 zs := RowAt.new _ _ _ (by simp)
      have c4 := r4.cell k (by omega)
      have f4 := r4.frozen k
      clear r1 r2 r4 hxk hyk hs hq e1
      by_cases hc : xk - yk - q < 0
      · go_wp2
        go_quiet (fail)
        go_wp2
        go_roundw
        case rel =>
          obtain ⟨hxk, hyk, hs⟩ := HX.out
          exact ⟨k, 1, zs.set k (xk - yk - q + 256), n + nq, by omega, rfl, rfl, .inr rfl, by simpa using hz, bz.set k (by omega), sub_round xs ys zs k q 1 _ 20 hx hy hz (by omega) hs (by omega), set_row22 _ _ _ _ _ _ (by simp)⟩
        case measure => simp [intOf]
      · go_wp2
        go_quiet (fail)
        go_wp2
        go_roundw
        case rel =>
          obtain ⟨hxk, hyk, hs⟩ := HX.out
          exact ⟨k, 0, zs.set k (xk - yk - q), n + nq, by omega, rfl, rfl, .inl rfl, by simpa using hz, bz.set k (by omega), sub_round xs ys zs k q 0 _ 20 hx hy hz (by omega) hs (by omega), set_row22 _ _ _ _ _ _ (by simp)⟩
        case measure => simp [intOf]

theorem ret_int {k : IntKind} {a b : Int} (h : a = b) : Ending.returned (.int k a) = .returned (.int k b) := by rw [h]
theorem cmpL_drop (xs ys : List Int) (k : Nat) (hx : k < xs.length) (hy : k < ys.length) : cmpL (xs.drop k) (ys.drop k) = if xs.getD k 0 < ys.getD k 0 then -1 else if ys.getD k 0 < xs.getD k 0 then 1 else cmpL (xs.drop (k + 1)) (ys.drop (k + 1)) := by
  rw [List.drop_eq_getElem_cons hx, List.drop_eq_getElem_cons hy]
  have e1 : xs.getD k 0 = xs[k] := by simp [List.getD, List.getElem?_eq_getElem hx]
  have e2 : ys.getD k 0 = ys[k] := by simp [List.getD, List.getElem?_eq_getElem hy]
  rw [e1, e2]; rfl

set_option maxHeartbeats 400000 in
theorem cmp20_any (xs ys : List Int) (w : World) (hx : xs.length = 20) (hy : ys.length = 20) (bx : Byts xs) (byy : Byts ys) :
    Calls Try.prog 8 #[.agg (ag xs), .agg (ag ys)] w fun e w' => e = .returned (.int .i64 (cmpL xs ys)) ∧ Below w.heap.size w w' := by
  go_enter Try.func8, Try.ntmps8
  go_wp2
  go_loopw [5] (fun i wr => ∃ (k : Nat) (n : Nat), k ≤ 20 ∧ i = .int .i64 (k : Int) ∧ cmpL (xs.drop k) (ys.drop k) = cmpL xs ys ∧ wr = ((w.alloc (.cells (ag xs) 22)).alloc (.cells (ag ys) 22)).drewN n) (fun i _ => (20 - intOf i).toNat)
  case atStart => exact ⟨0, 0, by omega, rfl, rfl, rfl⟩
  case round =>
    obtain ⟨k, n, hk, rfl, hs, rfl⟩ := hrel
    by_cases hk1 : k < 20
    · have r1 : RowAt ((w.alloc (.cells (ag xs) 22)).alloc (.cells (ag ys) 22)) (w.heap.size) 22 xs := (RowAt.new _ _ _ (by simp)).alloc _
      have r2 : RowAt ((w.alloc (.cells (ag xs) 22)).alloc (.cells (ag ys) 22)) (w.heap.size + 1) 22 ys := RowAt.new _ _ _ (by simp)
      obtain ⟨xk, hxk⟩ : ∃ xk, xk = xs.getD k 0 := ⟨_, rfl⟩
      obtain ⟨yk, hyk⟩ : ∃ yk, yk = ys.getD k 0 := ⟨_, rfl⟩
      have c1 := r1.cell k (by omega)
      have c2 := r2.cell k (by omega)
      have hd := cmpL_drop xs ys k (by omega) (by omega)
      rw [← hxk] at c1 hd
      rw [← hyk] at c2 hd
      rw [hs] at hd
      have HD : Hid (cmpL xs ys = if xk < yk then -1 else if yk < xk then 1 else cmpL (xs.drop (k + 1)) (ys.drop (k + 1))) := hd
      have hk2 : (k : Int) < 20 := by omega
      have hk0 : (0 : Int) ≤ (k : Int) := by omega
      clear r1 r2 hxk hyk hs hd
      by_cases h1 : xk < yk
      · go_wp2
        go_quiet (fail)
        go_wp2
        go_ret
        exact ⟨ret_int (by rw [HD.out, if_pos h1]), below_drewN (below_drewN (below2 _ _ _) _) _⟩
      · by_cases h2 : yk < xk
        · go_wp2
          go_quiet (fail)
          go_wp2
          go_quiet (fail)
          go_wp2
          go_ret
          exact ⟨ret_int (by rw [HD.out, if_neg (by omega), if_pos h2]), below_drewN (below_drewN (below_drewN (below2 _ _ _) _) _) _⟩
        · go_wp2
          go_quiet (fail)
          go_wp2
          go_quiet (fail)
          go_wp2
          go_roundw
          case rel => exact ⟨k + 1, _, by omega, by go_num, by rw [HD.out, if_neg (by omega), if_neg (by omega)], rfl⟩
          case measure => simp [intOf]; omega
    · have hk2 : k = 20 := by omega
      subst hk2
      go_wp2
      go_ret
      refine ⟨?_, below_drewN (((Below.refl _ _).alloc (Nat.le_refl _) _).alloc (by simp) _) n⟩
      rw [← hs, List.drop_of_length_le (by omega), List.drop_of_length_le (by omega)]
      rfl

theorem compareBytes_cmpL : ∀ (xs ys : List Int), xs.length = ys.length → Byts xs → Byts ys → Lib.compareBytes (Lib.bytesOf xs) (Lib.bytesOf ys) = cmpL xs ys
  | [], [], _, _, _ => rfl
  | [], _ :: _, h, _, _ => by simp at h
  | _ :: _, [], h, _, _ => by simp at h
  | x :: xs, y :: ys, h, ha, hb => by
    have ih := compareBytes_cmpL xs ys (by simpa using h) ha.tail hb.tail
    have h1 := ha.head
    have h2 := hb.head
    have e : ∀ a b : Int, 0 ≤ a ∧ a ≤ 255 → 0 ≤ b ∧ b ≤ 255 → ((UInt8.ofNat a.toNat < UInt8.ofNat b.toNat) ↔ a < b) := by
      intro a b h h'
      rw [UInt8.lt_iff_toNat_lt, UInt8.toNat_ofNat', UInt8.toNat_ofNat', Nat.mod_eq_of_lt (by omega), Nat.mod_eq_of_lt (by omega)]
      omega
    show Lib.compareBytes (UInt8.ofNat x.toNat :: Lib.bytesOf xs) (UInt8.ofNat y.toNat :: Lib.bytesOf ys) = _
    simp only [Lib.compareBytes, cmpL, e x y h1 h2, e y x h2 h1, ih]

/-- The entry internal/bytealg.Compare at two slices whose cells are known. -/
theorem run_compareSlices {P : Program} (w : World) (b c : Nat) (t t' : TypeId) (xs ys : List Int) (n : Nat) (hb : RowAt w b t xs) (hc : RowAt w c t' ys) (hx : xs.length = n) (hy : ys.length = n) (bx : Byts xs) (byy : Byts ys) :
    (Extern.BytealgCompare.compare #[.slice (some ⟨b, 0, none⟩) n n, .slice (some ⟨c, 0, none⟩) n n]).run P w = .ok (.int .i64 (cmpL xs ys)) w := by
  have l1 := Lib.run_loadBytesX (P := P) w xs ⟨b, 0, none⟩ .empty (fun j x hj => by
    have hjl : j < xs.length := (List.getElem?_eq_some_iff.1 hj).1
    rw [Addr.add_mid, Nat.zero_add, hb.cell j hjl, List.getD_eq_getElem?_getD, hj]; rfl)
  have l2 := Lib.run_loadBytesX (P := P) w ys ⟨c, 0, none⟩ .empty (fun j x hj => by
    have hjl : j < ys.length := (List.getElem?_eq_some_iff.1 hj).1
    rw [Addr.add_mid, Nat.zero_add, hc.cell j hjl, List.getD_eq_getElem?_getD, hj]; rfl)
  rw [hx] at l1
  rw [hy] at l2
  change Sem.run P (do pure (goInt (Extern.BytealgCompare.cmp (← Extern.Bytes.bytesOf (.slice (some ⟨b, 0, none⟩) n n)) (← Extern.Bytes.bytesOf (.slice (some ⟨c, 0, none⟩) n n))))) w = _
  simp only [Extern.Bytes.bytesOf, Sem.run_bind, Sem.run_pure, l1, l2, Result.andThen]
  rw [Lib.cmp_eq]
  have e1 : (⟨ByteArray.empty.data ++ (Lib.bytesOf xs).toArray⟩ : ByteArray).data.toList = Lib.bytesOf xs := by
    show ((#[] : Array UInt8) ++ (Lib.bytesOf xs).toArray).toList = _
    simp
  have e2 : (⟨ByteArray.empty.data ++ (Lib.bytesOf ys).toArray⟩ : ByteArray).data.toList = Lib.bytesOf ys := by
    show ((#[] : Array UInt8) ++ (Lib.bytesOf ys).toArray).toList = _
    simp
  rw [e1, e2, compareBytes_cmpL xs ys (by omega) bx byy]
  rfl

theorem run_call35 (args : Array Value) (w : World) : (callFunc 35 args).run Try.prog w = ((Extern.BytealgCompare.compare args).run Try.prog w).andThen fun v w' => .ok (.value v) w' :=
  run_callFunc_extern Try.func35 (by kernel_rfl) (by kernel_rfl) (by kernel_rfl) (e := Extern.BytealgCompare.compare) (by kernel_rfl) args w

set_option maxHeartbeats 400000 in
theorem compare_any (w : World) (b c : Nat) (t t' : TypeId) (xs ys : List Int) (hb : RowAt w b t xs) (hc : RowAt w c t' ys) (hx : xs.length = 20) (hy : ys.length = 20) (bx : Byts xs) (byy : Byts ys) :
    Calls Try.prog 32 #[.slice (some ⟨b, 0, none⟩) 20 20, .slice (some ⟨c, 0, none⟩) 20 20] w fun e w' => e = .returned (.int .i64 (cmpL xs ys)) ∧ w' = w := by
  go_enter Try.func32, Try.ntmps32
  go_wp2
  rw [run_call35, run_compareSlices w b c t t' xs ys 20 hb hc hx hy bx byy]
  simp only [Result.andThen]
  rw [Oper.upon_value]
  go_wp2
  go_ret
  exact ⟨rfl, rfl⟩
end Go.Proofs.Qxb6608829a
