import Derived.Test.Qxb6608829aStop
namespace Go.Proofs.Qxb6608829a
open Go.RowKit Go.Conc
set_option linter.unusedVariables false
set_option linter.unusedSimpArgs false

def BytesPost2 (w : World) (a : Option Addr) (n : Nat) (e : Ending) (w' : World) : Prop := (∃ ok : Bool, e = .returned (.bool ok) ∧ (ok = true → n ≤ 1048576 ∧ ∀ b o, a = some ⟨b, o, none⟩ → Small w b o n)) ∧ w' = w
theorem bytes_any (a : Option Addr) (n c : Nat) (w : World) (hp : SharesIn w a n) : Calls Try.prog 11 #[.slice a n c] w (BytesPost2 w a n) := by
  obtain ⟨hn, h0, hs⟩ := hp
  rcases Nat.eq_zero_or_pos n with rfl | hpos
  · refine (bytes_zero a c w).mono ?_
    rintro e w' ⟨⟨ok, rfl⟩, rfl⟩
    exact ⟨⟨ok, rfl, fun _ => ⟨by omega, fun b o _ i hi => by omega⟩⟩, rfl⟩
  · obtain ⟨b, o, rfl, hb, hj⟩ := hs hpos
    refine (bytes_some b o n c w hn hj).mono ?_
    rintro e w' ⟨⟨ok, rfl, h⟩, rfl⟩
    exact ⟨⟨ok, rfl, fun hk => ⟨(h hk).1, fun b' o' e => by cases e; exact (h hk).2⟩⟩, rfl⟩

theorem wpl_load44 {ops : Array Oper} {rest : List Oper} {op : Oper} {a : Act} {w : World} {Q : Exit → Act → World → Prop} (hw : Region.wanted op (yielded ops a.tmps) = true) (x : Operand) (ho : op.op = .load 44 x)
    (b o : Nat) (hx : a.eval x = .pointer (some ⟨b, o, none⟩)) (k : Nat) (hc : w.rangeAt b o (cloL k))
    (h : wpList Try.prog ops Q rest (a.put op.dst (.agg (clo k))) w) : wpList Try.prog ops Q (op :: rest) a w :=
  wpl_exec (.agg (clo k)) hw (by
    have := run_loadAt_mid (P := Try.prog) w b o 44 (cloL k) _ hc Try.underlying44 rfl (by rw [Try.size44, cloL_length])
    unfold execOp
    simp only [ho, hx, Sem.run_bind, this, Sem.run_pure, Result.andThen_ok]
    rfl) h

theorem Teller.lt {w : World} {p cw cd : Nat} {mx : Int} {v : Value} {st : Bool} {buf : Array Value} (h : Teller w p cw cd mx v st buf) : p < w.heap.size ∧ cw < w.heap.size := by
  constructor
  · have := h.cells
    apply Classical.byContradiction; intro hn
    rw [Array.getElem?_eq_none (by omega)] at this; cases this
  · obtain ⟨s, r, hw⟩ := h.wake
    apply Classical.byContradiction; intro hn
    rw [Array.getElem?_eq_none (by omega)] at hw; cases hw
theorem Teller.below {w w' : World} {p cw cd : Nat} {mx : Int} {v : Value} {st : Bool} {buf : Array Value} (h : Teller w p cw cd mx v st buf) (hb : Below w.heap.size w w') : Teller w' p cw cd mx v st buf :=
  h.other (hb.block _ h.lt.1) (hb.block _ h.lt.2)

set_option maxRecDepth 100000 in
set_option maxHeartbeats 2000000 in
theorem law5_any (a : Option Addr) (n c : Nat) (w : World) (hp : SharesIn w a n) :
    Calls Try.prog 5 #[.slice a n c] w fun e w' => e = .returned (.bool true) ∧ Below w.heap.size w w' := by
  have hby := bytes_any a n c w hp
  have hfit := sharesFit_any a n c w hp
  have HP : Hid (SharesIn w a n) := hp
  have hn63 : n ≤ 9223372036854775807 := hp.1
  replace hby : Hid _ := hby
  replace hfit : Hid _ := hfit
  clear hp
  go_enter Try.func5, Try.ntmps5
  go_wp2_with fail
  refine Calls.mono hby.out ?_
  rintro e w ⟨⟨ok, rfl, hok⟩, rfl⟩
  cases ok
  · clear hok hby hfit
    go_wp2
    go_ret
    exact ⟨rfl, Below.refl _ _⟩
  obtain ⟨hn, hsm⟩ := hok rfl
  clear hok hby
  replace hsm : Hid _ := hsm
  go_wp2_with fail
  refine Calls.mono hfit.out ?_
  rintro e w ⟨⟨ok, rfl⟩, rfl⟩
  cases ok
  · clear hfit
    go_wp2
    go_ret
    exact ⟨rfl, Below.refl _ _⟩
  clear hfit
  go_wp2
  go_loop [3] (fun i => ∃ k : Nat, k ≤ n ∧ i = .int .i64 k) (fun i => n - (intOf i).toNat)
  case atStart => exact ⟨0, Nat.zero_le _, rfl⟩
  case round =>
    obtain ⟨k, hk, rfl⟩ := hrel
    by_cases hkn : k < n
    · obtain ⟨b, o, rfl, hb, hj⟩ := HP.out.2.2 (by omega)
      obtain ⟨pt, c0, hp0, hp1⟩ := (hj k hkn).point
      clear hj
      by_cases he : (pt != (k : Int)) = true
      · go_wp2
        go_ret
        exact ⟨rfl, Below.refl _ _⟩
      · have he' : (pt != (k : Int)) = false := by simpa using he
        clear he
        go_wp2
        go_round
        case rel => exact ⟨k + 1, by omega, by go_num⟩
        case measure => simp [intOf]; omega
    · have hts := toShares_any a n c w HP.out hn (by exact hsm.out)
      replace hts : Hid _ := hts
      go_wp2_with fail
      refine Calls.mono hts.out ?_
      rintro e w2 ⟨hcase, hb2⟩
      clear hts hsm HP
      rcases hcase with ⟨hn0, rfl⟩ | ⟨g, rfl, hgB, hblk⟩
      · subst hn0
        replace hb2 : Hid _ := hb2
        go_wp2_with fail
        refine Calls.mono (zznew_any none 0 0 w2) ?_
        rintro e w3 ⟨p, cw, cd, rfl, hT3, hp3, hc3, hb3⟩
        have hz2 := hb2.out.size
        have hst := zzstop_of p w3 _ (stop_none w.heap.size w p cw cd w3 hT3 (by omega) (by omega) (hb2.out.trans (hb3.mono hz2)))
        replace hst : Hid _ := hst
        clear hT3 hb3 hb2
        go_wp2_with fail
        refine Calls.mono hst.out ?_
        rintro e w4 ⟨rfl, hT4, hb4, _⟩
        clear hst
        replace hb4 : Hid _ := hb4
        go_wp2_with fail
        refine Calls.mono (now_any p cw cd 0 none 0 0 true #[.agg #[]] w4 hT4) ?_
        rintro e w5 ⟨rfl, rfl⟩
        have hT5 : Hid _ := hT4
        clear hT4
        go_wp2_with fail
        go_loop [6] (fun i => i = .int .i64 0) (fun i => 0)
        case atStart => rfl
        case round =>
          subst hrel
          go_wp2_with fail
          refine Calls.mono (stopped_any p cw cd 0 _ true #[.agg #[]] _ hT5.out) ?_
          rintro e w6 ⟨rfl, rfl⟩
          go_wp2_with fail
          refine Calls.mono (tokens_any p cw cd 0 _ true #[.agg #[]] _ hT5.out) ?_
          rintro e w6 ⟨rfl, rfl⟩
          go_wp2
          go_ret
          exact ⟨rfl, hb4.out⟩
      · have hblk2 : Hid (Blk w2 g 44 (n * 43)) := hblk
        clear hblk
        replace hb2 : Hid _ := hb2
        go_wp2_with fail
        refine Calls.mono (zznew_any (some ⟨g, 0, none⟩) n n w2) ?_
        rintro e w3 ⟨p, cw, cd, rfl, hT3, hp3, hc3, hb3⟩
        have hz2 := hb2.out.size
        have hg2 := hblk2.out.lt
        have hst := zzstop_of p w3 _ (stop_first w.heap.size w p cw cd g n w3 hT3 ⟨hblk2.out.below hb3 hg2, fun i hi => by omega⟩ (by omega) (by omega) hn (by omega) (by omega) hgB (hb2.out.trans (hb3.mono hz2)))
        replace hst : Hid _ := hst
        clear hT3 hb3 hb2 hblk2
        go_wp2_with fail
        refine Calls.mono hst.out ?_
        rintro e w4 ⟨rfl, hT4, hb4, hN4⟩
        clear hst
        replace hb4 : Hid _ := hb4
        replace hN4 : Hid (NowRow w4 g n n) := hN4
        go_wp2_with fail
        refine Calls.mono (now_any p cw cd 0 (some ⟨g, 0, none⟩) n n true #[.agg #[]] w4 hT4) ?_
        rintro e w5 ⟨rfl, rfl⟩
        have hT5 : Hid _ := hT4
        clear hT4
        go_wp2_with fail
        go_loopw [6] (fun i wr => ∃ k : Nat, k ≤ n ∧ i = .int .i64 k ∧ Teller wr p cw cd 0 (.slice (some ⟨g, 0, none⟩) n n) true #[.agg #[]] ∧ NowRow wr g n n ∧ Below w.heap.size w wr) (fun i _ => n - (intOf i).toNat)
        case atStart => exact ⟨0, Nat.zero_le _, rfl, hT5.out, hN4.out, hb4.out⟩
        case round =>
          clear hT5 hN4 hb4
          obtain ⟨m, hm, rfl, hT, hN, hbw⟩ := hrel
          have HH : Hid (Teller wr p cw cd 0 (.slice (some ⟨g, 0, none⟩) n n) true #[.agg #[]] ∧ NowRow wr g n n ∧ Below w.heap.size w wr) := ⟨hT, hN, hbw⟩
          clear hT hN hbw
          by_cases hmn : m < n
          · have hr := HH.out.2.1.2 m hmn
            replace hr : Hid _ := hr
            have hk0 : (0 : Int) ≤ (m : Int) := by omega
            have hk1 : (m : Int) < (n : Int) := by omega
            go_wp2_with (first
              | (refine wpl_load44 ?_ (.tmp 46) rfl g (m * 43) rfl m (by exact hr.out) ?_; rfl))
            refine Calls.mono (closing_any m wr) ?_
            rintro e w6 ⟨rfl, hb6⟩
            have H6 : Hid (Teller w6 p cw cd 0 (.slice (some ⟨g, 0, none⟩) n n) true #[.agg #[]] ∧ NowRow w6 g n n ∧ Below w.heap.size w w6) :=
              ⟨HH.out.1.below hb6, HH.out.2.1.same (hb6.block g HH.out.2.1.1.lt), HH.out.2.2.trans (hb6.mono HH.out.2.2.size)⟩
            clear hb6 HH hr
            go_wp2
            go_roundw
            case rel => exact ⟨m + 1, by omega, by go_num, H6.out.1, H6.out.2.1, H6.out.2.2⟩
            case measure => simp [intOf]; omega
          · go_wp2_with fail
            refine Calls.mono (stopped_any p cw cd 0 _ true #[.agg #[]] _ HH.out.1) ?_
            rintro e w6 ⟨rfl, rfl⟩
            go_wp2_with fail
            refine Calls.mono (tokens_any p cw cd 0 _ true #[.agg #[]] _ HH.out.1) ?_
            rintro e w6 ⟨rfl, rfl⟩
            go_wp2
            go_ret
            exact ⟨rfl, HH.out.2.2⟩
end Go.Proofs.Qxb6608829a
