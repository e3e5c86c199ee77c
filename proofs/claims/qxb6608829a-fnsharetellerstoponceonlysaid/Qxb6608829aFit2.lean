import Derived.Test.Qxb6608829aFit
namespace Go.Proofs.Qxb6608829a
open Go.RowKit
set_option linter.unusedVariables false
set_option linter.unusedSimpArgs false

set_option maxRecDepth 100000 in
set_option maxHeartbeats 1000000 in
theorem bytes2_some (b o n c : Nat) (w : World) (hn : n ≤ maxLen) (hp : ∀ j, j < n → ShareAt w b (o + j * 43)) :
    Calls Try.prog 20 #[.slice (some ⟨b, o, none⟩) n c] w (BytesPost w b o n) := by
  unfold maxLen at hn
  by_cases hn1 : (1048576 : Int) < n
  · go_enter Try.func20, Try.ntmps20
    go_wp2
    go_ret
    exact BytesPost.no
  go_enter Try.func20, Try.ntmps20
  go_wp2
  go_loop [3, 4, 5] (fun z i _ => ∃ (r : Int) (k : Nat), 0 ≤ r ∧ r ≤ 1048576 ∧ z = .int .i64 r ∧ i = .int .i64 k ∧ k ≤ n ∧ Small w b o k) (fun _ i _ => n - (intOf i).toNat)
  case atStart => exact ⟨n, 0, by omega, by omega, rfl, rfl, Nat.zero_le _, fun i h => by omega⟩
  case round =>
    obtain ⟨r, k, hr0, hr1, rfl, rfl, hk, hsm⟩ := hrel
    by_cases hkn : k < n
    · obtain ⟨ha, hl, hc, hcell, hpin⟩ := (hp k hkn).holders
      by_cases h1 : 1048576 < r + 20
      · go_wp2
        go_ret
        exact BytesPost.no
      by_cases h2 : 1048576 < r + 20 + 20
      · go_wp2
        go_ret
        exact BytesPost.no
      by_cases h3 : (1048576 : Int) < hl
      · go_wp2
        go_ret
        exact BytesPost.no
      by_cases h4 : 1048576 < r + 20 + 20 + hl
      · go_wp2
        go_ret
        exact BytesPost.no
      have HS : Hid (Small w b o (k + 1)) := hsm.next hcell (by omega)
      clear hsm
      rcases Nat.eq_zero_or_pos hl with rfl | hpos
      · go_wp2
        go_loop [3, 5] (fun z j => ∃ r' : Int, 0 ≤ r' ∧ r' ≤ 1048576 ∧ z = .int .i64 r' ∧ j = .int .i64 0) (fun _ _ => 0)
        case atStart => exact ⟨_, by omega, by omega, rfl, rfl⟩
        case round =>
          obtain ⟨r', hq0, hq1, rfl, rfl⟩ := hrel
          go_wp2
          go_round
          case rel => exact ⟨r', k + 1, hq0, hq1, rfl, by go_num, by omega, HS.out⟩
          case measure => simp [intOf]; omega
      · obtain ⟨hlm, _, hq⟩ := hpin
        obtain ⟨hb, ho, rfl, _, hpj⟩ := hq hpos
        unfold maxLen at hlm
        go_wp2
        go_loop [3, 5] (fun z j => ∃ (r' : Int) (m : Nat), 0 ≤ r' ∧ r' ≤ 1048576 ∧ z = .int .i64 r' ∧ j = .int .i64 m ∧ m ≤ hl) (fun _ j => hl - (intOf j).toNat)
        case atStart => exact ⟨_, 0, by omega, by omega, rfl, rfl, Nat.zero_le _⟩
        case round =>
          obtain ⟨r', m, hq0, hq1, rfl, rfl, hm⟩ := hrel
          by_cases hml : m < hl
          · obtain ⟨⟨s, hs, hsc⟩, _⟩ := hpj m hml
            unfold maxLen at hs
            by_cases h5 : (1048576 : Int) < s.size
            · go_wp2
              go_ret
              exact BytesPost.no
            by_cases h6 : 1048576 < r' + s.size
            · go_wp2
              go_ret
              exact BytesPost.no
            by_cases h7 : 1048576 < r' + s.size + 20
            · go_wp2
              go_ret
              exact BytesPost.no
            go_wp2
            go_round
            case rel => exact ⟨r' + s.size + 20, m + 1, by omega, by omega, rfl, by go_num, by omega⟩
            case measure => simp [intOf]; omega
          · go_wp2
            go_round
            case rel => exact ⟨r', k + 1, hq0, hq1, rfl, by go_num, by omega, HS.out⟩
            case measure => simp [intOf]; omega
    · go_wp2
      go_ret
      exact BytesPost.yes hk hkn hn1 hsm

theorem bytes2_zero (a : Option Addr) (c : Nat) (w : World) : Calls Try.prog 20 #[.slice a 0 c] w (BoolPost w) := by
  go_enter Try.func20, Try.ntmps20
  go_wp2
  go_loop [3, 4, 5] (fun z i _ => ∃ r : Int, 0 ≤ r ∧ r ≤ 1048576 ∧ z = .int .i64 r ∧ i = .int .i64 0) (fun _ _ _ => 0)
  case atStart => exact ⟨_, by omega, by omega, rfl, rfl⟩
  case round =>
    obtain ⟨r, hr0, hr1, rfl, rfl⟩ := hrel
    go_wp2
    go_ret
    exact ⟨⟨_, rfl⟩, rfl⟩
end Go.Proofs.Qxb6608829a
