import Derived.Test.Qxb6608829aArr
import Derived.Deep.QuietTactic
import Derived.BigQuiet
namespace Go.Proofs.Qxb6608829a
open Go.RowKit
set_option linter.unusedVariables false
set_option linter.unusedSimpArgs false

/-- The peer at offset o of block b, as the walks need it. -/
structure PeerAt (w : World) (b o : Nat) : Prop where
  addr : ∃ s : ByteArray, s.size ≤ maxLen ∧ w.cell? ⟨b, o, none⟩ = some (.string s)
  id : ∃ xs : List Int, xs.length = 20 ∧ w.rangeAt b (o + 1) (xs.map (Value.int .u8))
/-- A slice of peers that came in. -/
def PeersIn (w : World) (a : Option Addr) (n : Nat) : Prop :=
  n ≤ maxLen ∧ (a = none → n = 0) ∧ (0 < n → ∃ b o, a = some ⟨b, o, none⟩ ∧ b < w.heap.size ∧ ∀ j, j < n → PeerAt w b (o + j * 21))
structure ShareAt (w : World) (b o : Nat) : Prop where
  point : ∃ p : Int, w.cell? ⟨b, o, none⟩ = some (.int .i64 p) ∧ -9223372036854775808 ≤ p ∧ p ≤ 9223372036854775807
  owns : ∃ p : Bool, w.cell? ⟨b, o + 1, none⟩ = some (.bool p)
  from_ : ∃ xs : List Int, xs.length = 20 ∧ w.rangeAt b (o + 2) (xs.map (Value.int .u8))
  to : ∃ xs : List Int, xs.length = 20 ∧ w.rangeAt b (o + 22) (xs.map (Value.int .u8))
  holders : ∃ a n c, w.cell? ⟨b, o + 42, none⟩ = some (.slice a n c) ∧ PeersIn w a n
def SharesIn (w : World) (a : Option Addr) (n : Nat) : Prop :=
  n ≤ maxLen ∧ (a = none → n = 0) ∧ (0 < n → ∃ b o, a = some ⟨b, o, none⟩ ∧ b < w.heap.size ∧ ∀ j, j < n → ShareAt w b (o + j * 43))

def FitPost (w : World) (e : Ending) (w' : World) : Prop := (∃ (q' : Int) (ok : Bool), e = .returned (.tuple #[.int .i64 q', .bool ok]) ∧ 0 ≤ q' ∧ q' ≤ 1048576) ∧ w' = w
/-- peersFit, no peer. -/
theorem peersFit_zero (a : Option Addr) (c : Nat) (q : Int) (w : World) (h0 : 0 ≤ q) (h1 : q ≤ 1048576) :
    Calls Try.prog 24 #[.slice a 0 c, .int .i64 q] w (FitPost w) := by
  go_enter Try.func24, Try.ntmps24
  go_wp2
  go_loop [1, 6] (fun d i => ∃ r : Int, 0 ≤ r ∧ r ≤ 1048576 ∧ d = .int .i64 r ∧ i = .int .i64 0) (fun _ _ => 0)
  case atStart => exact ⟨q, h0, h1, rfl, rfl⟩
  case round =>
    obtain ⟨r, hr0, hr1, rfl, rfl⟩ := hrel
    go_wp2
    go_ret2
    exact ⟨⟨r, true, rfl, hr0, hr1⟩, rfl⟩

set_option maxHeartbeats 400000 in
theorem peersFit_some (b o n c : Nat) (q : Int) (w : World) (h0 : 0 ≤ q) (h1 : q ≤ 1048576) (hn : n ≤ maxLen) (hp : ∀ j, j < n → PeerAt w b (o + j * 21)) :
    Calls Try.prog 24 #[.slice (some ⟨b, o, none⟩) n c, .int .i64 q] w (FitPost w) := by
  unfold maxLen at hn
  go_enter Try.func24, Try.ntmps24
  go_wp2
  go_loop [1, 6] (fun d i => ∃ (r : Int) (k : Nat), 0 ≤ r ∧ r ≤ 1048576 ∧ d = .int .i64 r ∧ i = .int .i64 k ∧ k ≤ n) (fun _ i => n - (intOf i).toNat)
  case atStart => exact ⟨q, 0, h0, h1, rfl, rfl, Nat.zero_le _⟩
  case round =>
    obtain ⟨r, k, hr0, hr1, rfl, rfl, hk⟩ := hrel
    by_cases hkn : k < n
    · obtain ⟨⟨s, hs, hc⟩, _⟩ := hp k hkn
      unfold maxLen at hs
      by_cases h48 : r < 48
      · go_wp2
        go_ret2
        exact ⟨⟨_, _, rfl, by omega, by omega⟩, rfl⟩
      · by_cases hsz : (r - 48) < (s.size : Int)
        · go_wp2
          go_ret2
          exact ⟨⟨_, _, rfl, by omega, by omega⟩, rfl⟩
        · go_wp2
          go_round
          case rel => exact ⟨r - 48 - s.size, k + 1, by omega, by omega, by go_num, by go_num, by omega⟩
          case measure => simp [intOf]; omega
    · go_wp2
      go_ret2
      exact ⟨⟨r, true, rfl, hr0, hr1⟩, rfl⟩

theorem peersFit_any (a : Option Addr) (n c : Nat) (q : Int) (w : World) (h0 : 0 ≤ q) (h1 : q ≤ 1048576) (hp : PeersIn w a n) :
    Calls Try.prog 24 #[.slice a n c, .int .i64 q] w (FitPost w) := by
  obtain ⟨hn, _, hs⟩ := hp
  rcases Nat.eq_zero_or_pos n with rfl | hpos
  · exact peersFit_zero a c q w h0 h1
  · obtain ⟨b, o, rfl, _, hj⟩ := hs hpos
    exact peersFit_some b o n c q w h0 h1 hn hj

def BoolPost (w : World) (e : Ending) (w' : World) : Prop := (∃ ok : Bool, e = .returned (.bool ok)) ∧ w' = w

theorem sharesFit_zero (a : Option Addr) (c : Nat) (w : World) : Calls Try.prog 12 #[.slice a 0 c, .int .i64 1048576] w (BoolPost w) := by
  go_enter Try.func12, Try.ntmps12
  go_wp2
  go_loop [1, 5, 6, 7] (fun d i _ _ => ∃ r : Int, 0 ≤ r ∧ r ≤ 1048576 ∧ d = .int .i64 r ∧ i = .int .i64 0) (fun _ _ _ _ => 0)
  case atStart => exact ⟨_, by omega, by omega, rfl, rfl⟩
  case round =>
    obtain ⟨r, hr0, hr1, rfl, rfl⟩ := hrel
    go_wp2
    go_ret
    exact ⟨⟨_, rfl⟩, rfl⟩

set_option maxHeartbeats 400000 in
theorem sharesFit_some (b o n c : Nat) (w : World) (hn : n ≤ maxLen) (hp : ∀ j, j < n → ShareAt w b (o + j * 43)) :
    Calls Try.prog 12 #[.slice (some ⟨b, o, none⟩) n c, .int .i64 1048576] w (BoolPost w) := by
  unfold maxLen at hn
  go_enter Try.func12, Try.ntmps12
  go_wp2
  go_loop [1, 5, 6, 7] (fun d i _ _ => ∃ (r : Int) (k : Nat), 0 ≤ r ∧ r ≤ 1048576 ∧ d = .int .i64 r ∧ i = .int .i64 k ∧ k ≤ n) (fun _ i _ _ => n - (intOf i).toNat)
  case atStart => exact ⟨_, 0, by omega, by omega, rfl, rfl, Nat.zero_le _⟩
  case round =>
    obtain ⟨r, k, hr0, hr1, rfl, rfl, hk⟩ := hrel
    by_cases hkn : k < n
    · obtain ⟨ha, hl, hc, hcell, hpin⟩ := (hp k hkn).holders
      by_cases h96 : r < 96
      · go_wp2
        go_ret
        exact ⟨⟨_, rfl⟩, rfl⟩
      · have hf := peersFit_any ha hl hc (r - 96) w (by omega) (by omega) hpin
        replace hf : Hid _ := hf
        go_wp2_with fail
        refine Calls.mono hf.out ?_
        rintro e w' ⟨⟨q', ok, rfl, hq0, hq1⟩, rfl⟩
        cases ok
        · go_wp2
          go_ret
          exact ⟨⟨_, rfl⟩, rfl⟩
        · go_wp2
          go_round
          case rel => exact ⟨q', k + 1, hq0, hq1, rfl, by go_num, by omega⟩
          case measure => simp [intOf]; omega
    · go_wp2
      go_ret
      exact ⟨⟨_, rfl⟩, rfl⟩
theorem sharesFit_any (a : Option Addr) (n c : Nat) (w : World) (hp : SharesIn w a n) :
    Calls Try.prog 12 #[.slice a n c, .int .i64 1048576] w (BoolPost w) := by
  obtain ⟨hn, _, hs⟩ := hp
  rcases Nat.eq_zero_or_pos n with rfl | hpos
  · exact sharesFit_zero a c w
  · obtain ⟨b, o, rfl, _, hj⟩ := hs hpos
    exact sharesFit_some b o n c w hn hj

/-- What zzBytes says when it says yes. -/
def Small (w : World) (b o : Nat) (k : Nat) : Prop := ∀ i, i < k → ∀ a n c, w.cell? ⟨b, o + i * 43 + 42, none⟩ = some (.slice a n c) → n ≤ 1048576
def BytesPost (w : World) (b o n : Nat) (e : Ending) (w' : World) : Prop := (∃ ok : Bool, e = .returned (.bool ok) ∧ (ok = true → n ≤ 1048576 ∧ Small w b o n)) ∧ w' = w
theorem BytesPost.no {w : World} {b o n : Nat} : BytesPost w b o n (.returned (.bool false)) w := ⟨⟨false, rfl, fun h => by cases h⟩, rfl⟩

theorem BytesPost.yes {w : World} {b o n k : Nat} (hk : k ≤ n) (hkn : ¬ k < n) (hn : (n : Int) ≤ 1048576) (hs : Small w b o k) : BytesPost w b o n (.returned (.bool true)) w := by
  have : k = n := by omega
  subst this
  exact ⟨⟨true, rfl, fun _ => ⟨by omega, hs⟩⟩, rfl⟩
theorem Small.next {w : World} {b o k : Nat} (h : Small w b o k) {a : Option Addr} {n c : Nat} (hc : w.cell? ⟨b, o + k * 43 + 42, none⟩ = some (.slice a n c)) (hn : (n : Int) ≤ 1048576) : Small w b o (k + 1) := by
  intro i hi a' n' c' h'
  by_cases e : i = k
  · subst e
    rw [hc] at h'
    injection h' with h'
    injection h' with _ h' _
    omega
  · exact h i (by omega) a' n' c' h'

set_option maxRecDepth 100000 in
set_option maxHeartbeats 1000000 in
theorem bytes_some (b o n c : Nat) (w : World) (hn : n ≤ maxLen) (hp : ∀ j, j < n → ShareAt w b (o + j * 43)) :
    Calls Try.prog 11 #[.slice (some ⟨b, o, none⟩) n c] w (BytesPost w b o n) := by
  unfold maxLen at hn
  by_cases hn1 : (1048576 : Int) < n
  · go_enter Try.func11, Try.ntmps11
    go_wp2
    go_ret
    exact BytesPost.no
  go_enter Try.func11, Try.ntmps11
  go_wp2
  go_loop [3, 4, 5] (fun z i _ => ∃ (r : Int) (k : Nat), 0 ≤ r ∧ r ≤ 1048576 ∧ z = .int .i64 r ∧ i = .int .i64 k ∧ k ≤ n ∧ Small w b o k) (fun _ i _ => n - (intOf i).toNat)
  case atStart => exact ⟨n, 0, by omega, by omega, rfl, rfl, Nat.zero_le _, fun i h => by omega⟩
  case round =>
    obtain ⟨r, k, hr0, hr1, rfl, rfl, hk, hsm⟩ := hrel
    by_cases hkn : k < n
    · obtain ⟨ha, hl, hc, hcell, hpin⟩ := (hp k hkn).holders
      by_cases h1 : 1048576 < r + 20
      · go_wp2
        go_ret
        exact BytesPost.no
      by_cases h2 : 1048576 < r + 20 + 20
      · go_wp2
        go_ret
        exact BytesPost.no
      by_cases h3 : (1048576 : Int) < hl
      · go_wp2
        go_ret
        exact BytesPost.no
      by_cases h4 : 1048576 < r + 20 + 20 + hl
      · go_wp2
        go_ret
        exact BytesPost.no
      have HS : Hid (Small w b o (k + 1)) := hsm.next hcell (by omega)
      clear hsm
      rcases Nat.eq_zero_or_pos hl with rfl | hpos
      · go_wp2
        go_loop [3, 5] (fun z j => ∃ r' : Int, 0 ≤ r' ∧ r' ≤ 1048576 ∧ z = .int .i64 r' ∧ j = .int .i64 0) (fun _ _ => 0)
        case atStart => exact ⟨_, by omega, by omega, rfl, rfl⟩
        case round =>
          obtain ⟨r', hq0, hq1, rfl, rfl⟩ := hrel
          go_wp2
          go_round
          case rel => exact ⟨r', k + 1, hq0, hq1, rfl, by go_num, by omega, HS.out⟩
          case measure => simp [intOf]; omega
      · obtain ⟨hlm, _, hq⟩ := hpin
        obtain ⟨hb, ho, rfl, _, hpj⟩ := hq hpos
        unfold maxLen at hlm
        go_wp2
        go_loop [3, 5] (fun z j => ∃ (r' : Int) (m : Nat), 0 ≤ r' ∧ r' ≤ 1048576 ∧ z = .int .i64 r' ∧ j = .int .i64 m ∧ m ≤ hl) (fun _ j => hl - (intOf j).toNat)
        case atStart => exact ⟨_, 0, by omega, by omega, rfl, rfl, Nat.zero_le _⟩
        case round =>
          obtain ⟨r', m, hq0, hq1, rfl, rfl, hm⟩ := hrel
          by_cases hml : m < hl
          · obtain ⟨⟨s, hs, hsc⟩, _⟩ := hpj m hml
            unfold maxLen at hs
            by_cases h5 : (1048576 : Int) < s.size
            · go_wp2
              go_ret
              exact BytesPost.no
            by_cases h6 : 1048576 < r' + s.size
            · go_wp2
              go_ret
              exact BytesPost.no
            by_cases h7 : 1048576 < r' + s.size + 20
            · go_wp2
              go_ret
              exact BytesPost.no
            go_wp2
            go_round
            case rel => exact ⟨r' + s.size + 20, m + 1, by omega, by omega, rfl, by go_num, by omega⟩
            case measure => simp [intOf]; omega
          · go_wp2
            go_round
            case rel => exact ⟨r', k + 1, hq0, hq1, rfl, by go_num, by omega, HS.out⟩
            case measure => simp [intOf]; omega
    · go_wp2
      go_ret
      exact BytesPost.yes hk hkn hn1 hsm

theorem bytes_zero (a : Option Addr) (c : Nat) (w : World) : Calls Try.prog 11 #[.slice a 0 c] w (BoolPost w) := by
  go_enter Try.func11, Try.ntmps11
  go_wp2
  go_loop [3, 4, 5] (fun z i _ => ∃ r : Int, 0 ≤ r ∧ r ≤ 1048576 ∧ z = .int .i64 r ∧ i = .int .i64 0) (fun _ _ _ => 0)
  case atStart => exact ⟨_, by omega, by omega, rfl, rfl⟩
  case round =>
    obtain ⟨r, hr0, hr1, rfl, rfl⟩ := hrel
    go_wp2
    go_ret
    exact ⟨⟨_, rfl⟩, rfl⟩
end Go.Proofs.Qxb6608829a
