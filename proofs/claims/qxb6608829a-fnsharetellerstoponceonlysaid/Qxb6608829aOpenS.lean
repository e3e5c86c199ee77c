import Derived.Test.Qxb6608829aOpen
import Derived.Test.Qxb6608829aMake
import Derived.Deep.Slices
namespace Go.Proofs.Qxb6608829a
open Go.ChangeShapes Go.WideShapes Go.ChangeAt Go.RowKit Go.Deep
set_option linter.unusedVariables false
set_option linter.unusedSimpArgs false
theorem Try.cells9 : Try.prog.cellsOf 9 = 1 := by kernel_rfl
theorem Try.cells3 : Try.prog.cellsOf 3 = 1 := by kernel_rfl
theorem Try.cells4 : Try.prog.cellsOf 4 = 1 := by kernel_rfl
theorem Try.cells32 : Try.prog.cellsOf 32 = 1 := by kernel_rfl
theorem Try.cells48 : Try.prog.cellsOf 48 = 21 := by kernel_rfl
theorem Try.cells34 : Try.prog.cellsOf 34 = 43 := by kernel_rfl

section
variable {H : Type} {enc : TypeId × Value → H} {w : World} {base : Nat} {spare : Nat → Bool} {held : Bool}

theorem piece {cs l : List Value} {o n : Nat} (h : (cs.drop o).take n = l) (j : Nat) (v : Value) (hv : l[j]? = some v) : cs[o + j]? = some v := by
  rw [← h, List.getElem?_take] at hv
  split at hv
  · rwa [List.getElem?_drop] at hv
  · cases hv

theorem open_bytes {fuel : Nat} {cs : List Value} {x : DataW H × List MemPlace} (h : DataW.trod enc Try.prog w base spare held fuel 22 cs = some x) : ∃ xs : List Int, xs.length = 20 ∧ cs = xs.map (Value.int .u8) := by
  obtain ⟨ys, m, _, _, hlen, hn, hi⟩ := DataW.trod_array Try.underlying22 h
  rw [Try.cells22] at hlen
  have key : ∀ i, i < 20 → ∃ n : Int, cs[i]? = some (.int .u8 n) := by
    intro i hi'
    have h1 := hi i hi'
    obtain ⟨y, hy⟩ : ∃ y, ys[i]? = some y := ⟨ys[i], List.getElem?_eq_getElem (by omega)⟩
    rw [hy, Try.cells5] at h1
    obtain ⟨n, hc, _, hw⟩ := DataW.trod_int Try.underlying5 h1
    exact ⟨n, by simpa using piece hc 0 _ rfl⟩
  have : ∃ f : Nat → Int, ∀ i, i < 20 → cs[i]? = some (.int .u8 (f i)) := by
    refine ⟨fun i => if h : i < 20 then Classical.choose (key i h) else 0, fun i h => ?_⟩
    simp only [h, dif_pos]
    exact Classical.choose_spec (key i h)
  obtain ⟨f, hf'⟩ := this
  refine ⟨(List.range 20).map f, by simp, ?_⟩
  apply List.ext_getElem?
  intro i
  by_cases hi' : i < 20
  · rw [hf' i hi']; simp [hi']
  · rw [List.getElem?_eq_none (by omega), List.getElem?_eq_none (by simp; omega)]

/-- The cells of an element of a slice. -/
theorem cells_mid {b o i sz : Nat} {cs : List Value} (h : w.cells? base ((⟨b, o, none⟩ : Addr).add (i * sz)) sz = some cs) : cs.length = sz ∧ ∀ j v, cs[j]? = some v → w.cell? ⟨b, o + i * sz + j, none⟩ = some v := by
  obtain ⟨_, hl, hc⟩ := World.cells?_some h
  refine ⟨hl, fun j v hv => ?_⟩
  have hj : j < sz := by have := (List.getElem?_eq_some_iff.1 hv).1; omega
  have := hc j hj
  rw [Addr.add_mid, Addr.add_mid, hv] at this
  exact this
theorem lt_of_cell {a : Addr} {v : Value} (h : w.cell? a = some v) : a.block < w.heap.size := by
  apply Classical.byContradiction
  intro hn
  have : w.heap[a.block]? = none := Array.getElem?_eq_none (by omega)
  simp [World.cell?, this] at h
/-- The address of a slice whose first element has cells is plain. -/
theorem plain_addr {a : Addr} {sz : Nat} {cs : List Value} (h : w.cells? base (a.add (0 * sz)) sz = some cs) (hsz : 0 < sz) : (∃ b o, a = ⟨b, o, none⟩) ∧ a.block < w.heap.size := by
  obtain ⟨_, hl, hc⟩ := World.cells?_some h
  have h0 := hc 0 hsz
  rw [List.getElem?_eq_getElem (by omega)] at h0
  have hs := World.cell?_spot h0
  have hb := lt_of_cell h0
  rcases a with ⟨b, o, sp⟩
  simp [Addr.add] at hs hb
  subst hs
  exact ⟨⟨b, o, rfl⟩, hb⟩

theorem open_peers {fuel : Nat} {cs : List Value} {x : DataW H × List MemPlace} (h : DataW.trod enc Try.prog w base spare held fuel 32 cs = some x) : ∃ a n c, cs = [.slice a n c] ∧ PeersIn w a n := by
  rcases open_slice Try.underlying32 h with ⟨rfl, _⟩ | ⟨a, len, cap, m, n, D, Pl, rfl, hb, hl, hm, hmm, _, hx⟩
  · exact ⟨none, 0, 0, rfl, by simp, fun _ => rfl, fun h => by omega⟩
  · refine ⟨some a, len, cap, rfl, by omega, fun h => (by cases h), fun hpos => ?_⟩
    rw [Try.cells48] at hx
    have hlm : len ≤ m := by rw [hmm]; split <;> omega
    obtain ⟨cs0, h0, _⟩ := hx 0 (by omega)
    obtain ⟨⟨b, o, rfl⟩, hbs⟩ := plain_addr h0 (by omega)
    refine ⟨b, o, rfl, hbs, fun j hj => ?_⟩
    obtain ⟨cs', h1, h2⟩ := hx j (by omega)
    obtain ⟨hlen, hcell⟩ := cells_mid h1
    obtain ⟨xs, k, _, _, _, hxl, hf⟩ := DataW.trod_struct Try.underlying48 h2
    have f0 : DataW.trod enc Try.prog w base spare held k 9 ((cs'.drop 0).take (Try.prog.cellsOf 9)) = xs[0]? := hf 0 _ rfl
    have f1 : DataW.trod enc Try.prog w base spare held k 22 ((cs'.drop 1).take (Try.prog.cellsOf 22)) = xs[1]? := hf 1 _ rfl
    rw [Try.cells9] at f0
    rw [Try.cells22] at f1
    have hxl' : xs.length = 2 := hxl
    obtain ⟨y0, hy0⟩ : ∃ y, xs[0]? = some y := ⟨xs[0], List.getElem?_eq_getElem (by omega)⟩
    obtain ⟨y1, hy1⟩ : ∃ y, xs[1]? = some y := ⟨xs[1], List.getElem?_eq_getElem (by omega)⟩
    rw [hy0] at f0
    rw [hy1] at f1
    obtain ⟨s, hs, _, hsz⟩ := DataW.trod_string Try.underlying9 f0
    obtain ⟨ys, hyl, hys⟩ := open_bytes f1
    exact ⟨⟨s, hsz, by simpa using hcell 0 _ (by simpa using piece hs 0 _ rfl)⟩, ⟨ys, hyl, fun q v hv => by
      have := hcell _ v (piece hys q v hv)
      rw [← Nat.add_assoc] at this
      exact this⟩⟩

theorem i64_of_wf {n : Int} (h : (Lit.int .i64 n).wf = true) : -9223372036854775808 ≤ n ∧ n ≤ 9223372036854775807 := by
  simp [Lit.wf, IntKind.min, IntKind.max, IntKind.signed, IntKind.bits] at h
  omega

theorem open_shares {fuel : Nat} {cs : List Value} {x : DataW H × List MemPlace} (h : DataW.trod enc Try.prog w base spare held fuel 29 cs = some x) : ∃ a n c, cs = [.slice a n c] ∧ SharesIn w a n := by
  rcases open_slice Try.underlying29 h with ⟨rfl, _⟩ | ⟨a, len, cap, m, n, D, Pl, rfl, hb, hl, hm, hmm, _, hx⟩
  · exact ⟨none, 0, 0, rfl, by simp, fun _ => rfl, fun h => by omega⟩
  · refine ⟨some a, len, cap, rfl, by omega, fun h => (by cases h), fun hpos => ?_⟩
    rw [Try.cells34] at hx
    have hlm : len ≤ m := by rw [hmm]; split <;> omega
    obtain ⟨cs0, h0, _⟩ := hx 0 (by omega)
    obtain ⟨⟨b, o, rfl⟩, hbs⟩ := plain_addr h0 (by omega)
    refine ⟨b, o, rfl, hbs, fun j hj => ?_⟩
    obtain ⟨cs', h1, h2⟩ := hx j (by omega)
    obtain ⟨hlen, hcell⟩ := cells_mid h1
    obtain ⟨xs, k, _, _, _, hxl, hf⟩ := DataW.trod_struct Try.underlying34 h2
    have f0 : DataW.trod enc Try.prog w base spare held k 3 ((cs'.drop 0).take (Try.prog.cellsOf 3)) = xs[0]? := hf 0 _ rfl
    have f1 : DataW.trod enc Try.prog w base spare held k 4 ((cs'.drop 1).take (Try.prog.cellsOf 4)) = xs[1]? := hf 1 _ rfl
    have f2 : DataW.trod enc Try.prog w base spare held k 22 ((cs'.drop 2).take (Try.prog.cellsOf 22)) = xs[2]? := hf 2 _ rfl
    have f3 : DataW.trod enc Try.prog w base spare held k 22 ((cs'.drop 22).take (Try.prog.cellsOf 22)) = xs[3]? := hf 3 _ rfl
    have f4 : DataW.trod enc Try.prog w base spare held k 32 ((cs'.drop 42).take (Try.prog.cellsOf 32)) = xs[4]? := hf 4 _ rfl
    rw [Try.cells3] at f0
    rw [Try.cells4] at f1
    rw [Try.cells22] at f2 f3
    rw [Try.cells32] at f4
    have hxl' : xs.length = 5 := hxl
    rw [List.getElem?_eq_getElem (by omega)] at f0 f1 f2 f3 f4
    obtain ⟨pt, e0, _, hw0⟩ := DataW.trod_int Try.underlying3 f0
    obtain ⟨ow, e1, _⟩ := DataW.trod_bool Try.underlying4 f1
    obtain ⟨fr, frl, e2⟩ := open_bytes f2
    obtain ⟨to, tol, e3⟩ := open_bytes f3
    obtain ⟨ha, hl4, hc4, e4, hp4⟩ := open_peers f4
    refine ⟨⟨pt, by simpa using hcell 0 _ (by simpa using piece e0 0 _ rfl), i64_of_wf hw0⟩, ⟨ow, by simpa using hcell 1 _ (by simpa using piece e1 0 _ rfl)⟩,
      ⟨fr, frl, fun q v hv => ?_⟩, ⟨to, tol, fun q v hv => ?_⟩, ⟨ha, hl4, hc4, by simpa using hcell 42 _ (by simpa using piece e4 0 _ rfl), hp4⟩⟩
    · have := hcell _ v (piece e2 q v hv)
      rw [← Nat.add_assoc] at this
      exact this
    · have := hcell _ v (piece e3 q v hv)
      rw [← Nat.add_assoc] at this
      exact this
end
end Go.Proofs.Qxb6608829a
