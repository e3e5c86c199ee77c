import Derived.Test.Qxb6608834aRows
import Derived.Test.Qxb6608834aTol
import Derived.ProofKit
import Derived.OpenShut
import Derived.ShutString
import Derived.ChangeOld
import Derived.Below
import Derived.Deep.Slices
namespace Go.Proofs.Qxb6608834a
open Go.ChangeShapes Go.WideShapes Go.ChangeAt Go.RowKit Go.Deep
set_option linter.unusedVariables false
set_option linter.unusedSimpArgs false

theorem Try.own : ownKnob Try.prog.godebug = none := by kernel_rfl
theorem Try.laidOut : laidOutB Try.prog = true := by kernel_rfl
theorem Try.cells9 : Try.prog.cellsOf 9 = 1 := by kernel_rfl
theorem Try.cells50 : Try.prog.cellsOf 50 = 3 := by kernel_rfl
theorem Try.cells52 : Try.prog.cellsOf 52 = 4 := by kernel_rfl

theorem len_le {n : Nat} (h : n ≤ Go.maxLen) : n ≤ 9223372036854775807 := by
  rw [Go.maxLen] at h
  omega
theorem len4 : ∀ {l : List Value}, l.length = 4 → ∃ a b c d, l = [a, b, c, d]
  | [a, b, c, d], _ => ⟨a, b, c, d, rfl⟩
theorem len3 : ∀ {l : List Value}, l.length = 3 → ∃ a b c, l = [a, b, c]
  | [a, b, c], _ => ⟨a, b, c, rfl⟩
theorem choose_fn {α : Type} (d : α) {P : Nat → α → Prop} {n : Nat} (h : ∀ j, j < n → ∃ t, P j t) : ∃ F : Nat → α, ∀ j, j < n → P j (F j) :=
  ⟨fun j => if h' : j < n then Classical.choose (h j h') else d, fun j hj => by simp only [hj, dif_pos]; exact Classical.choose_spec (h j hj)⟩

section
variable {H : Type} {enc : TypeId × Value → H} {w : World} {base : Nat} {spare : Nat → Bool} {held : Bool}

theorem piece {cs l : List Value} {o n : Nat} (h : (cs.drop o).take n = l) (j : Nat) (v : Value) (hv : l[j]? = some v) : cs[o + j]? = some v := by
  rw [← h, List.getElem?_take] at hv
  split at hv
  · rwa [List.getElem?_drop] at hv
  · cases hv
/-- The cells of an element of a slice. -/
theorem cells_mid {b o i sz : Nat} {cs : List Value} (h : w.cells? base ((⟨b, o, none⟩ : Addr).add (i * sz)) sz = some cs) : cs.length = sz ∧ ∀ j v, cs[j]? = some v → w.cell? ⟨b, o + i * sz + j, none⟩ = some v := by
  obtain ⟨_, hl, hc⟩ := World.cells?_some h
  refine ⟨hl, fun j v hv => ?_⟩
  have hj : j < sz := by have := (List.getElem?_eq_some_iff.1 hv).1; omega
  have := hc j hj
  rw [Addr.add_mid, Addr.add_mid, hv] at this
  exact this
/-- The address of a slice whose first element has cells is plain. -/
theorem plain_addr {a : Addr} {sz : Nat} {cs : List Value} (h : w.cells? base (a.add (0 * sz)) sz = some cs) (hsz : 0 < sz) : (∃ b o, a = ⟨b, o, none⟩) ∧ a.block < w.heap.size := by
  obtain ⟨_, hl, hc⟩ := World.cells?_some h
  have h0 := hc 0 hsz
  rw [List.getElem?_eq_getElem (by omega)] at h0
  have hs := World.cell?_spot h0
  have hb := lt_of_cell h0
  rcases a with ⟨b, o, sp⟩
  simp [Addr.add] at hs hb
  subst hs
  exact ⟨⟨b, o, rfl⟩, hb⟩

theorem open_rows {α : Type} (d : α) (L : α → List Value) (Q : α → Prop) (t e sz : Nat) (ht : Try.prog.underlying t = some (.slice e)) (hsz : Try.prog.cellsOf e = sz) (h0 : 0 < sz)
    (hrow : ∀ (fuel : Nat) (cs : List Value) (x : DataW H × List MemPlace), DataW.trod enc Try.prog w base spare held fuel e cs = some x → ∃ y, cs = L y ∧ Q y)
    {fuel : Nat} {cs : List Value} {x : DataW H × List MemPlace} (h : DataW.trod enc Try.prog w base spare held fuel t cs = some x) :
    ∃ a n c, ∃ F : Nat → α, cs = [.slice a n c] ∧ n ≤ c ∧ n ≤ 9223372036854775807 ∧ (a = none → n = 0) ∧ RowsIn w sz (fun j => L (F j)) a n ∧ ∀ j, j < n → Q (F j) := by
  rcases open_slice ht h with ⟨rfl, _⟩ | ⟨a, len, cap, m, n, D, Pl, rfl, hb, hl, hm, hmm, _, hx⟩
  · exact ⟨none, 0, 0, fun _ => d, rfl, by omega, by omega, fun _ => rfl, fun h => by omega, fun j hj => by omega⟩
  · have hlm : len ≤ m := by rw [hmm]; split <;> omega
    rw [hsz] at hx
    have hcap : len ≤ 9223372036854775807 := len_le (by omega)
    by_cases hpos : 0 < len
    · obtain ⟨cs0, h1, _⟩ := hx 0 (by omega)
      obtain ⟨⟨b, o, rfl⟩, hbs⟩ := plain_addr h1 h0
      obtain ⟨F, hF⟩ := choose_fn d (n := len) (P := fun j y => w.rangeAt b (o + j * sz) (L y) ∧ Q y) fun j hj => by
        obtain ⟨cs', h1, h2⟩ := hx j (by omega)
        obtain ⟨y, rfl, hQ⟩ := hrow _ _ _ h2
        obtain ⟨hlen, hcell⟩ := cells_mid h1
        exact ⟨y, fun q v hv => hcell q v hv, hQ⟩
      exact ⟨some ⟨b, o, none⟩, len, cap, F, rfl, hl, hcap, (fun h => by cases h), fun _ => ⟨b, o, rfl, hbs, fun j hj => (hF j hj).1⟩, fun j hj => (hF j hj).2⟩
    · exact ⟨some a, len, cap, fun _ => d, rfl, hl, hcap, (fun h => by cases h), fun h => by omega, fun j hj => by omega⟩

def TolQ (t : Tol) : Prop := t.key.size ≤ 9223372036854775807 ∧ t.op.size ≤ 9223372036854775807 ∧ t.val.size ≤ 9223372036854775807 ∧ t.eff.size ≤ 9223372036854775807
def TntQ (x : Tnt) : Prop := x.key.size ≤ 9223372036854775807 ∧ x.val.size ≤ 9223372036854775807 ∧ x.eff.size ≤ 9223372036854775807
theorem row_tol (fuel : Nat) (cs : List Value) (x : DataW H × List MemPlace) (h : DataW.trod enc Try.prog w base spare held fuel 52 cs = some x) : ∃ y, cs = ltolL y ∧ TolQ y := by
  obtain ⟨xs, k, _, _, hlen, hxl, hf⟩ := DataW.trod_struct Try.underlying52 h
  have f0 : DataW.trod enc Try.prog w base spare held k 9 ((cs.drop 0).take (Try.prog.cellsOf 9)) = xs[0]? := hf 0 _ rfl
  have f1 : DataW.trod enc Try.prog w base spare held k 9 ((cs.drop 1).take (Try.prog.cellsOf 9)) = xs[1]? := hf 1 _ rfl
  have f2 : DataW.trod enc Try.prog w base spare held k 9 ((cs.drop 2).take (Try.prog.cellsOf 9)) = xs[2]? := hf 2 _ rfl
  have f3 : DataW.trod enc Try.prog w base spare held k 9 ((cs.drop 3).take (Try.prog.cellsOf 9)) = xs[3]? := hf 3 _ rfl
  rw [Try.cells9] at f0 f1 f2 f3
  have hxl' : xs.length = 4 := hxl
  rw [List.getElem?_eq_getElem (by omega)] at f0 f1 f2 f3
  obtain ⟨s0, e0, _, z0⟩ := DataW.trod_string Try.underlying9 f0
  obtain ⟨s1, e1, _, z1⟩ := DataW.trod_string Try.underlying9 f1
  obtain ⟨s2, e2, _, z2⟩ := DataW.trod_string Try.underlying9 f2
  obtain ⟨s3, e3, _, z3⟩ := DataW.trod_string Try.underlying9 f3
  rw [Try.cells52] at hlen
  have p0 := piece e0 0 _ rfl
  have p1 := piece e1 0 _ rfl
  have p2 := piece e2 0 _ rfl
  have p3 := piece e3 0 _ rfl
  refine ⟨⟨s0, s1, s2, s3⟩, ?_, len_le z0, len_le z1, len_le z2, len_le z3⟩
  obtain ⟨c0, c1, c2, c3, rfl⟩ := len4 hlen
  simp at p0 p1 p2 p3
  subst p0 p1 p2 p3
  rfl
theorem row_tnt (fuel : Nat) (cs : List Value) (x : DataW H × List MemPlace) (h : DataW.trod enc Try.prog w base spare held fuel 50 cs = some x) : ∃ y, cs = tntL y ∧ TntQ y := by
  obtain ⟨xs, k, _, _, hlen, hxl, hf⟩ := DataW.trod_struct Try.underlying50 h
  have f0 : DataW.trod enc Try.prog w base spare held k 9 ((cs.drop 0).take (Try.prog.cellsOf 9)) = xs[0]? := hf 0 _ rfl
  have f1 : DataW.trod enc Try.prog w base spare held k 9 ((cs.drop 1).take (Try.prog.cellsOf 9)) = xs[1]? := hf 1 _ rfl
  have f2 : DataW.trod enc Try.prog w base spare held k 9 ((cs.drop 2).take (Try.prog.cellsOf 9)) = xs[2]? := hf 2 _ rfl
  rw [Try.cells9] at f0 f1 f2
  have hxl' : xs.length = 3 := hxl
  rw [List.getElem?_eq_getElem (by omega)] at f0 f1 f2
  obtain ⟨s0, e0, _, z0⟩ := DataW.trod_string Try.underlying9 f0
  obtain ⟨s1, e1, _, z1⟩ := DataW.trod_string Try.underlying9 f1
  obtain ⟨s2, e2, _, z2⟩ := DataW.trod_string Try.underlying9 f2
  rw [Try.cells50] at hlen
  have p0 := piece e0 0 _ rfl
  have p1 := piece e1 0 _ rfl
  have p2 := piece e2 0 _ rfl
  refine ⟨⟨s0, s1, s2⟩, ?_, len_le z0, len_le z1, len_le z2⟩
  obtain ⟨c0, c1, c2, rfl⟩ := len3 hlen
  simp at p0 p1 p2
  subst p0 p1 p2
  rfl
end
end Go.Proofs.Qxb6608834a
