import Derived.Test.Qxb6608834aTol2
import Derived.Maps.OwnOps
import Derived.Maps.Own
import Derived.StringKeys
namespace Go.Proofs.Qxb6608834a
open Go.RowKit Go.Maps Go.WideMaps
set_option linter.unusedVariables false
set_option linter.unusedSimpArgs false

/-! ### the map {"cpu": v} -/
theorem law9 : Keyed Try.prog 9 := string_keyed Try.underlying9
theorem zero2 (w : World) : (zeroValue 2).run Try.prog w = .ok (.int .i64 0) w := by kernel_rfl
def cpu : ByteArray := ⟨#[99, 112, 117]⟩
theorem key_cpu : keyOf Try.prog 9 (.string ⟨#[99, 112, 117]⟩) = some (.string [99, 112, 117]) := keyOf_string_mk Try.underlying9 (by simp [Go.maxLen, ByteArray.size])
def cpuD (v : Int) : DataW Unit := (DataW.map []).put (.string [99, 112, 117]) (.lit (.int .i64 v))
/-- Block m is the map {"cpu": v}. -/
def CpuMap (w : World) (m : Nat) (v : Int) : Prop := w.ownsMap Try.prog 9 (plainElem Try.prog 2) m 1 (cpuD v)
theorem CpuMap.same {w w' : World} {m : Nat} {v : Int} (h : CpuMap w m v) (e : w'.heap[m]? = w.heap[m]?) : CpuMap w' m v := by
  obtain ⟨es, clock, hb, r⟩ := h
  exact ⟨es, clock, by rw [e]; exact hb, r⟩
theorem CpuMap.lt {w : World} {m : Nat} {v : Int} (h : CpuMap w m v) : m < w.heap.size := World.ownsMap.lt h
theorem CpuMap.look {w : World} {m : Nat} {v : Int} (h : CpuMap w m v) : (Instr.lookup 40 (.map (some m)) (.string ⟨#[99, 112, 117]⟩) false).run Try.prog w = .ok (.int .i64 v) w := by
  obtain ⟨c, hrun, hat, _⟩ := World.ownsMap.lookup_int h law9 Try.underlying40 Try.underlying2 (zero2 w) key_cpu
  have : c = v := by
    simp [cpuD, DataW.put, DataW.atKey, DataW.insert, Lit.sameKey] at hat
    exact hat.symm
  subst this
  exact hrun
def I64 (v : Int) : Prop := -9223372036854775808 ≤ v ∧ v ≤ 9223372036854775807
theorem wf_of {v : Int} (h : I64 v) : (Lit.int .i64 v).wf = true := by
  unfold I64 at h
  simp [Lit.wf, IntKind.min, IntKind.max, IntKind.signed, IntKind.bits]
  omega
theorem CpuMap.made (w : World) (v : Int) (hv : I64 v) : ∃ w', (Instr.mapUpdate 40 (.map (some w.heap.size)) (.string ⟨#[99, 112, 117]⟩) (.int .i64 v)).run Try.prog (w.alloc (.map #[] 0)) = .ok () w' ∧ CpuMap w' w.heap.size v ∧ Below w.heap.size w w' := by
  obtain ⟨w', h1, h2, h3⟩ := (World.ownsMap_made (H := Unit) w Try.prog 9 (plainElem Try.prog 2)).update law9 Try.underlying40 (by simp [Go.maxLen]) key_cpu (plainElem_int Try.underlying2 (wf_of hv))
  refine ⟨w', h1, h2, ?_⟩
  exact (below1 w _).grown h3 (by simp) (fun j hj => by cases hj; exact Nat.le_refl _)

set_option maxHeartbeats 400000 in
theorem zzcpu_any (b o m : Nat) (v : Int) (w : World) (hc : w.cell? ⟨b, o + 1, none⟩ = some (.map (some m))) (hm : CpuMap w m v) : Calls Try.prog 34 #[.pointer (some ⟨b, o, none⟩)] w fun e w' => e = .returned (.int .i64 v) ∧ w' = w := by
  have hl := hm.look
  clear hm
  go_enter Try.func34, Try.ntmps34
  go_wp2
  go_ret
  exact ⟨rfl, rfl⟩

def mx : Int := 9223372036854775807
theorem addSat_any (a b : Int) (ha : 0 ≤ a) (ha' : a ≤ mx) (hb : 0 ≤ b) (hb' : b ≤ mx) (w : World) : Calls Try.prog 37 #[.int .i64 a, .int .i64 b] w fun e w' => e = .returned (.int .i64 (min (a + b) mx)) ∧ w' = w := by
  unfold mx at *
  by_cases h : a + b ≤ 9223372036854775807
  · rw [show min (a + b) 9223372036854775807 = a + b by omega]
    go_enter Try.func37, Try.ntmps37
    go_wp2
    all_goals go_ret
    all_goals exact ⟨ret_int (by omega), rfl⟩
  · rw [show min (a + b) 9223372036854775807 = 9223372036854775807 by omega]
    go_enter Try.func37, Try.ntmps37
    go_wp2
    all_goals go_ret
    all_goals exact ⟨ret_int (by omega), rfl⟩
theorem lawMax_any (a b : Int) (w : World) : Calls Try.prog 12 #[.int .i64 a, .int .i64 b] w fun e w' => e = .returned (.int .i64 (max a b)) ∧ w' = w := by
  go_enter Try.func12, Try.ntmps12
  go_wp2
  all_goals go_ret
  all_goals exact ⟨ret_int (by omega), rfl⟩
end Go.Proofs.Qxb6608834a
