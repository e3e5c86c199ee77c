import Derived.Test.Qxb6608829aLaw4
import Derived.Deep.RegionHeld3
import Derived.StillTactics
import Derived.Laws.Pointers
namespace Go.Proofs.Qxb6608829a
open Go.RowKit
set_option linter.unusedVariables false
set_option linter.unusedSimpArgs false

def agL (xs : List Int) : List Value := xs.map (Value.int .u8)
theorem agL_length (xs : List Int) : (agL xs).length = xs.length := by simp [agL]
theorem agL_one (xs : List Int) : ∀ v ∈ agL xs, v.oneCell' = true := by
  intro v hv
  simp only [agL, List.mem_map] at hv
  obtain ⟨a, _, rfl⟩ := hv
  rfl
theorem ag_agL (xs : List Int) : (agL xs).toArray = ag xs := rfl

theorem RowAt.range' {w : World} {b : Nat} {t : TypeId} {xs : List Int} (h : RowAt w b t xs) : w.rangeAt b 0 (agL xs) := h.range
/-- A load of a whole array may be taken first where S says what lies there. -/
theorem yields22 {ops : Array Oper} {S : World → Prop} {op : Oper} {a : Act} (hw : Region.wanted op (yielded ops a.tmps) = true) (x : Operand) (ho : op.op = .load 22 x)
    (b : Nat) (hx : a.eval x = .pointer (some ⟨b, 0, none⟩)) (t : TypeId) (xs : List Int) (hl : xs.length = 20) (hS : ∀ w, S w → RowAt w b t xs) : YieldsIf Try.prog ops S op (.agg (ag xs)) a :=
  yieldsIf_load_mid hw 22 x ho b 0 hx (agL xs) _ (fun w h => (hS w h).range') Try.underlying22 rfl (by rw [Try.size22, agL_length, hl])
/-- What the region of rankFrom needs of a world. -/
def HeldR (w0 w : World) (os xs : List Int) : Prop := RowAt w w0.heap.size 22 os ∧ RowAt w (w0.heap.size + 1) 22 xs ∧ (∃ zs, zs.length = 20 ∧ RowAt w (w0.heap.size + 1 + 1) 22 zs) ∧ RowAt w (w0.heap.size + 1 + 1 + 1) 22 one20 ∧ Below w0.heap.size w0 w
theorem HeldR.drew {w0 w : World} {os xs : List Int} (h : HeldR w0 w os xs) : HeldR w0 w.drew os xs := ⟨h.1.drew, h.2.1.drew, h.2.2.1, h.2.2.2.1, h.2.2.2.2.drew⟩
theorem HeldR.store {w0 w : World} {os xs : List Int} (h : HeldR w0 w os xs) (ys : List Int) (hy : ys.length = 20) : HeldR w0 (w.setCells (w0.heap.size + 1 + 1) 0 (ys.map (Value.int .u8))) os xs :=
  ⟨h.1.stored_oth (by omega) _ _, h.2.1.stored_oth (by omega) _ _, let ⟨zs, hz, hr⟩ := h.2.2.1; ⟨ys, hy, hr.stored (by omega)⟩, h.2.2.2.1.stored_oth (by omega) _ _, below_setCells (by omega) _ _ _ h.2.2.2.2⟩
theorem HeldR.next {w0 w w1 : World} {os xs : List Int} (h : HeldR w0 w os xs) (hb : Below w.heap.size w w1) : HeldR w0 w1 os xs :=
  ⟨h.1.below hb h.1.lt, h.2.1.below hb h.2.1.lt, let ⟨zs, hz, hr⟩ := h.2.2.1; ⟨zs, hz, hr.below hb hr.lt⟩, h.2.2.2.1.below hb h.2.2.2.1.lt, h.2.2.2.2.trans (hb.mono h.2.2.2.2.size)⟩

set_option maxRecDepth 100000 in
set_option maxHeartbeats 800000 in
theorem rank_any (os xs : List Int) (w : World) (ho : os.length = 20) (hx : xs.length = 20) (bo : Byts os) (bx : Byts xs) :
    Calls Try.prog 9 #[.agg (ag os), .agg (ag xs)] w fun e w' => ∃ ys zs, e = .returned (.agg (ag zs)) ∧ ys.length = 20 ∧ Byts ys ∧ zs.length = 20 ∧ Byts zs ∧ isSub (val xs) (val os) (val ys) ∧ isSub (val ys) 1 (val zs) ∧ Below w.heap.size w w' := by
  go_enter Try.func9, Try.ntmps9
  go_upto_region 3 with fail
  rw [ag_zero, ag_one_lit]
  obtain ⟨W0, hW0, r1, r2, r3, r4, hb0⟩ : ∃ W0, W0 = (((w.alloc (.cells (ag os) 22)).alloc (.cells (ag xs) 22)).alloc (.cells (ag z20) 22)).alloc (.cells (ag one20) 22) ∧ RowAt W0 w.heap.size 22 os ∧ RowAt W0 (w.heap.size + 1) 22 xs ∧ RowAt W0 (w.heap.size + 1 + 1) 22 z20 ∧ RowAt W0 (w.heap.size + 1 + 1 + 1) 22 one20 ∧ Below w.heap.size w W0 :=
    ⟨_, rfl, (((RowAt.new _ _ _ (by simp)).alloc _).alloc _).alloc _, ((RowAt.new _ _ _ (by simp)).alloc _).alloc _, (RowAt.new _ _ _ (by simp)).alloc _, RowAt.new _ _ _ (by simp), ((below2 _ _ _).alloc (by simp; omega) _).alloc (by simp; omega) _⟩
  rw [← hW0]
  clear hW0
  have hH : HeldR w W0 os xs := ⟨r1, r2, ⟨_, rfl, r3⟩, r4, hb0⟩
  clear r1 r2 r3 r4 hb0
  refine wp_region_noPanic ?_
  refine wp_region_held_drew (S := fun w' => HeldR w w' os xs) (by kernel_rfl) hH.drew (fun hHeld => ?_)
  refine wpAnyH_take (i := 0) (v := .agg (ag xs)) rfl (by kernel_rfl) (by kernel_rfl) (by kernel_rfl) (fun _ _ _ h => h) (yields22 (by rfl) _ rfl _ rfl 22 xs hx (fun w h => h.2.1)) hHeld ?_
  refine wpAnyH_take (i := 1) (v := .agg (ag os)) rfl (by kernel_rfl) (by kernel_rfl) (by kernel_rfl) (fun _ _ _ h => h) (yields22 (by rfl) _ rfl _ rfl 22 os ho (fun w h => h.1)) hHeld ?_
  refine wpAnyH_take (i := 3) (v := .agg (ag one20)) rfl (by kernel_rfl) (by kernel_rfl) (by kernel_rfl) (fun _ _ _ h => h) (yields22 (by rfl) _ rfl _ rfl 22 one20 rfl (fun w h => h.2.2.2.1)) hHeld ?_
  simp only [Act.put, List.setIfInBounds_toArray, List.set_cons_zero, List.set_cons_succ]
  refine wpAnyH_ready (rs := [2]) (by kernel_rfl) (by simp) ?_
  refine AllReadyH.cons rfl (fun K hK => ?_) AllReadyH.nil
  go_simp
  refine (sub20_any xs os _ hx ho bx bo).mono ?_
  rintro e w1 ⟨ys, rfl, hy, b1, hs1, hb1⟩
  refine hK.out _ _ (hHeld.next hb1) (fun hHeld1 => ?_)
  clear hK K hHeld hH hb1
  refine wpAnyH_ready (rs := [4]) (by kernel_rfl) (by simp) ?_
  refine AllReadyH.cons rfl (fun K hK => ?_) AllReadyH.nil
  go_simp
  refine (sub20_any ys one20 _ hy rfl b1 one_byts).mono ?_
  rintro e w2 ⟨zs, rfl, hz, b2, hs2, hb2⟩
  refine hK.out _ _ (hHeld1.next hb2) (fun hHeld2 => ?_)
  clear hK K hHeld1 hb2
  rw [val_one] at hs2
  refine wpAnyH_ready (rs := [5]) (by kernel_rfl) (by simp) ?_
  refine AllReadyH.cons rfl (fun K hK => ?_) AllReadyH.nil
  rw [if_pos (by rfl)]
  obtain ⟨us, hu, hru⟩ := hHeld2.2.2.1
  refine wp_store_mid 22 _ _ rfl (w.heap.size + 1 + 1) 0 (ag zs) rfl rfl (by rw [ag_size, hz, ← hu]; exact hru.there) (by rw [Try.size22, ag_size, hz]) (ag_oneCell _) ?_
  rw [ag_toList]
  refine hK.out _ _ (hHeld2.store zs hz) (fun hHeld3 => ?_)
  clear hK K
  refine wpAnyH_done (by kernel_rfl) ?_ _
  refine NoPanic.normal ?_
  go_wp2
  refine bodyPost_ret (v := .agg (ag zs)) (by exact results_arr rfl _ _ _ 22 us zs rfl hru hu hz) rfl ?_
  exact ⟨ys, zs, rfl, hy, b1, hz, b2, hs1, hs2, hHeld3.2.2.2.2⟩
end Go.Proofs.Qxb6608829a
