/-
  Grow, AvailableBuffer, Write and String of a fresh buffer.
-/
import Derived.Test.YtlmhpmbgalmpgaaGreatDoorBf2
namespace Go.Proofs.YtlmhpmbgalmpgaaGreatDoor
open Go.RowKit

/-- A fresh buffer. -/
def Fresh0 (b : Nat) (w : World) : Prop := ∃ lr, w.heap[b]? = some (.cells #[.slice none 0 0, .int .i64 0, .int .i8 lr] 44 (0, 0))

theorem grown0_of {B b n : Nat} {w : World} (hB : B ≤ b) (h : Fresh0 b w) : Grown B b w (((w.drewN n).setCell ⟨b, 0, none⟩ (.slice none 0 0)).setCell ⟨b, 0, none⟩ (.slice none 0 0)) := by
  obtain ⟨lr, h⟩ := h
  have h1 : (w.drewN n).heap[b]? = some (.cells #[.slice none 0 0, .int .i64 0, .int .i8 lr] 44 (0, 0)) := h
  refine ⟨⟨.slice none 0 0, hB, lr, Lib.heap_setCell_same (i := 0) (Lib.heap_setCell_same (i := 0) h1 _) _, World.ownsRow_nil _ _ _ _, by simp [Value.ownBlock]⟩, ?_, ?_⟩
  · exact (Below.setCell (p := ⟨b, 0, none⟩) (Below.setCell (p := ⟨b, 0, none⟩) (⟨rfl, rfl, rfl, Nat.le_refl _, fun _ _ => rfl⟩ : Below B w (w.drewN n)) hB _) hB _)
  · exact Lib.grownBy_trans (Lib.grownBy_trans (⟨rfl, rfl, rfl, Nat.le_refl _, fun _ _ _ => rfl⟩ : w.grownBy (w.drewN n) (some b)) (Lib.grownBy_setCell _ b 0 _)) (Lib.grownBy_setCell _ b 0 _)

set_option maxRecDepth 100000 in
set_option maxHeartbeats 1000000 in
theorem growZ_any (B b : Nat) (w : World) (hB : B ≤ b) (h : Fresh0 b w) :
    Calls Tryz.prog 30 #[.pointer (some ⟨b, 0, none⟩), .int .i64 0] w fun e w' => e = .returned (.tuple #[]) ∧ Grown B b w w' := by
  have HG := fun n => Lib.hid (grown0_of (n := n) hB h)
  obtain ⟨lr, h⟩ := h
  have H := Lib.hid h
  have hc := fun n => Lib.cell_of_heap (Lib.heap_setCell_same (i := 0) (show (w.drewN n).heap[b]? = _ from h) (.slice none 0 0))
  have hf := fun n => Lib.frozen_of_heap (Lib.heap_setCell_same (i := 0) (show (w.drewN n).heap[b]? = _ from h) (.slice none 0 0))
  clear h
  go_enter Tryz.func30, Tryz.ntmps30
  go_wp2_with (go_at_call 45; refine (grow0_any b lr _ H.out).mono ?_; rintro e w1 ⟨rfl, n, rfl⟩; generalize hX : (w.drewN n).setCell ⟨b, 0, none⟩ (.slice none 0 0) = X at *; have c0 : X.cell? ⟨b, 0, none⟩ = some (.slice none 0 0) := (by rw [← hX]; exact (hc n 0)); have f0 : X.frozen? ⟨b, 0, none⟩ = false := (by rw [← hX]; exact hf n 0); have HX := Lib.hid hX; clear hX hc hf)
  go_end0
  have := (HG n).out
  rw [HX.out] at this
  exact ⟨rfl, this⟩

theorem grow_any (B b n : Nat) (hlim : n ≤ 140737488355328) (w : World) (hB : B ≤ b) (h : Fresh0 b w) :
    Calls Tryz.prog 30 #[.pointer (some ⟨b, 0, none⟩), .int .i64 n] w fun e w' => e = .returned (.tuple #[]) ∧ Grown B b w w' := by
  rcases Nat.eq_zero_or_pos n with h0 | h0
  · subst h0
    exact growZ_any B b w hB h
  · obtain ⟨lr, h⟩ := h
    exact growN_any B b n h0 hlim lr w hB h

set_option maxRecDepth 100000 in
set_option maxHeartbeats 1000000 in
theorem avail_any (B b : Nat) (v0 : Value) (w : World) (h : Avail B b w v0) :
    Calls Tryz.prog 31 #[.pointer (some ⟨b, 0, none⟩)] w fun e w' => e = .returned v0 ∧ ∃ n, w' = w.drewN n := by
  obtain ⟨lr, hbk, hc⟩ := h.cases
  clear h
  rcases hc with rfl | ⟨g, cap, rfl, hm⟩
  · have c0 : w.cell? ⟨b, 0, none⟩ = some (.slice none 0 0) := by rw [Lib.cell_of_heap hbk]; rfl
    clear hbk
    go_enter Tryz.func31, Tryz.ntmps31
    go_wp2
    go_region
    all_goals (go_wp2; go_ret; exact ⟨rfl, 1, rfl⟩)
  · have c0 : w.cell? ⟨b, 0, none⟩ = some (.slice (some ⟨g, 0, none⟩) 0 cap) := by rw [Lib.cell_of_heap hbk]; rfl
    unfold maxLen at hm
    clear hbk
    go_enter Tryz.func31, Tryz.ntmps31
    go_wp2
    go_region
    all_goals (go_wp2; go_ret; first | exact ⟨rfl, 1, rfl⟩ | exact ⟨by simp, 1, rfl⟩)

end Go.Proofs.YtlmhpmbgalmpgaaGreatDoor
