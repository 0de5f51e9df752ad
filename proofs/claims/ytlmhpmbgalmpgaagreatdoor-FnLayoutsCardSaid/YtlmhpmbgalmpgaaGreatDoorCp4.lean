/-
  impl.Compact.
-/
import Derived.Test.YtlmhpmbgalmpgaaGreatDoorCp3
namespace Go.Proofs.YtlmhpmbgalmpgaaGreatDoor
open Go.RowKit

/-- The empty fault. -/
def noFault : Value := .agg #[.int .i64 0, .int .i64 0, .string ⟨#[]⟩, .string ⟨#[]⟩, .string ⟨#[]⟩, .string ⟨#[]⟩]

/-- The block of a fault that is a result. -/
def FRow (f : Nat) (w : World) : Prop := w.heap[f]? = some (.cells #[.int .i64 0, .int .i64 0, .string ⟨#[]⟩, .string ⟨#[]⟩, .string ⟨#[]⟩, .string ⟨#[]⟩] 24 (0, 0))

theorem FRow.kept {f : Nat} {w w' : World} (h : FRow f w) (hb : w'.heap[f]? = w.heap[f]?) : FRow f w' := hb.trans h

theorem FRow.cells {f : Nat} {w : World} (h : FRow f w) :
    w.cell? ⟨f, 0, none⟩ = some (.int .i64 0) ∧ w.cell? ⟨f, 1, none⟩ = some (.int .i64 0) ∧ w.cell? ⟨f, 2, none⟩ = some (.string ⟨#[]⟩) ∧ w.cell? ⟨f, 3, none⟩ = some (.string ⟨#[]⟩) ∧ w.cell? ⟨f, 4, none⟩ = some (.string ⟨#[]⟩) ∧ w.cell? ⟨f, 5, none⟩ = some (.string ⟨#[]⟩) ∧
    w.frozen? ⟨f, 0, none⟩ = false ∧ w.frozen? ⟨f, 1, none⟩ = false ∧ w.frozen? ⟨f, 2, none⟩ = false ∧ w.frozen? ⟨f, 3, none⟩ = false ∧ w.frozen? ⟨f, 4, none⟩ = false ∧ w.frozen? ⟨f, 5, none⟩ = false := by
  unfold FRow at h
  exact ⟨by rw [Lib.cell_of_heap h]; rfl, by rw [Lib.cell_of_heap h]; rfl, by rw [Lib.cell_of_heap h]; rfl, by rw [Lib.cell_of_heap h]; rfl, by rw [Lib.cell_of_heap h]; rfl, by rw [Lib.cell_of_heap h]; rfl,
    Lib.frozen_of_heap h 0, Lib.frozen_of_heap h 1, Lib.frozen_of_heap h 2, Lib.frozen_of_heap h 3, Lib.frozen_of_heap h 4, Lib.frozen_of_heap h 5⟩

theorem below_six {B f : Nat} {w W : World} (hf : B ≤ f) (h : Below B w W) (v0 v1 v2 v3 v4 v5 : Value) :
    Below B w ((((((W.setCell ⟨f, 0, none⟩ v0).setCell ⟨f, 1, none⟩ v1).setCell ⟨f, 2, none⟩ v2).setCell ⟨f, 3, none⟩ v3).setCell ⟨f, 4, none⟩ v4).setCell ⟨f, 5, none⟩ v5) :=
  (((((h.setCell hf _).setCell hf _).setCell hf _).setCell hf _).setCell hf _).setCell hf _

/-- What impl.Compact comes to. -/
def Comped (s : ByteArray) (w : World) (e : Ending) (w' : World) : Prop :=
  Below w.heap.size w w' ∧
  (Js.acc Js.init s.data.toList = true → e = .returned (.tuple #[.string ⟨(Js.comp Js.init s.data.toList).toArray⟩, noFault, .bool true])) ∧
  (Js.acc Js.init s.data.toList = false → ∃ v, IsFault v 1 ∧ e = .returned (.tuple #[.string ⟨#[]⟩, v, .bool false]))

/-- What is laid ahead of the call. -/
structure Laid3 (w W : World) (s : ByteArray) (c : Nat) : Prop where
  fresh : Fresh0 (w.heap.size + 1) W
  src : Src2 W (w.heap.size + 2) s.data.toList
  frow : FRow w.heap.size W
  below : Below w.heap.size w W
  cap : s.size ≤ c
  max : c ≤ maxLen

theorem laid3_of (w : World) (s : ByteArray) (hs : s.size ≤ 100000000000) (W0 : World) (hW0 : W0 = (w.alloc (.cells #[.int .i64 0, .int .i64 0, .string ⟨#[]⟩, .string ⟨#[]⟩, .string ⟨#[]⟩, .string ⟨#[]⟩] 24)).alloc (.cells #[.slice none 0 0, .int .i64 0, .int .i8 0] 44)) :
    ∃ W c, (convert 9 40 (.string s)).run Tryz.prog W0 = .ok (.slice (some ⟨w.heap.size + 2, 0, none⟩) s.size c) W ∧ Laid3 w W s c := by
  subst hW0
  generalize hW1 : w.alloc (.cells #[.int .i64 0, .int .i64 0, .string ⟨#[]⟩, .string ⟨#[]⟩, .string ⟨#[]⟩, .string ⟨#[]⟩] 24) = W1
  have z1 : W1.heap.size = w.heap.size + 1 := by rw [← hW1]; simp
  have b1 : Below w.heap.size w W1 := by rw [← hW1]; exact (Below.refl _ w).alloc (Nat.le_refl _) _
  have f1 : FRow w.heap.size W1 := by rw [← hW1]; exact heap_alloc_new w _
  generalize hW2 : W1.alloc (.cells #[.slice none 0 0, .int .i64 0, .int .i8 0] 44) = W2
  have z2 : W2.heap.size = w.heap.size + 2 := by rw [← hW2]; simp [z1]
  have b2 : Below w.heap.size w W2 := by rw [← hW2]; exact b1.alloc (by omega) _
  have f2 : FRow w.heap.size W2 := by rw [← hW2]; exact (Below.heap_alloc W1 _ _ (by omega)).trans f1
  have h2 : Fresh0 (w.heap.size + 1) W2 := ⟨0, by rw [← hW2, ← z1]; exact heap_alloc_new W1 _⟩
  have hc := run_bytes_of_string (P := Tryz.prog) W2 9 40 5 s Tryz.underlying9 Tryz.underlying40 Tryz.underlying5
  have hcg := grownCap_ge W2 s.size 0 5
  have hcm := grownCap_le_maxLen W2 s.size 0 5 (by unfold maxLen; omega)
  generalize grownCap W2 s.size 0 5 = c at hc hcg hcm
  rw [z2] at hc
  refine ⟨_, c, hc, ?_, ?_, ?_, ?_, hcg, hcm⟩
  · obtain ⟨lr, h⟩ := h2
    exact ⟨lr, (Below.heap_alloc W2.drew _ _ (Lib.lt_of_heap h)).trans h⟩
  · rw [← z2]
    exact src_made' W2.drew s c
  · exact (Below.heap_alloc W2.drew _ _ (by show w.heap.size < W2.heap.size; omega)).trans f2
  · exact (b2.drew).alloc (by show w.heap.size ≤ W2.heap.size; omega) _

set_option maxRecDepth 100000 in
set_option maxHeartbeats 4000000 in
theorem icompact_big (s : ByteArray) (hs : s.size ≤ 100000000000) (w : World) :
    Calls Tryz.prog 7 #[.string s] w (Comped s w) := by
  obtain ⟨W, c, hc, hL⟩ := laid3_of w s hs _ rfl
  have hlen : s.data.toList.length = s.size := by simp
  have HJ := jcompact_any (w.heap.size + 1) (w.heap.size + 1) (w.heap.size + 2) c s.data.toList (by rw [hlen]; exact hs) W (Nat.le_refl _) hL.fresh hL.src (by omega) (by rw [hlen]; exact hL.cap) hL.max
  rw [hlen] at HJ
  have HV := Lib.hid HJ
  have HL := Lib.hid hL
  clear HJ hL hlen
  cases hacc : Js.acc Js.init s.data.toList with
  | true =>
    have HACC := Lib.hid hacc
    clear hacc
    go_enter Tryz.func7, Tryz.ntmps7
    go_wp2_with (first
      | (go_at_call 17; refine HV.out.mono ?_; rintro e w2 ⟨hb2, hy, -⟩; obtain ⟨rfl, hI⟩ := hy HACC.out; have HI := Lib.hid hI; have HB2 := Lib.hid hb2; have hrow := (HL.out.frow.kept (HB2.out.block w.heap.size (Nat.lt_succ_self _))).cells; obtain ⟨q0, q1, q2, q3, q4, q5, r0, r1, r2, r3, r4, r5⟩ := hrow; clear hI hb2 hy)
      | (go_at_call 19; refine (Tryz.Buffer_String (w.heap.size + 1) (w.heap.size + 1) _ _ HI.out).mono ?_; rintro e w3 ⟨rfl, n, rfl⟩))
    refine bodyPost_ret (v := .tuple #[.string ⟨(Js.comp Js.init s.data.toList).toArray⟩, noFault, .bool true]) (by simp [results, Tryz.results7, go_sem, noFault, q0, q1, q2, q3, q4, q5]) rfl ?_
    refine ⟨?_, fun _ => rfl, fun h => (nomatch (HACC.out.symm.trans h : true = false))⟩
    exact below_six (Nat.le_refl _) ((HL.out.below.trans (HB2.out.mono (Nat.le_succ _))).trans (drewN_below _ n w2)) _ _ _ _ _ _
  | false =>
    have HACC := Lib.hid hacc
    clear hacc
    go_enter Tryz.func7, Tryz.ntmps7
    go_wp2_with (first
      | (go_at_call 17; refine HV.out.mono ?_; rintro e w2 ⟨hb2, -, hno⟩; obtain ⟨p, rfl, hp⟩ := hno HACC.out; have HP := Lib.hid hp; have HB2 := Lib.hid hb2; clear hp hb2 hno)
      | (go_at_call 18; refine (fault_any p _ HP.out).mono ?_; rintro e w3 ⟨⟨v, rfl, nn, rfl⟩, hb3⟩; have HB3 := Lib.hid hb3; have hr2 := HL.out.frow.kept (HB2.out.block w.heap.size (Nat.lt_succ_self _)); have hrow := (hr2.kept (HB3.out.block w.heap.size (Lib.lt_of_heap hr2))).cells; obtain ⟨q0, q1, q2, q3, q4, q5, r0, r1, r2, r3, r4, r5⟩ := hrow; clear hb3 hr2))
    refine bodyPost_ret (v := .tuple #[.string ⟨#[]⟩, .agg #[.int .i64 1, .int .i64 nn, .string ⟨#[]⟩, .string ⟨#[]⟩, .string ⟨#[]⟩, .string ⟨#[]⟩], .bool false]) (by simp [results, Tryz.results7, go_sem, q0, q1, q2, q3, q4, q5]) rfl ?_
    refine ⟨?_, fun h => (nomatch (HACC.out.symm.trans h : false = true)), fun _ => ⟨_, ⟨nn, rfl⟩, rfl⟩⟩
    exact below_six (Nat.le_refl _) ((HL.out.below.trans (HB2.out.mono (Nat.le_succ _))).trans (HB3.out.mono (Nat.le_trans HL.out.below.size HB2.out.size))) _ _ _ _ _ _

theorem icompact_any (s : ByteArray) (hs : s.size ≤ 1000000) (w : World) :
    Calls Tryz.prog 7 #[.string s] w (Comped s w) := icompact_big s (by omega) w

end Go.Proofs.YtlmhpmbgalmpgaaGreatDoor
