/-
  spec.Indent's closure: one line.
-/
import Derived.Test.YtlmhpmbgalmpgaaGreatDoorDe1
import Derived.Test.YtlmhpmbgalmpgaaGreatDoorPl10
import Derived.Lib.BufferMore
namespace Go.Proofs.YtlmhpmbgalmpgaaGreatDoor
open Go.RowKit

/-- The variables that spec.Indent keeps in memory: prefix, indent, what is written, how deep. -/
structure SMem (W w : World) (o p i : ByteArray) (d : Int) : Prop where
  pb : w.heap[W.heap.size]? = some (.cells #[.string p] 9 (0, 0))
  ib : w.heap[W.heap.size + 1]? = some (.cells #[.string i] 9 (0, 0))
  ob : w.heap[W.heap.size + 1 + 1]? = some (.cells #[.string o] 9 (0, 0))
  db : w.heap[W.heap.size + 1 + 1 + 1]? = some (.cells #[.int .i64 d] 3 (0, 0))
  below : Below W.heap.size W w

theorem SMem.cells {W w : World} {o p i : ByteArray} {d : Int} (h : SMem W w o p i d) :
    w.cell? ⟨W.heap.size, 0, none⟩ = some (.string p) ∧ w.cell? ⟨W.heap.size + 1, 0, none⟩ = some (.string i) ∧ w.cell? ⟨W.heap.size + 1 + 1, 0, none⟩ = some (.string o) ∧ w.cell? ⟨W.heap.size + 1 + 1 + 1, 0, none⟩ = some (.int .i64 d) ∧
    w.frozen? ⟨W.heap.size + 1 + 1, 0, none⟩ = false ∧ w.frozen? ⟨W.heap.size + 1 + 1 + 1, 0, none⟩ = false :=
  ⟨by rw [Lib.cell_of_heap h.pb]; rfl, by rw [Lib.cell_of_heap h.ib]; rfl, by rw [Lib.cell_of_heap h.ob]; rfl, by rw [Lib.cell_of_heap h.db]; rfl, Lib.frozen_of_heap h.ob 0, Lib.frozen_of_heap h.db 0⟩

theorem SMem.setO {W w : World} {o p i : ByteArray} {d : Int} (h : SMem W w o p i d) (o' : ByteArray) : SMem W (w.setCell ⟨W.heap.size + 1 + 1, 0, none⟩ (.string o')) o' p i d :=
  ⟨(Below.heap_setCell _ _ _ _ (by show _ ≠ W.heap.size + 1 + 1; omega)).trans h.pb, (Below.heap_setCell _ _ _ _ (by show _ ≠ W.heap.size + 1 + 1; omega)).trans h.ib, heap_set_same h.ob _, (Below.heap_setCell _ _ _ _ (by show _ ≠ W.heap.size + 1 + 1; omega)).trans h.db, h.below.setCell (by show W.heap.size ≤ W.heap.size + 1 + 1; omega) _⟩

theorem SMem.setD {W w : World} {o p i : ByteArray} {d : Int} (h : SMem W w o p i d) (d' : Int) : SMem W (w.setCell ⟨W.heap.size + 1 + 1 + 1, 0, none⟩ (.int .i64 d')) o p i d' :=
  ⟨(Below.heap_setCell _ _ _ _ (by show _ ≠ W.heap.size + 1 + 1 + 1; omega)).trans h.pb, (Below.heap_setCell _ _ _ _ (by show _ ≠ W.heap.size + 1 + 1 + 1; omega)).trans h.ib, (Below.heap_setCell _ _ _ _ (by show _ ≠ W.heap.size + 1 + 1 + 1; omega)).trans h.ob, heap_set_same h.db _, h.below.setCell (by show W.heap.size ≤ W.heap.size + 1 + 1 + 1; omega) _⟩

theorem SMem.start (w : World) (p i : ByteArray) : SMem w ((((w.alloc (.cells #[.string p] 9)).alloc (.cells #[.string i] 9)).alloc (.cells #[.string ⟨#[]⟩] 9)).alloc (.cells #[.int .i64 0] 3)) ⟨#[]⟩ p i 0 := by
  have z1 : ∀ (w : World) o, (w.alloc o).heap.size = w.heap.size + 1 := fun w o => by simp
  refine ⟨?_, ?_, ?_, ?_, ?_⟩
  · rw [Below.heap_alloc _ _ _ (by rw [z1, z1, z1]; omega), Below.heap_alloc _ _ _ (by rw [z1, z1]; omega), Below.heap_alloc _ _ _ (by rw [z1]; omega)]
    exact heap_alloc_new w _
  · rw [Below.heap_alloc _ _ _ (by rw [z1, z1, z1]; omega), Below.heap_alloc _ _ _ (by rw [z1, z1]; omega), ← z1 w (.cells #[.string p] 9)]
    exact heap_alloc_new _ _
  · rw [Below.heap_alloc _ _ _ (by rw [z1, z1, z1]; omega), ← z1 w (.cells #[.string p] 9), ← z1 _ (.cells #[.string i] 9)]
    exact heap_alloc_new _ _
  · rw [← z1 w (.cells #[.string p] 9), ← z1 _ (.cells #[.string i] 9), ← z1 _ (.cells #[.string ⟨#[]⟩] 9)]
    exact heap_alloc_new _ _
  · exact ((((Below.refl _ w).alloc (Nat.le_refl _) _).alloc (by rw [z1]; omega) _).alloc (by rw [z1, z1]; omega) _).alloc (by rw [z1, z1, z1]; omega) _

/-- Work above these variables. -/
theorem SMem.over {W w w' : World} {o p i : ByteArray} {d : Int} (h : SMem W w o p i d) (hb : Below w.heap.size w w') : SMem W w' o p i d :=
  ⟨(hb.block _ (Lib.lt_of_heap h.pb)).trans h.pb, (hb.block _ (Lib.lt_of_heap h.ib)).trans h.ib, (hb.block _ (Lib.lt_of_heap h.ob)).trans h.ob, (hb.block _ (Lib.lt_of_heap h.db)).trans h.db, h.below.trans (hb.mono h.below.size)⟩

/-- Bytes as a string. -/
def bs (l : List UInt8) : ByteArray := ⟨l.toArray⟩
theorem bs_size (l : List UInt8) : (bs l).size = l.length := by simp [bs, ByteArray.size]
theorem bs_list (l : List UInt8) : (bs l).data.toList = l := by simp [bs]
theorem bs_of (s : ByteArray) : bs s.data.toList = s := by simp [bs]
theorem bs_add (a b : List UInt8) : bs a ++ bs b = bs (a ++ b) := by
  apply ByteArray.ext
  simp [bs]

set_option maxRecDepth 100000 in
set_option maxHeartbeats 4000000 in
theorem line_any (W : World) (o : List UInt8) (p i : ByteArray) (d : Int) (hp : p.size ≤ 20) (hi : i.size ≤ 20) (hd : d ≤ 10000) (ho : o.length ≤ 1000000000000) (w : World) (h : SMem W w (bs o) p i d) :
    Calls Tryz.prog 26 #[.pointer (some ⟨W.heap.size + 1 + 1, 0, none⟩), .pointer (some ⟨W.heap.size, 0, none⟩), .pointer (some ⟨W.heap.size + 1 + 1 + 1, 0, none⟩), .pointer (some ⟨W.heap.size + 1, 0, none⟩)] w
      (fun e w' => e = .returned (.tuple #[]) ∧ SMem W w' (bs (o ++ Js.nl p.data.toList i.data.toList d)) p i d) := by
  have H := Lib.hid h
  obtain ⟨c1, c2, c3, c4, f3, f4⟩ := h.cells
  clear h
  have hpl : p.data.toList.length = p.size := by simp
  have hil : i.data.toList.length = i.size := by simp
  have a1 : ∀ X : World, (Op.stringOp .add ⟨#[10]⟩ p).run Tryz.prog X = .ok (.string (bs (10 :: p.data.toList))) X := fun X => by
    rw [run_string_add_sum X _ _ (by show 1 + p.size ≤ _; omega), show (⟨#[10]⟩ : ByteArray) = bs [10] from rfl, ← bs_of p, bs_add, bs_list]
    rfl
  have a2 : ∀ X : World, (Op.stringOp .add (bs o) (bs (10 :: p.data.toList))).run Tryz.prog X = .ok (.string (bs (o ++ 10 :: p.data.toList))) X := fun X => by
    rw [run_string_add_sum X _ _ (by rw [bs_size, bs_size, List.length_cons, hpl]; omega), bs_add]
  have a3 : ∀ (X : World) (j : Nat), j < 10000 → (Op.stringOp .add (bs (o ++ 10 :: (p.data.toList ++ Js.reps j i.data.toList))) i).run Tryz.prog X = .ok (.string (bs (o ++ 10 :: (p.data.toList ++ Js.reps (j + 1) i.data.toList)))) X := fun X j hj => by
    have h1 : j * i.size ≤ 10000 * 20 := Nat.mul_le_mul (by omega) hi
    rw [run_string_add_sum X _ _ (by rw [bs_size]; simp only [List.length_append, List.length_cons, Js.reps_len, hpl, hil]; omega)]
    conv => lhs; rw [← bs_of i]
    rw [bs_add]
    simp [Js.reps, bs_list]
  go_enter Tryz.func26, Tryz.ntmps26
  go_wp2_with fail
  have HS := Lib.hid (H.out.setO (bs (o ++ 10 :: p.data.toList)))
  go_loopg [9] d.toNat (fun gk n wr => ∃ j : Nat, gk + j = d.toNat ∧ n = .int .i64 (j : Int) ∧ SMem W wr (bs (o ++ 10 :: (p.data.toList ++ Js.reps j i.data.toList))) p i d)
  case atStart => exact ⟨0, by omega, rfl, by have := HS.out; simpa [Js.reps] using this⟩
  case round =>
    obtain ⟨j, hgj, rfl, hm⟩ := hrel
    have HM := Lib.hid hm
    have HG := Lib.hid hgj
    obtain ⟨e1, e2, e3, e4, g3, g4⟩ := hm.cells
    clear hm a1 a2 c1 c2 c3 c4 f3 f4
    by_cases hlt : (j : Int) < d
    · have dl : decide ((j : Int) < d) = true := decide_eq_true hlt
      have a4 := fun X => a3 X j (by omega)
      clear a3 hgj
      go_wp2_with fail
      go_roundg (d.toNat - (j + 1))
      case rel => exact ⟨j + 1, by have := HG.out; omega, by go_num, HM.out.setO _⟩
      case measure => have := HG.out; omega
    · have dl : decide ((j : Int) < d) = false := decide_eq_false hlt
      have hjd : j = d.toNat := by omega
      clear a3 hgj
      go_wp2_with fail
      go_end0
      exact ⟨rfl, by rw [Js.nl, ← hjd]; exact HM.out⟩

end Go.Proofs.YtlmhpmbgalmpgaaGreatDoor
