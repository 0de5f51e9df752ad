/-
  The scanner's small functions: what each call does to the world.
-/
import Derived.Test.YtlmhpmbgalmpgaaGreatDoorProg
import Derived.WalkKit
import Derived.WalkSpells
import Derived.WalkLawsBesides
import Derived.Laws.EntriesVeiled
import Derived.Laws.IdiomStrings
import Derived.Deep.RegionHeld3
import Derived.Lib.Hide
namespace Go.Proofs.YtlmhpmbgalmpgaaGreatDoor
open Go.RowKit

/-- A blank byte. -/
def spI (c : Int) : Bool := c == 32 || c == 9 || c == 13 || c == 10

set_option maxHeartbeats 400000 in
theorem space_any (c : Int) (w : World) :
    Calls Tryz.prog 65 #[.int .u8 c] w fun e w' => e = .returned (.bool (spI c)) ∧ w = w' := by
  go_enter Tryz.func65, Tryz.ntmps65
  go_wp2
  all_goals
    go_ret
    refine ⟨?_, rfl⟩
    unfold spI
    first
      | rfl
      | (simp [*]; done)
      | (have h1 : ¬ c = 32 := by omega
         have h2 : ¬ c = 9 := by omega
         have h3 : ¬ c = 13 := by omega
         have h4 : ¬ c = 10 := by omega
         simp [h1, h2, h3, h4])

set_option maxHeartbeats 400000 in
theorem quote_any (c : Int) (h0 : 0 ≤ c) (h1 : c ≤ 255) (w : World) :
    Calls Tryz.prog 88 #[.int .u8 c] w fun e w' => e = .returned (.string ⟨#[UInt8.ofNat c.toNat]⟩) ∧ w' = w.alloc (.cells #[.int .u8 c] 5) := by
  have hc : ((UInt8.ofNat c.toNat).toNat : Int) = c := by
    rw [UInt8.toNat_ofNat']
    omega
  have hq : (convert 40 9 (.slice (some ⟨w.heap.size, 0, none⟩) 1 1)).run Tryz.prog (w.alloc (.cells #[.int .u8 c] 5)) = .ok (.string ⟨#[UInt8.ofNat c.toNat]⟩) (w.alloc (.cells #[.int .u8 c] 5)) := by
    refine run_convert_bytes_back (P := Tryz.prog) _ 40 9 5 ⟨w.heap.size, 0, none⟩ 1 [UInt8.ofNat c.toNat] Tryz.underlying40 Tryz.underlying5 Tryz.underlying9 ?_
    intro j hj
    simp at hj
    subst hj
    show (w.alloc _).cell? ⟨w.heap.size, 0, none⟩ = some (.int .u8 ((UInt8.ofNat c.toNat).toNat : Int))
    rw [hc]
    simp
  have Hc := Lib.hid hc
  clear hc
  go_enter Tryz.func88, Tryz.ntmps88
  go_wp2
  go_ret
  exact ⟨rfl, rfl⟩

/-- Where a scanner lies: its five cells are a block of their own. -/
def ScB (w : World) (g : Nat) (fv tv pv ev bv : Value) : Prop := w.heap[g]? = some (.cells #[fv, tv, pv, ev, bv] 100 (0, 0))

theorem ScB.cells {w : World} {g : Nat} {fv tv pv ev bv : Value} (h : ScB w g fv tv pv ev bv) :
    w.cell? ⟨g, 0, none⟩ = some fv ∧ w.cell? ⟨g, 1, none⟩ = some tv ∧ w.cell? ⟨g, 2, none⟩ = some pv ∧ w.cell? ⟨g, 3, none⟩ = some ev ∧ w.cell? ⟨g, 4, none⟩ = some bv ∧
    w.frozen? ⟨g, 0, none⟩ = false ∧ w.frozen? ⟨g, 1, none⟩ = false ∧ w.frozen? ⟨g, 2, none⟩ = false ∧ w.frozen? ⟨g, 3, none⟩ = false ∧ w.frozen? ⟨g, 4, none⟩ = false := by
  unfold ScB at h
  simp [World.cell?, World.frozen?, h]

theorem ScB.lt {w : World} {g : Nat} {fv tv pv ev bv : Value} (h : ScB w g fv tv pv ev bv) : g < w.heap.size := (Array.getElem?_eq_some_iff.1 h).1

theorem heap_set_same {w : World} {b i : Nat} {cs : Array Value} {T : TypeId} {fr : Nat × Nat} (hb : w.heap[b]? = some (.cells cs T fr)) (v : Value) :
    (w.setCell ⟨b, i, none⟩ v).heap[b]? = some (.cells (cs.setIfInBounds i v) T fr) := by
  simp [World.setCell, Array.getElem?_modify, hb]

theorem ScB.set0 {w : World} {g : Nat} {fv tv pv ev bv : Value} (h : ScB w g fv tv pv ev bv) (v : Value) : ScB (w.setCell ⟨g, 0, none⟩ v) g v tv pv ev bv := heap_set_same h v
theorem ScB.set1 {w : World} {g : Nat} {fv tv pv ev bv : Value} (h : ScB w g fv tv pv ev bv) (v : Value) : ScB (w.setCell ⟨g, 1, none⟩ v) g fv v pv ev bv := heap_set_same h v
theorem ScB.set2 {w : World} {g : Nat} {fv tv pv ev bv : Value} (h : ScB w g fv tv pv ev bv) (v : Value) : ScB (w.setCell ⟨g, 2, none⟩ v) g fv tv v ev bv := heap_set_same h v
theorem ScB.set3 {w : World} {g : Nat} {fv tv pv ev bv : Value} (h : ScB w g fv tv pv ev bv) (v : Value) : ScB (w.setCell ⟨g, 3, none⟩ v) g fv tv pv v bv := heap_set_same h v
theorem ScB.set4 {w : World} {g : Nat} {fv tv pv ev bv : Value} (h : ScB w g fv tv pv ev bv) (v : Value) : ScB (w.setCell ⟨g, 4, none⟩ v) g fv tv pv ev v := heap_set_same h v

/-- An error lies at block p. -/
def ErB (w : World) (p : Nat) : Prop := ∃ (s : ByteArray) (n : Int), w.heap[p]? = some (.cells #[.string s, .int .i64 n] 70 (0, 0))

/-- What an error leaves. -/
def Erred (g : Nat) (tv pv bv : Value) (w w' : World) : Prop :=
  ∃ p, ScB w' g (.func (.func 87) #[] #[]) tv pv (.iface 68 (.pointer (some ⟨p, 0, none⟩))) bv ∧ ErB w' p ∧ w.heap.size ≤ p ∧ w.grownBy w' (some g)

theorem ScB.alloc {w : World} {g : Nat} {fv tv pv ev bv : Value} (h : ScB w g fv tv pv ev bv) (o : Obj) : ScB (w.alloc o) g fv tv pv ev bv := (Below.heap_alloc w o g h.lt).trans h

theorem err_keep {w : World} {g : Nat} {fv tv pv ev bv : Value} (h : ScB w g fv tv pv ev bv) (v : Value) (o p : Obj) :
    (((w.setCell ⟨g, 3, none⟩ v).alloc o).alloc p).drew.cell? ⟨g, 4, none⟩ = some bv ∧ ((((w.setCell ⟨g, 3, none⟩ v).alloc o).alloc p).drew.cell? ⟨g, 3, none⟩).isSome = true ∧
    (((w.setCell ⟨g, 3, none⟩ v).alloc o).alloc p).drew.frozen? ⟨g, 3, none⟩ = false := by
  obtain ⟨_, _, _, c3, c4, _, _, _, f3, _⟩ := (((h.set3 v).alloc o).alloc p).cells
  exact ⟨c4, by show ((((w.setCell ⟨g, 3, none⟩ v).alloc o).alloc p).cell? ⟨g, 3, none⟩).isSome = true; rw [c3]; rfl, f3⟩

theorem erred_of {w : World} {g : Nat} {fv tv pv ev bv : Value} (h : ScB w g fv tv pv ev bv) (c1 : Array Value) (t1 : TypeId) (x : ByteArray) (n : Int) (k : Nat) (hk : k = w.heap.size + 1) :
    Erred g tv pv bv w (((((w.setCell ⟨g, 0, none⟩ (.func (.func 87) #[] #[])).setCell ⟨g, 3, none⟩ (.iface 68 (.pointer (some ⟨k, 0, none⟩)))).alloc (.cells c1 t1)).alloc (.cells #[.string x, .int .i64 n] 70)).drew) := by
  have hw : ((w.setCell ⟨g, 0, none⟩ (.func (.func 87) #[] #[])).setCell ⟨g, 3, none⟩ (.iface 68 (.pointer (some ⟨k, 0, none⟩)))).heap.size = w.heap.size := by simp [World.setCell]
  subst hk
  refine ⟨w.heap.size + 1, (((h.set0 _).set3 _).alloc _).alloc _, ⟨x, n, ?_⟩, by omega, ?_⟩
  · generalize hV : (w.setCell ⟨g, 0, none⟩ (.func (.func 87) #[] #[])).setCell ⟨g, 3, none⟩ (.iface 68 (.pointer (some ⟨w.heap.size + 1, 0, none⟩))) = V at *
    rw [← hw]
    have := heap_alloc_new (V.alloc (.cells c1 t1)) (.cells #[.string x, .int .i64 n] 70)
    rw [show (V.alloc (.cells c1 t1)).heap.size = V.heap.size + 1 by simp] at this
    exact this
  · refine ⟨rfl, rfl, rfl, ?_, ?_⟩
    · show w.heap.size ≤ ((_ : World).alloc _).heap.size
      simp [hw]
      omega
    · intro j hj hne
      have hjg : j ≠ g := fun e => hne (by rw [e])
      show ((_ : World).alloc _).heap[j]? = _
      rw [Below.heap_alloc _ _ _ (by simp [hw]; omega), Below.heap_alloc _ _ _ (by rw [hw]; exact hj), Below.heap_setCell _ _ _ _ hjg, Below.heap_setCell _ _ _ _ hjg]

set_option maxHeartbeats 1000000 in
theorem error_any (g : Nat) (fv tv pv ev : Value) (b c : Int) (s : ByteArray) (h0 : 0 ≤ c) (h1 : c ≤ 255) (hs : s.size ≤ 100) (w : World) (h : ScB w g fv tv pv ev (.int .i64 b)) :
    Calls Tryz.prog 76 #[.pointer (some ⟨g, 0, none⟩), .int .u8 c, .string s] w fun e w' => e = .returned (.int .i64 11) ∧ Erred g tv pv (.int .i64 b) w w' := by
  have hg := h.lt
  obtain ⟨c0, c1, c2, c3, c4, f0, f1, f2, f3, f4⟩ := h.cells
  have h2 := h.set0 (.func (.func 87) #[] #[])
  go_enter Tryz.func76, Tryz.ntmps76
  go_wp2_with fail
  obtain ⟨d0, d1, d2, d3, d4, e0, e1, e2, e3, e4⟩ := h2.cells
  clear c0 c1 c2 c3 c4 f0 f1 f2 f3 f4
  have hg2 := h2.lt
  generalize hW : w.setCell ⟨g, 0, none⟩ (.func (.func 87) #[] #[]) = W at *
  have HW := Lib.hid hW
  clear hW
  have H2 := Lib.hid h2
  clear h2
  have H := Lib.hid h
  clear h
  have hadd : ∀ X : World, (Op.stringOp .add (⟨#[105, 110, 118, 97, 108, 105, 100, 32, 99, 104, 97, 114, 97, 99, 116, 101, 114, 32]⟩ ++ ⟨#[UInt8.ofNat c.toNat]⟩ ++ ⟨#[32]⟩) s).run Tryz.prog X =
      .ok (.string (⟨#[105, 110, 118, 97, 108, 105, 100, 32, 99, 104, 97, 114, 97, 99, 116, 101, 114, 32]⟩ ++ ⟨#[UInt8.ofNat c.toNat]⟩ ++ ⟨#[32]⟩ ++ s)) X := fun X =>
    run_string_add_sum X _ _ (by simp only [ByteArray.size_append]; show 18 + 1 + 1 + s.size ≤ _; omega)
  go_region_held3 (fun w' => w'.cell? ⟨g, 4, none⟩ = some (.int .i64 b) ∧ (w'.cell? ⟨g, 3, none⟩).isSome = true ∧ w'.frozen? ⟨g, 3, none⟩ = false) (first | (simp [*, World.cell?_alloc_some, frozen?_alloc_cells]; done) | with_reducible exact err_keep H2.out _ _ _)
    (first | (go_at_call 88; refine (quote_any c h0 h1 _).mono ?_; rintro e w' ⟨rfl, rfl⟩))
  rename_i hHeld
  clear hHeld
  go_wp2
  go_ret
  refine ⟨rfl, ?_⟩
  rw [← HW.out]
  exact erred_of H.out _ _ _ _ _ (by simp [World.setCell])

end Go.Proofs.YtlmhpmbgalmpgaaGreatDoor
