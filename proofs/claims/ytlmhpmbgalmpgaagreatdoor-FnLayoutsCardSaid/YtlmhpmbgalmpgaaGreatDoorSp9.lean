/-
  The reference's Check: just the texts that the scanner accepts.
-/
import Derived.Test.YtlmhpmbgalmpgaaGreatDoorSp8
namespace Go.Proofs.YtlmhpmbgalmpgaaGreatDoor
open Go.RowKit

/-- What scan tells: only its first field is looked at. -/
def Told (ok : Bool) (w : World) (e : Ending) (w' : World) : Prop := ∃ (en : Bool) (n : Int), e = .returned (.agg #[.bool ok, .bool en, .int .i64 n]) ∧ Below w.heap.size w w'

set_option maxRecDepth 100000 in
set_option maxHeartbeats 1000000 in
theorem scan_yes (s : ByteArray) (g : Nat) (w : World) (h : Rs w g s (-1)) :
    Calls Tryz.prog 22 #[.pointer (some ⟨g, 0, none⟩)] w (Told true w) := by
  obtain ⟨c0, c1, f0, f1⟩ := h.cells
  have hg := h.lt
  go_enter Tryz.func22, Tryz.ntmps22
  go_wp2
  exact bodyPost_ret (v := .agg #[.bool true, .bool false, .int .i64 (s.size : Int)]) (by simp [results, Tryz.results22, go_sem]) rfl ⟨_, _, rfl, (Below.refl _ _).alloc (Nat.le_refl _) _⟩

set_option maxRecDepth 100000 in
set_option maxHeartbeats 1000000 in
theorem scan_no (s : ByteArray) (hs : s.size ≤ 1000000) (g b : Nat) (w : World) (h : Rs w g s (b : Int)) :
    Calls Tryz.prog 22 #[.pointer (some ⟨g, 0, none⟩)] w (Told false w) := by
  obtain ⟨c0, c1, f0, f1⟩ := h.cells
  have hg := h.lt
  by_cases hge : s.size ≤ b
  · have hd : decide ((s.size : Int) ≤ (b : Int)) = true := decide_eq_true (by omega)
    go_enter Tryz.func22, Tryz.ntmps22
    go_wp2
    go_quiet (fail)
    go_wp2
    exact bodyPost_ret (v := .agg #[.bool false, .bool true, .int .i64 (s.size : Int)]) (by simp [results, Tryz.results22, go_sem]) rfl ⟨_, _, rfl, (((below_drewN ((Below.refl _ _).alloc (Nat.le_refl _) _) _).setCell (by simp) _).setCell (by simp) _).setCell (by simp) _⟩
  · have hd : decide ((s.size : Int) ≤ (b : Int)) = false := decide_eq_false (by omega)
    go_enter Tryz.func22, Tryz.ntmps22
    go_wp2
    go_quiet (fail)
    go_wp2
    exact bodyPost_ret (v := .agg #[.bool false, .bool false, .int .i64 ((b : Int) + 1)]) (by simp [results, Tryz.results22, go_sem]) rfl ⟨_, _, rfl, (((below_drewN ((Below.refl _ _).alloc (Nat.le_refl _) _) _).setCell (by simp) _).setCell (by simp) _).setCell (by simp) _⟩

/-- Check's own variable, as later calls leave it. -/
structure Slot (k : Nat) (w : World) : Prop where
  c0 : w.cell? ⟨k, 0, none⟩ = some (.bool false)
  c1 : w.cell? ⟨k, 1, none⟩ = some (.bool false)
  c2 : w.cell? ⟨k, 2, none⟩ = some (.int .i64 0)
  f0 : w.frozen? ⟨k, 0, none⟩ = false
  f1 : w.frozen? ⟨k, 1, none⟩ = false
  f2 : w.frozen? ⟨k, 2, none⟩ = false
  lt : k < w.heap.size

theorem Slot.kept {k : Nat} {w w' : World} (h : Slot k w) (hb : w'.heap[k]? = w.heap[k]?) (hz : w.heap.size ≤ w'.heap.size) : Slot k w' := by
  obtain ⟨c0, c1, c2, f0, f1, f2, lt⟩ := h
  exact ⟨(World.cell?_of_block (w := w) hb).trans c0, (World.cell?_of_block (w := w) hb).trans c1, (World.cell?_of_block (w := w) hb).trans c2,
    (World.frozen?_of_block (w := w) hb).trans f0, (World.frozen?_of_block (w := w) hb).trans f1, (World.frozen?_of_block (w := w) hb).trans f2, Nat.lt_of_lt_of_le lt hz⟩

theorem Slot.new (w : World) (t : TypeId) : Slot w.heap.size (w.alloc (.cells #[.bool false, .bool false, .int .i64 0] t)) := by
  constructor <;> simp

/-- The whole text. -/
def okOf (s : ByteArray) : Bool := match Js.pVal (2 * s.size + 2) 0 (At s 0) with | none => false | some r => (Js.skip r).isEmpty
theorem okOf_acc (s : ByteArray) : okOf s = Js.acc Js.init s.data.toList := by
  rw [Js.valid_iff s.data.toList (2 * s.size + 2) (by simp)]
  rfl

set_option maxRecDepth 100000 in
set_option maxHeartbeats 2000000 in
theorem check_any' (s : ByteArray) (hs : s.size ≤ 1000000) (w : World) :
    Calls Tryz.prog 8 #[.string s] w (Told (Js.acc Js.init s.data.toList) w) := by
  rw [← okOf_acc]
  have hB : Rs ((w.alloc (.cells #[.bool false, .bool false, .int .i64 0] 28)).alloc (.cells #[.string s, .int .i64 (-1)] 53)) (w.heap.size + 1) s (-1) := by
    have := heap_alloc_new (w.alloc (.cells #[.bool false, .bool false, .int .i64 0] 28)) (.cells #[.string s, .int .i64 (-1)] 53)
    rw [show (w.alloc (.cells #[.bool false, .bool false, .int .i64 0] 28)).heap.size = w.heap.size + 1 by simp] at this
    exact this
  have hv := value_any s hs (w.heap.size + 1) (2 * s.size + 2) 0 0 0 0 rfl rfl (Nat.zero_le _) (Nat.zero_le _) (by omega) _ hB
  have hbel : Below w.heap.size w ((w.alloc (.cells #[.bool false, .bool false, .int .i64 0] 28)).alloc (.cells #[.string s, .int .i64 (-1)] 53)) :=
    ((Below.refl _ _).alloc (Nat.le_refl _) _).alloc (by simp) _
  have hslot : Slot w.heap.size ((w.alloc (.cells #[.bool false, .bool false, .int .i64 0] 28)).alloc (.cells #[.string s, .int .i64 (-1)] 53)) :=
    (Slot.new w _).kept (Below.heap_alloc _ _ _ (by simp)) (by simp)
  have HSL := Lib.hid hslot
  have HBL := Lib.hid hbel
  have HB := Lib.hid hB
  clear hbel hB hslot
  cases hp : Js.pVal (2 * s.size + 2) 0 (At s 0) with
  | none =>
    have HO : Hid (okOf s = false) := by show okOf s = false; unfold okOf; rw [hp]
    rw [hp] at hv
    have HV := Lib.hid hv
    clear hv hp
    go_enter Tryz.func8, Tryz.ntmps8
    go_wp2_with fail
    refine HV.out.mono ?_
    rintro e w2 ⟨n, b, rfl, hn, hr, ho⟩
    go_wp2_with fail
    refine (blankEnd_any s hs (n : Int) n rfl hn w2).mono ?_
    rintro e w' ⟨n2, rfl, hn2, hat2, hw2⟩
    subst hw2
    obtain ⟨x0, x1, _, _⟩ := hr.cells
    have HR := Lib.hid hr
    have HO2 := Lib.hid ho
    clear hr ho hat2
    have HSL2 := Lib.hid (HSL.out.kept (HO2.out.block w.heap.size (by simp; omega) (by simp)) HO2.out.size)
    have HB2 := Lib.hid (HBL.out.grown HO2.out (by simp; omega) (fun k hk => by simp at hk; omega))
    go_wp2_with fail
    refine (scan_no s hs _ b _ HR.out).mono ?_
    rintro e w4 ⟨en, at', rfl, hb4⟩
    have HSL4 := HSL2.out.kept (hb4.block w.heap.size HSL2.out.lt) hb4.size
    obtain ⟨q0, q1, q2, r0, r1, r2, rlt⟩ := HSL4
    have HB4 := Lib.hid (HB2.out.trans (hb4.mono HB2.out.size))
    clear hb4
    go_wp2
    refine bodyPost_ret (v := .agg #[.bool false, .bool en, .int .i64 at']) (by simp [results, Tryz.results8, go_sem, q0, q1, q2]) rfl ?_
    rw [HO.out]
    exact ⟨en, at', rfl, ((HB4.out.setCell (Nat.le_refl _) _).setCell (Nat.le_refl _) _).setCell (Nat.le_refl _) _⟩
  | some r =>
    rw [hp] at hv
    have HV := Lib.hid hv
    have HP := Lib.hid hp
    clear hv hp
    go_enter Tryz.func8, Tryz.ntmps8
    go_wp2_with fail
    refine HV.out.mono ?_
    rintro e w2 ⟨n, rfl, hn, hat, hr, ho⟩
    go_wp2_with fail
    refine (blankEnd_any s hs (n : Int) n rfl hn w2).mono ?_
    rintro e w' ⟨n2, rfl, hn2, hat2, hw2⟩
    subst hw2
    obtain ⟨x0, x1, _, _⟩ := hr.cells
    rw [hat] at hat2
    by_cases hlt : n2 < s.size
    · have HO : Hid (okOf s = false) := by
        show okOf s = false
        unfold okOf
        rw [HP.out]
        dsimp only
        rw [← hat2, At_cons s n2 hlt]
        rfl
      have HR0 := Lib.hid hr
      have HO0 := Lib.hid ho
      clear hr ho hat2 hat
      go_wp2_with fail
      refine (fail_any s _ (n2 : Int) n2 rfl hn2 _ HR0.out).mono ?_
      rintro e w3 ⟨n3, b, rfl, hn3, hr3, ho3⟩
      obtain ⟨z0, z1, _, _⟩ := hr3.cells
      have HR := Lib.hid hr3
      have HO2 := Lib.hid (HO0.out.trans ho3)
      clear hr3 ho3 x0 x1
      have HSL2 := Lib.hid (HSL.out.kept (HO2.out.block w.heap.size (by simp; omega) (by simp)) HO2.out.size)
      have HB2 := Lib.hid (HBL.out.grown HO2.out (by simp; omega) (fun k hk => by simp at hk; omega))
      go_wp2_with fail
      refine (scan_no s hs _ b _ HR.out).mono ?_
      rintro e w4 ⟨en, at', rfl, hb4⟩
      have HSL4 := HSL2.out.kept (hb4.block w.heap.size HSL2.out.lt) hb4.size
      obtain ⟨q0, q1, q2, r0, r1, r2, rlt⟩ := HSL4
      have HB4 := Lib.hid (HB2.out.trans (hb4.mono HB2.out.size))
      clear hb4
      go_wp2
      refine bodyPost_ret (v := .agg #[.bool false, .bool en, .int .i64 at']) (by simp [results, Tryz.results8, go_sem, q0, q1, q2]) rfl ?_
      rw [HO.out]
      exact ⟨en, at', rfl, ((HB4.out.setCell (Nat.le_refl _) _).setCell (Nat.le_refl _) _).setCell (Nat.le_refl _) _⟩
    · have HO : Hid (okOf s = true) := by
        show okOf s = true
        unfold okOf
        rw [HP.out]
        dsimp only
        rw [← hat2, At_end s n2 (by omega)]
        rfl
      have HR := Lib.hid hr
      have HO2 := Lib.hid ho
      clear hr ho hat2 hat
      have HSL2 := Lib.hid (HSL.out.kept (HO2.out.block w.heap.size (by simp; omega) (by simp)) HO2.out.size)
      have HB2 := Lib.hid (HBL.out.grown HO2.out (by simp; omega) (fun k hk => by simp at hk; omega))
      go_wp2_with fail
      refine (scan_yes s _ _ HR.out).mono ?_
      rintro e w4 ⟨en, at', rfl, hb4⟩
      have HSL4 := HSL2.out.kept (hb4.block w.heap.size HSL2.out.lt) hb4.size
      obtain ⟨q0, q1, q2, r0, r1, r2, rlt⟩ := HSL4
      have HB4 := Lib.hid (HB2.out.trans (hb4.mono HB2.out.size))
      clear hb4
      go_wp2
      refine bodyPost_ret (v := .agg #[.bool true, .bool en, .int .i64 at']) (by simp [results, Tryz.results8, go_sem, q0, q1, q2]) rfl ?_
      rw [HO.out]
      exact ⟨en, at', rfl, ((HB4.out.setCell (Nat.le_refl _) _).setCell (Nat.le_refl _) _).setCell (Nat.le_refl _) _⟩

theorem field_ok (x en : Bool) (n : Int) (w : World) : (Instr.field 28 (.agg #[.bool x, .bool en, .int .i64 n]) 0).run Tryz.prog w = .ok (.bool x) w := by kernel_rfl

end Go.Proofs.YtlmhpmbgalmpgaaGreatDoor
