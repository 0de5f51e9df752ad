/-
  Write of what was appended to the loan, and the whole text of a buffer.
-/
import Derived.Test.YtlmhpmbgalmpgaaGreatDoorBf3
import Derived.Laws.IdiomCopy
namespace Go.Proofs.YtlmhpmbgalmpgaaGreatDoor
open Go.RowKit

/-- What Write leaves. -/
def Wrote (B b : Nat) (ks : List UInt8) (w : World) (e : Ending) (w' : World) : Prop :=
  e = .returned (.tuple #[.int .i64 ks.length, .nilIface]) ∧ Lib.IsBuffer 44 5 B b (Lib.byteCells ks) w' ∧ Below B w w' ∧ ∀ p, ErB w p → ErB w' p

theorem wrote0_of {B b : Nat} {w : World} {ao : Option Addr} {cap : Nat} (h : Avail B b w (.slice ao 0 cap)) :
    Below B w ((w.setCell ⟨b, 2, none⟩ (.int .i8 0)).setCell ⟨b, 0, none⟩ (.slice ao 0 cap)) ∧ Lib.IsBuffer 44 5 B b (Lib.byteCells []) ((w.setCell ⟨b, 2, none⟩ (.int .i8 0)).setCell ⟨b, 0, none⟩ (.slice ao 0 cap)) ∧ ∀ p, ErB w p → ErB ((w.setCell ⟨b, 2, none⟩ (.int .i8 0)).setCell ⟨b, 0, none⟩ (.slice ao 0 cap)) p := by
  obtain ⟨hB, lr, hbk, hown, hne⟩ := h
  refine ⟨((Below.refl B w).setCell (p := ⟨b, 2, none⟩) hB _).setCell (p := ⟨b, 0, none⟩) hB _, ⟨hB, _, 0, Lib.heap_setCell_same (i := 0) (Lib.heap_setCell_same (i := 2) hbk _) _, ?_, hne⟩, ?_⟩
  · refine ownsRow_of_block hown fun k hk => ?_
    have hkb : k ≠ b := fun e => hne (by rw [← e]; exact hk)
    rw [Below.heap_setCell _ _ _ _ hkb, Below.heap_setCell _ _ _ _ hkb]
  · rintro p ⟨s, n, hp⟩
    have hkb : p ≠ b := by
      rintro rfl
      rw [hbk] at hp
      cases hp
    exact ⟨s, n, by rw [Below.heap_setCell _ _ _ _ hkb, Below.heap_setCell _ _ _ _ hkb]; exact hp⟩

set_option maxRecDepth 100000 in
set_option maxHeartbeats 1000000 in
/-- Nothing is written. -/
theorem write_nil (B b : Nat) (v0 : Value) (w : World) (h : Avail B b w v0) :
    Calls Tryz.prog 33 #[.pointer (some ⟨b, 0, none⟩), .slice none 0 0] w (Wrote B b [] w) := by
  have h2 := h
  obtain ⟨lr, hbk, hc⟩ := h.cases
  have c2 : w.cell? ⟨b, 2, none⟩ = some (.int .i8 lr) := by rw [Lib.cell_of_heap hbk]; rfl
  have f2 := Lib.frozen_of_heap hbk 2
  have hinfo : (Tryz.prog.info? 5).map (·.size) = some 1 := by kernel_rfl
  have hce : ∀ d dLen dCap W, (Builtin.copy_ #[40, 40] 3 #[.slice d dLen dCap, .slice none 0 0]).run Tryz.prog W = .ok (goInt 0) W := fun d dLen dCap W => run_copy_none W 40 40 3 5 d none dLen dCap 0 0 Tryz.underlying40 hinfo (by simp)
  have hb1 := Lib.heap_setCell_same (i := 2) hbk (.int .i8 0)
  rcases hc with rfl | ⟨g, cap, rfl, hm⟩
  · have HW := Lib.hid (wrote0_of h2)
    have c0 : (w.setCell ⟨b, 2, none⟩ (.int .i8 0)).cell? ⟨b, 0, none⟩ = some (.slice none 0 0) := by rw [Lib.cell_of_heap hb1]; rfl
    have f0 := Lib.frozen_of_heap hb1 0
    have hd : ((w.setCell ⟨b, 2, none⟩ (.int .i8 0)).setCell ⟨b, 0, none⟩ (.slice none 0 0)).cell? ⟨b, 0, none⟩ = some (.slice none 0 0) := World.cell?_setCell_same _ _ _ c0
    have C0 := Lib.hid c0
    have F0 := Lib.hid f0
    have HD := Lib.hid hd
    clear h h2 hbk hb1 c0 f0 hd
    go_enter Tryz.func33, Tryz.ntmps33
    go_wp2_with (go_at_call 47; refine (Tryz.Buffer_tryGrow_room b none 0 0 0 _ C0.out F0.out (Nat.le_refl _) (Nat.zero_le _) (Nat.zero_le _)).mono ?_; rintro e w1 ⟨rfl, rfl⟩; generalize hX : (w.setCell ⟨b, 2, none⟩ (.int .i8 0)).setCell ⟨b, 0, none⟩ (.slice none (0 + 0) 0) = X at *; have c0 : X.cell? ⟨b, 0, none⟩ = some (.slice none 0 0) := HD.out; clear hX)
    go_ret2
    exact ⟨rfl, HW.out.2.1, HW.out.1, HW.out.2.2⟩
  · have HW := Lib.hid (wrote0_of h2)
    have hm' := hm
    unfold maxLen at hm
    have c0 : (w.setCell ⟨b, 2, none⟩ (.int .i8 0)).cell? ⟨b, 0, none⟩ = some (.slice (some ⟨g, 0, none⟩) 0 cap) := by rw [Lib.cell_of_heap hb1]; rfl
    have f0 := Lib.frozen_of_heap hb1 0
    have hd : ((w.setCell ⟨b, 2, none⟩ (.int .i8 0)).setCell ⟨b, 0, none⟩ (.slice (some ⟨g, 0, none⟩) 0 cap)).cell? ⟨b, 0, none⟩ = some (.slice (some ⟨g, 0, none⟩) 0 cap) := World.cell?_setCell_same _ _ _ c0
    have C0 := Lib.hid c0
    have F0 := Lib.hid f0
    have HD := Lib.hid hd
    clear h h2 hbk hb1 c0 f0 hd
    go_enter Tryz.func33, Tryz.ntmps33
    go_wp2_with (go_at_call 47; refine (Tryz.Buffer_tryGrow_room b (some ⟨g, 0, none⟩) 0 cap 0 _ C0.out F0.out (Nat.zero_le _) hm' (Nat.zero_le _)).mono ?_; rintro e w1 ⟨rfl, rfl⟩; generalize hX : (w.setCell ⟨b, 2, none⟩ (.int .i8 0)).setCell ⟨b, 0, none⟩ (.slice (some ⟨g, 0, none⟩) (0 + 0) cap) = X at *; have c0 : X.cell? ⟨b, 0, none⟩ = some (.slice (some ⟨g, 0, none⟩) 0 cap) := HD.out; clear hX)
    go_ret2
    first | exact ⟨rfl, HW.out.2.1, HW.out.1, HW.out.2.2⟩ | exact ⟨by simp, HW.out.2.1, HW.out.1, HW.out.2.2⟩

theorem write_any {B b : Nat} {v0 v : Value} {ks : List UInt8} {W : World} (w : World) (h : Avail B b W v0) (ha : Ap 5 B v0.ownBlock W w v ks) (hlim : ks.length ≤ 140737488355328) :
    Calls Tryz.prog 33 #[.pointer (some ⟨b, 0, none⟩), v] w (Wrote B b ks w) := by
  have hA := h.under ha
  rcases ha.own.2 with ⟨hv, h0⟩ | ⟨g, cap, cur, hv, hg, hh, hn, hm, hc, ht⟩
  · have hk : ks = [] := List.eq_nil_of_length_eq_zero h0
    subst hk
    subst hv
    exact write_nil B b v0 w hA
  · subst hv
    have hgb : g ≠ b := by
      rintro rfl
      rcases ha.lies g rfl with h1 | h1
      · obtain ⟨_, _, _, _, h3⟩ := h
        exact h3 h1
      · have := h.lt; omega
    refine (Tryz.Buffer_Write_any B b [] (Lib.byteCells ks) ⟨g, 0, none⟩ ks.length cap w hA.buf (Nat.le_trans ha.base ha.size) (fun _ h => nomatch h) (Lib.byteCells_length _) hgb (ha.own.cells (g := g) rfl) (Lib.byteCells_one _) (by simpa using hlim)).mono ?_
    rintro e w' ⟨rfl, h1, h2, h3⟩
    refine ⟨rfl, h1, h2, ?_⟩
    rintro p ⟨s, n, hp⟩
    refine ⟨s, n, h3 p _ hp ?_ fun _ _ h => by cases h⟩
    intro he
    obtain ⟨_, lr, hbk, _⟩ := hA
    rw [Option.some.inj he, hbk] at hp
    cases hp

end Go.Proofs.YtlmhpmbgalmpgaaGreatDoor
