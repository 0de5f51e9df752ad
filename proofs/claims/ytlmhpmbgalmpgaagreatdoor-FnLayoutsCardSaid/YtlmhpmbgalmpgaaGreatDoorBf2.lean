/-
  A bytes.Buffer that is grown, lent out empty, and written with what was appended to the loan.
-/
import Derived.Test.YtlmhpmbgalmpgaaGreatDoorBf1
import Derived.Test.YtlmhpmbgalmpgaaGreatDoorSh
namespace Go.Proofs.YtlmhpmbgalmpgaaGreatDoor
open Go.RowKit

theorem Tryz.infoU8 : (Tryz.prog.info? 5).map (fun i => (i.zero, i.size, i.bytes)) = some (some (.int .u8 0), 1, 1) := by kernel_rfl

/-- An empty buffer in block b whose slice is v0. -/
def Avail (B b : Nat) (w : World) (v0 : Value) : Prop :=
  B ≤ b ∧ ∃ lr, w.heap[b]? = some (.cells #[v0, .int .i64 0, .int .i8 lr] 44 (0, 0)) ∧ w.ownsRow B 5 1 v0 0 [] ∧ v0.ownBlock ≠ some b

theorem Avail.buf {B b : Nat} {w : World} {v0 : Value} (h : Avail B b w v0) : Lib.IsBuffer 44 5 B b [] w := by
  obtain ⟨hB, lr, h1, h2, h3⟩ := h
  exact ⟨hB, v0, lr, h1, h2, h3⟩

theorem Avail.cases {B b : Nat} {w : World} {v0 : Value} (h : Avail B b w v0) : ∃ lr, w.heap[b]? = some (.cells #[v0, .int .i64 0, .int .i8 lr] 44 (0, 0)) ∧
    (v0 = .slice none 0 0 ∨ ∃ g cap, v0 = .slice (some ⟨g, 0, none⟩) 0 cap ∧ cap ≤ maxLen) := by
  obtain ⟨hB, lr, h1, h2, h3⟩ := h
  refine ⟨lr, h1, ?_⟩
  rcases h2.2 with ⟨hv, _⟩ | ⟨g, cap, cur, hv, _, _, _, hm, _⟩
  · exact .inl hv
  · exact .inr ⟨g, cap, hv, hm⟩

theorem Avail.lt {B b : Nat} {w : World} {v0 : Value} (h : Avail B b w v0) : b < w.heap.size := by
  obtain ⟨_, lr, h1, _⟩ := h
  exact Lib.lt_of_heap h1

theorem Avail.block {B b : Nat} {w w' : World} {v0 : Value} (h : Avail B b w v0) (hb : w'.heap[b]? = w.heap[b]?) (hs : ∀ k, v0.ownBlock = some k → Shape 5 k w w') : Avail B b w' v0 := by
  obtain ⟨hB, lr, h1, h2, h3⟩ := h
  refine ⟨hB, lr, hb.trans h1, ⟨h2.1, h2.2.imp id ?_⟩, h3⟩
  rintro ⟨g, cap, cur, hv, hg, hh, hn, hm, hc, ht⟩
  obtain ⟨cur', h4, h5⟩ := hs g (by rw [hv]; rfl) cur hh
  exact ⟨g, cap, cur', hv, hg, h4, hn, hm, by rw [h5, hc], by simp⟩

/-- Behind the appends the buffer is as it was, but for its row's spare cells. -/
theorem Avail.under {B b : Nat} {W w : World} {v0 v : Value} {ks : List UInt8} (h : Avail B b W v0) (ha : Ap 5 B v0.ownBlock W w v ks) : Avail B b w v0 := by
  have hb := h.lt
  have hne : v0.ownBlock ≠ some b := by obtain ⟨_, _, _, _, h3⟩ := h; exact h3
  refine h.block (ha.block b hb hne) fun k hk => ha.shape k hk ?_
  obtain ⟨_, _, _, h2, _⟩ := h
  exact (h2.lt k hk).2

/-- What a call that grows the buffer leaves. -/
def Grown (B b : Nat) (w w' : World) : Prop := (∃ v0, Avail B b w' v0) ∧ Below B w w' ∧ w.grownBy w' (some b)

theorem grown_of {B b : Nat} {xs : List Value} {w w' : World} (hI : Lib.IsBuffer 44 5 B b xs w') (hb : Below B w w') (hg : w.grownBy w' (some b)) {ao : Option Addr} {l cap : Nat} (hc : w'.cell? ⟨b, 0, none⟩ = some (.slice ao l cap)) :
    Grown B b w (w'.setCell ⟨b, 0, none⟩ (.slice ao 0 cap)) := by
  obtain ⟨hB, v, lr, hbk, hown, hne⟩ := hI
  have hv : v = .slice ao l cap := by
    rw [Lib.cell_of_heap hbk] at hc
    exact Option.some.inj hc
  subst hv
  refine ⟨⟨.slice ao 0 cap, hB, lr, Lib.heap_setCell_same (i := 0) hbk _, ?_, ?_⟩, hb.setCell (p := ⟨b, 0, none⟩) hB _, Lib.grownBy_trans hg (Lib.grownBy_setCell _ b 0 _)⟩
  · refine ⟨rfl, ?_⟩
    rcases hown.2 with ⟨hv, h0⟩ | ⟨g, cap', cur, hv, h1, h2, h3, h4, h5, h6⟩
    · cases hv
      exact .inl ⟨rfl, rfl⟩
    · cases hv
      refine .inr ⟨g, _, cur, rfl, h1, ?_, Nat.zero_le _, h4, h5, by simp⟩
      exact (Below.heap_setCell _ _ _ _ (fun e : g = b => hne (by rw [← e]; rfl))).trans h2
  · cases ao with
    | none => simp [Value.ownBlock]
    | some a => exact hne

theorem grown_at {B b n : Nat} {xs : List Value} {w w' : World} (hn : 0 < n) (hl : xs.length = n) (hI : Lib.IsBuffer 44 5 B b xs w') (hb : Below B w w') (hg : w.grownBy w' (some b)) :
    (∀ ao l cap, w'.cell? ⟨b, 0, none⟩ = some (.slice ao l cap) → Grown B b w (w'.setCell ⟨b, 0, none⟩ (.slice ao 0 cap))) ∧
    ∃ g l cap : Nat, (cap : Int) ≤ 9223372036854775807 ∧ w'.cell? ⟨b, 0, none⟩ = some (.slice (some ⟨g, 0, none⟩) l cap) ∧ w'.frozen? ⟨b, 0, none⟩ = false := by
  refine ⟨fun ao l cap => grown_of hI hb hg, ?_⟩
  obtain ⟨_, lr, hc⟩ := hI.cases
  rcases hc with ⟨h0, _⟩ | ⟨g, cap, cur, hbk, _, _, _, hcm, _⟩
  · rw [h0] at hl; simp at hl; omega
  · exact ⟨g, xs.length, cap, by unfold maxLen at hcm; omega, by rw [Lib.cell_of_heap hbk]; rfl, Lib.frozen_of_heap hbk 0⟩

set_option maxRecDepth 100000 in
set_option maxHeartbeats 1000000 in
theorem grow0_any (b : Nat) (lr : Int) (w : World) (h : w.heap[b]? = some (.cells #[.slice none 0 0, .int .i64 0, .int .i8 lr] 44 (0, 0))) :
    Calls Tryz.prog 45 #[.pointer (some ⟨b, 0, none⟩), .int .i64 0] w fun e w' => e = .returned (.int .i64 0) ∧ ∃ n, w' = (w.drewN n).setCell ⟨b, 0, none⟩ (.slice none 0 0) := by
  have hI : Lib.IsBuffer 44 5 b b [] w := ⟨Nat.le_refl _, _, _, h, World.ownsRow_nil _ _ _ _, by simp [Value.ownBlock]⟩
  have HI := Lib.hid hI
  have c0 : w.cell? ⟨b, 0, none⟩ = some (.slice none 0 0) := by rw [Lib.cell_of_heap h]; rfl
  have c1 : w.cell? ⟨b, 1, none⟩ = some (.int .i64 0) := by rw [Lib.cell_of_heap h]; rfl
  have f0 := Lib.frozen_of_heap h 0
  clear hI h
  go_enter Tryz.func45, Tryz.ntmps45
  go_wp2_with (first
    | go_at_call 55; refine (Tryz.Buffer_Len b b _ _ HI.out).mono ?_; rintro e w1 ⟨rfl, n, rfl⟩
    | go_at_call 47; refine (Tryz.Buffer_tryGrow_room b none 0 0 0 _ (by exact c0) (by exact f0) (Nat.le_refl _) (Nat.zero_le _) (Nat.zero_le _)).mono ?_; rintro e w2 ⟨rfl, rfl⟩)
  go_ret
  exact ⟨rfl, n, rfl⟩

set_option maxRecDepth 100000 in
set_option maxHeartbeats 1000000 in
theorem growN_any (B b n : Nat) (hn : 0 < n) (hlim : n ≤ 140737488355328) (lr : Int) (w : World) (hB : B ≤ b) (h : w.heap[b]? = some (.cells #[.slice none 0 0, .int .i64 0, .int .i8 lr] 44 (0, 0))) :
    Calls Tryz.prog 30 #[.pointer (some ⟨b, 0, none⟩), .int .i64 n] w fun e w' => e = .returned (.tuple #[]) ∧ Grown B b w w' := by
  have hI : Lib.IsBuffer 44 5 B b [] w := ⟨hB, _, _, h, World.ownsRow_nil _ _ _ _, by simp [Value.ownBlock]⟩
  have hnr : Lib.NoRoom b n w := ⟨none, 0, 0, by rw [Lib.cell_of_heap h]; rfl, by omega⟩
  have hBw : B ≤ w.heap.size := Nat.le_trans hB (Nat.le_of_lt (Lib.lt_of_heap h))
  have HI := Lib.hid hI
  have HN := Lib.hid hnr
  clear hI hnr h
  go_enter Tryz.func30, Tryz.ntmps30
  go_wp2_with (go_at_call 45; refine (Tryz.Buffer_grow_own B b n [] _ HI.out HN.out hBw (fun _ h => nomatch h) (by simpa using hlim)).mono ?_; rintro e w1 ⟨rfl, xs, hxl, hI1, hbel, _, hg⟩; have HG := Lib.hid (grown_at hn hxl hI1 hbel hg); clear hxl hI1 hbel hg; obtain ⟨g, l, cap, hcm, c0, f0⟩ := HG.out.2)
  go_end0
  exact ⟨rfl, HG.out.1 _ _ _ (by assumption)⟩

end Go.Proofs.YtlmhpmbgalmpgaaGreatDoor
