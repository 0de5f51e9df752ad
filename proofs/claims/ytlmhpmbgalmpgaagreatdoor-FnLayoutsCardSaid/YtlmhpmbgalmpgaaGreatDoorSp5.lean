/-
  The reference's reader of words.
-/
import Derived.Test.YtlmhpmbgalmpgaaGreatDoorSp4
import Derived.Lib.OthersKept
namespace Go.Proofs.YtlmhpmbgalmpgaaGreatDoor
open Go.RowKit Go.Lib

/-- A word's bytes. -/
def wordOf (t : ByteArray) : List Nat := t.data.toList.map (·.toNat)
theorem wordOf_length (t : ByteArray) : (wordOf t).length = t.size := by simp [wordOf]
theorem wordOf_drop (t : ByteArray) (p : Nat) (h : p < t.size) : (wordOf t).drop p = t[p].toNat :: (wordOf t).drop (p + 1) := by
  rw [List.drop_eq_getElem_cons (by rw [wordOf_length]; exact h)]
  simp [wordOf]
  rfl

theorem Rs.iter {w : World} {g k : Nat} {s : ByteArray} {b : Int} (h : Rs w g s b) (hk : g ≠ k) (t : ByteArray) (p : Nat) : Rs (w.iterAt k t p) g s b := (iterAt_other w k g t p hk).trans h
theorem Only.iter {g k : Nat} {w w' : World} (h : Only g w w') (hk : w.heap.size ≤ k) (t : ByteArray) (p : Nat) : Only g w (w'.iterAt k t p) := by
  refine ⟨h.os, h.tape, h.output, ?_, fun i hi hg => (iterAt_other w' k i t p (by omega)).trans (h.block i hi hg)⟩
  have := h.size
  simp [World.iterAt]
  exact this

theorem Rs.drew {w : World} {g : Nat} {s : ByteArray} {b : Int} (h : Rs w g s b) (n : Nat) : Rs (w.drewN n) g s b := h
theorem Only.drew {g : Nat} {w w' : World} (h : Only g w w') (n : Nat) : Only g w (w'.drewN n) := ⟨h.os, h.tape, h.output, h.size, h.block⟩

set_option maxRecDepth 100000 in
set_option maxHeartbeats 4000000 in
theorem word_any (s : ByteArray) (hs : s.size ≤ 1000000) (t : ByteArray) (ht : t.size ≤ 1000) (hasc : ∀ p (h : p < t.size), t[p].toNat < 128) (g : Nat) (a : Int) (k : Nat) (ha : a = (k : Int)) (hk : k ≤ s.size) (w : World) (h : Rs w g s (-1)) :
    Calls Tryz.prog 38 #[.pointer (some ⟨g, 0, none⟩), .int .i64 a, .string t] w (Rd s g w (Js.pWord (wordOf t) (At s k))) := by
  subst ha
  have hglt := h.lt
  have HR0 := Lib.hid h
  clear h
  go_enter Tryz.func38, Tryz.ntmps38
  go_wp2_with fail
  go_loopg [7] t.size (fun gk _ wr => ∃ p : Nat, gk + p = t.size ∧ k + p ≤ s.size ∧ wr.heap[w.heap.size]? = some (.stringIter t p) ∧ Js.pWord (wordOf t) (At s k) = Js.pWord ((wordOf t).drop p) (At s (k + p)) ∧ Rs wr g s (-1) ∧ Only g w wr)
  case atStart =>
    refine ⟨0, by omega, by omega, ?_, rfl, ?_, ?_⟩
    · exact heap_alloc_new w _
    · exact (Below.heap_alloc w _ g hglt).trans HR0.out
    · exact ⟨rfl, rfl, rfl, by simp [World.iter], fun i hi _ => Below.heap_alloc w _ i hi⟩
  case round =>
    obtain ⟨p, hgp, hkp, hit, hpw, hr0, ho0⟩ := hrel
    have HG := Lib.hid hgp
    have HX := Lib.hid hpw
    have HR := Lib.hid hr0
    have HO := Lib.hid ho0
    have HIT := Lib.hid hit
    clear hgp hpw ho0
    by_cases hp : p < t.size
    · have hnx : ∀ ty, (Instr.next (.pointer (some ⟨w.heap.size, 0, none⟩)) true ty).run Tryz.prog wr = _ := fun ty => run_next_ascii_at (P := Tryz.prog) wr w.heap.size t p ty hit hp (hasc p hp)
      have hr1 := hr0.iter (k := w.heap.size) (by omega) t (p + 1)
      have ho1 := HO.out.iter (k := w.heap.size) (Nat.le_refl _) t (p + 1)
      have hit1 := iterAt_heap wr w.heap.size t p (p + 1) hit
      obtain ⟨c0, c1, f0, f1⟩ := hr1.cells
      have HR1 := Lib.hid hr1
      have HO1 := Lib.hid ho1
      have HIT1 := Lib.hid hit1
      clear hr1 ho1 hit1 hit hr0 c1 f0 f1
      go_wp2_with fail
      generalize wr.iterAt w.heap.size t (p + 1) = W at *
      have hsum : IntKind.i64.wrap ((k : Int) + (p : Int)) = (k : Int) + (p : Int) := IntWalk.i64_in _ (by omega)
      have hnn : (0 : Int) ≤ (k : Int) + (p : Int) := by omega
      have htn : ((k : Int) + (p : Int)).toNat = k + p := by omega
      have hpi : (p : Int) < (t.size : Int) := by omega
      by_cases hlt : k + p < s.size
      · have HC := Lib.hid (At_cons s (k + p) hlt)
        have HW := Lib.hid (wordOf_drop t p hp)
        have hlti : (k : Int) + (p : Int) < (s.size : Int) := by omega
        have hd : decide ((s.size : Int) ≤ (k : Int) + (p : Int)) = false := decide_eq_false (by omega)
        by_cases he : (s[k + p].toNat : Int) = (t[p].toNat : Int)
        · have he1 : ((s[k + p].toNat : Int) != (t[p].toNat : Int)) = false := by rw [he]; simp
          have HE := Lib.hid he
          clear he
          clear hsum
          have hsum : IntKind.i64.wrap ((k : Int) + (p : Int)) = (k : Int) + (p : Int) := IntWalk.i64_in _ (by omega)
          go_quiet (fail)
          clear hsum hd he1 c0
          go_wp2_with fail
          go_roundg (t.size - (p + 1))
          case measure => have := HG.out; omega
          case rel =>
            refine ⟨p + 1, by omega, by omega, HIT1.out, ?_, HR1.out.drew _, HO1.out.drew _⟩
            rw [HX.out, HC.out, HW.out, Js.pWord]
            have e : s[k + p].toNat = t[p].toNat := by have := HE.out; omega
            rw [e]
            simp
            rfl
        · have he1 : ((s[k + p].toNat : Int) != (t[p].toNat : Int)) = true := by simpa using he
          have HE := Lib.hid he
          clear he
          go_quiet (fail)
          clear hsum hd he1 c0
          go_wp2_with (first | (go_at_call 21; refine (fail_any s g _ (k + p) (by omega) (by omega) _ (HR1.out.drew nq)).mono ?_; rintro e w' ⟨n, b, rfl, hn, hr, ho⟩))
          go_ret
          rw [HX.out, HC.out, HW.out, Js.pWord, if_neg (by have := HE.out; simp; omega)]
          exact ⟨n, b, rfl, hn, hr, (HO1.out.drew _).trans ho⟩
      · have HC := Lib.hid (At_end s (k + p) (by omega))
        have HW := Lib.hid (wordOf_drop t p hp)
        have hd : decide ((s.size : Int) ≤ (k : Int) + (p : Int)) = true := decide_eq_true (by omega)
        go_quiet (fail)
        clear hsum hd c0
        go_wp2_with (first | (go_at_call 21; refine (fail_any s g _ (k + p) (by omega) (by omega) _ (HR1.out.drew nq)).mono ?_; rintro e w' ⟨n, b, rfl, hn, hr, ho⟩))
        go_ret
        rw [HX.out, HC.out, HW.out, Js.pWord]
        exact ⟨n, b, rfl, hn, hr, (HO1.out.drew _).trans ho⟩
    · have hnx : ∀ ty, (Instr.next (.pointer (some ⟨w.heap.size, 0, none⟩)) true ty).run Tryz.prog wr = _ := fun ty => run_next_end_at (P := Tryz.prog) wr w.heap.size t p ty hit hp
      have hpt : p = t.size := by have := HG.out; omega
      have HPT := Lib.hid hpt
      clear hit hr0 hpt
      go_wp2_with fail
      go_ret
      rw [HX.out, List.drop_eq_nil_of_le (by rw [wordOf_length, HPT.out]; exact Nat.le_refl _)]
      exact ⟨k + p, by rw [HPT.out]; go_num, hkp, rfl, HR.out, HO.out⟩

end Go.Proofs.YtlmhpmbgalmpgaaGreatDoor
