/-
  What Compact keeps of a text, as a plain function over the machine.
-/
import Derived.Test.YtlmhpmbgalmpgaaGreatDoorPl2
namespace Go.Proofs.YtlmhpmbgalmpgaaGreatDoor.Js

/-- The bytes that are kept. -/
def comp : M → List UInt8 → List UInt8
  | _, [] => []
  | m, c :: r => if (step m c.toNat).2 < 9 then c :: comp (step m c.toNat).1 r else if (step m c.toNat).2 = 11 then [] else comp (step m c.toNat).1 r

theorem comp_keep {m : M} {c : UInt8} {r : List UInt8} (h : (step m c.toNat).2 < 9) : comp m (c :: r) = c :: comp (step m c.toNat).1 r := by
  rw [comp, if_pos h]
theorem comp_skip {m : M} {c : UInt8} {r : List UInt8} (h : ¬ (step m c.toNat).2 < 9) (h2 : (step m c.toNat).2 ≠ 11) : comp m (c :: r) = comp (step m c.toNat).1 r := by
  rw [comp, if_neg h, if_neg h2]

theorem comp_le : ∀ (l : List UInt8) (m : M), (comp m l).length ≤ l.length
  | [], _ => Nat.le_refl _
  | c :: r, m => by
    have ih := comp_le r (step m c.toNat).1
    rw [comp]
    split
    · simp only [List.length_cons]; omega
    · split
      · simp
      · simp only [List.length_cons]; omega

/-- A loop over the text at place k; what stands from st on is not written yet. -/
structure CInv (l : List UInt8) (k st : Nat) (ks : List UInt8) : Prop where
  kle : k ≤ l.length
  sle : st ≤ k
  eq : ks ++ (l.drop st).take (k - st) ++ comp (run init (l.take k)) (l.drop k) = comp init l
  len : ks.length ≤ st

theorem CInv.start (l : List UInt8) : CInv l 0 0 [] := ⟨Nat.zero_le _, Nat.le_refl _, by simp [run], Nat.le_refl _⟩

theorem CInv.done {l : List UInt8} {st : Nat} {ks : List UInt8} (h : CInv l l.length st ks) : ks ++ l.drop st = comp init l := by
  have := h.eq
  rw [List.drop_length, comp, List.append_nil, List.take_of_length_le (by simp)] at this
  exact this

theorem run_take_succ {l : List UInt8} {k : Nat} (hk : k < l.length) : run init (l.take (k + 1)) = (step (run init (l.take k)) l[k].toNat).1 := by
  rw [List.take_succ_eq_append_getElem hk, run_append]
  rfl

theorem CInv.keep {l : List UInt8} {k st : Nat} {ks : List UInt8} (h : CInv l k st ks) (hk : k < l.length) (hv : (step (run init (l.take k)) l[k].toNat).2 < 9) : CInv l (k + 1) st ks := by
  have hs := h.sle
  refine ⟨hk, by omega, ?_, h.len⟩
  have := h.eq
  rw [List.drop_eq_getElem_cons hk, comp_keep hv] at this
  rw [show k + 1 - st = (k - st) + 1 by omega, List.take_succ_eq_append_getElem (by rw [List.length_drop]; omega), List.getElem_drop]
  simp only [show st + (k - st) = k by omega]
  rw [run_take_succ hk, ← this]
  simp

theorem CInv.skip {l : List UInt8} {k st : Nat} {ks : List UInt8} (h : CInv l k st ks) (hk : k < l.length) (hv : ¬ (step (run init (l.take k)) l[k].toNat).2 < 9) (h11 : (step (run init (l.take k)) l[k].toNat).2 ≠ 11) :
    CInv l (k + 1) (k + 1) (ks ++ (l.drop st).take (k - st)) := by
  have hs := h.sle
  refine ⟨hk, Nat.le_refl _, ?_, ?_⟩
  · have := h.eq
    rw [List.drop_eq_getElem_cons hk, comp_skip hv h11] at this
    rw [Nat.sub_self, List.take_zero, List.append_nil, run_take_succ hk, ← this]
  · simp only [List.length_append, List.length_take, List.length_drop]
    have := h.len
    omega

end Go.Proofs.YtlmhpmbgalmpgaaGreatDoor.Js
