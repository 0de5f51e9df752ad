/-
  Indent's loop, as a plain invariant.
-/
import Derived.Test.YtlmhpmbgalmpgaaGreatDoorPl9
namespace Go.Proofs.YtlmhpmbgalmpgaaGreatDoor.Js

/-- The line that is owed ahead of a byte. -/
def iA (p i : List UInt8) (nd : Bool) (d : Int) (v : Nat) : List UInt8 × Bool × Int :=
  if (nd && !(v == 5 || v == 8)) = true then (nl p i (d + 1), false, d + 1) else ([], nd, d)

/-- The byte itself. -/
def iB (p i : List UInt8) (nd : Bool) (d : Int) (v : Nat) (c : UInt8) : List UInt8 × Bool × Int :=
  if v = 0 then ([c], nd, d)
  else if c = 123 ∨ c = 91 then ([c], true, d)
  else if c = 44 then (c :: nl p i d, nd, d)
  else if c = 58 then ([c, 32], nd, d)
  else if c = 125 ∨ c = 93 then (if nd then ([c], false, d) else (nl p i (d - 1) ++ [c], false, d - 1))
  else ([c], nd, d)

theorem istep_eq (p i : List UInt8) (nd : Bool) (d : Int) (v : Nat) (c : UInt8) :
    istep p i nd d v c = ((iA p i nd d v).1 ++ (iB p i (iA p i nd d v).2.1 (iA p i nd d v).2.2 v c).1, (iB p i (iA p i nd d v).2.1 (iA p i nd d v).2.2 v c).2) := by
  unfold istep iA iB
  cases nd
  · simp only [Bool.false_and, Bool.false_eq_true, if_false, List.nil_append]
    repeat' split
    all_goals simp_all
  · cases hb : (v == 5 || v == 8)
    · simp only [Bool.not_false, Bool.and_self, if_true, Bool.not_true, Bool.and_false]
      repeat' split
      all_goals simp_all
    · simp only [Bool.not_true, Bool.and_false, Bool.false_eq_true, if_false, Bool.not_false, Bool.and_self, List.nil_append]
      repeat' split
      all_goals simp_all

theorem reps_len (n : Nat) (u : List UInt8) : (reps n u).length = n * u.length := by
  induction n with
  | zero => simp [reps]
  | succ n ih => rw [reps, List.length_append, ih, Nat.succ_mul]

theorem nl_len {p i : List UInt8} (hp : p.length ≤ 20) (hi : i.length ≤ 20) {d : Int} {k : Nat} (hd : d ≤ k) : (nl p i d).length ≤ 21 + k * 20 := by
  have h1 : d.toNat * i.length ≤ k * 20 := Nat.mul_le_mul (by omega) hi
  simp only [nl, List.length_cons, List.length_append, reps_len]
  omega

/-- A loop over the text at place k. -/
structure IInv (p i l : List UInt8) (k : Nat) (nd : Bool) (d : Int) (ks : List UInt8) : Prop where
  kle : k ≤ l.length
  eq : ks ++ ind p i (run init (l.take k)) nd d (l.drop k) = ind p i init false 0 l
  dle : d ≤ k
  dge : -(k : Int) ≤ d
  len : ks.length ≤ k * 200000

theorem IInv.start (p i l : List UInt8) : IInv p i l 0 false 0 [] := ⟨Nat.zero_le _, by simp [run], Int.le_refl _, by decide, Nat.zero_le _⟩

theorem IInv.done {p i l : List UInt8} {nd : Bool} {d : Int} {ks : List UInt8} (h : IInv p i l l.length nd d ks) : ks = ind p i init false 0 l := by
  have := h.eq
  rw [List.drop_length, ind, List.append_nil] at this
  exact this

theorem IInv.blank {p i l : List UInt8} {k : Nat} {nd : Bool} {d : Int} {ks : List UInt8} (h : IInv p i l k nd d ks) (hk : k < l.length) (hv : (step (run init (l.take k)) l[k].toNat).2 = 9) : IInv p i l (k + 1) nd d ks := by
  have h1 := h.eq
  rw [List.drop_eq_getElem_cons hk, ind_blank hv] at h1
  have h2 := h.dle
  have h3 := h.dge
  have h4 := h.len
  exact ⟨hk, (by rw [run_take_succ hk]; exact h1), (by omega), (by omega), Nat.le_trans h4 (Nat.mul_le_mul_right _ (Nat.le_succ _))⟩

theorem iA_len {p i : List UInt8} (hp : p.length ≤ 20) (hi : i.length ≤ 20) (nd : Bool) {d : Int} (v : Nat) {k : Nat} (hd : d ≤ k) (hd' : -(k : Int) ≤ d) (hk : k ≤ 4000) :
    (iA p i nd d v).1.length ≤ 90000 ∧ (iA p i nd d v).2.2 ≤ k + 1 ∧ -(k : Int) ≤ (iA p i nd d v).2.2 := by
  unfold iA
  split
  · have := nl_len hp hi (d := d + 1) (k := k + 1) (by omega)
    exact ⟨by show (nl p i (d + 1)).length ≤ _; omega, by show d + 1 ≤ (k : Int) + 1; omega, by show -(k : Int) ≤ d + 1; omega⟩
  · exact ⟨Nat.zero_le _, by show d ≤ (k : Int) + 1; omega, hd'⟩

theorem iB_len {p i : List UInt8} (hp : p.length ≤ 20) (hi : i.length ≤ 20) (nd : Bool) {d : Int} (v : Nat) (c : UInt8) {k q : Nat} (hd : d ≤ k) (hd' : -(q : Int) ≤ d) (hk : k ≤ 4001) :
    (iB p i nd d v c).1.length ≤ 90000 ∧ (iB p i nd d v c).2.2 ≤ k ∧ -(q : Int) - 1 ≤ (iB p i nd d v c).2.2 := by
  have n1 := nl_len hp hi (d := d) (k := k) hd
  have n2 := nl_len hp hi (d := d - 1) (k := k) (by omega)
  unfold iB
  repeat' split
  all_goals
    refine ⟨?_, ?_, ?_⟩
    all_goals simp only [List.length_cons, List.length_append, List.length_nil]
    all_goals omega

theorem IInv.byte {p i l : List UInt8} {k : Nat} {nd : Bool} {d : Int} {ks : List UInt8} (h : IInv p i l k nd d ks) (hp : p.length ≤ 20) (hi : i.length ≤ 20) (hl : l.length ≤ 4000) (hk : k < l.length)
    (h9 : (step (run init (l.take k)) l[k].toNat).2 ≠ 9) (h11 : (step (run init (l.take k)) l[k].toNat).2 ≠ 11) {v : Nat} (hv : (step (run init (l.take k)) l[k].toNat).2 = v) :
    IInv p i l (k + 1) (iB p i (iA p i nd d v).2.1 (iA p i nd d v).2.2 v l[k]).2.1 (iB p i (iA p i nd d v).2.1 (iA p i nd d v).2.2 v l[k]).2.2
      (ks ++ (iA p i nd d v).1 ++ (iB p i (iA p i nd d v).2.1 (iA p i nd d v).2.2 v l[k]).1) := by
  have h1 := h.eq
  rw [List.drop_eq_getElem_cons hk, ind_byte h9 h11, hv, istep_eq] at h1
  obtain ⟨a1, a2, a3⟩ := iA_len hp hi nd v h.dle h.dge (by omega)
  obtain ⟨b1, b2, b3⟩ := iB_len hp hi (iA p i nd d v).2.1 v l[k] (k := k + 1) (q := k) (d := (iA p i nd d v).2.2) (by omega) a3 (by omega)
  have h4 := h.len
  refine ⟨hk, ?_, by omega, ?_, ?_⟩
  · rw [run_take_succ hk, ← h1]
    simp
  · omega
  · simp only [List.length_append]
    omega

end Go.Proofs.YtlmhpmbgalmpgaaGreatDoor.Js
