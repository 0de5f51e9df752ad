/-
  What Indent writes of a text, as a plain function over the machine, and by tokens.
-/
import Derived.Test.YtlmhpmbgalmpgaaGreatDoorPl8
namespace Go.Proofs.YtlmhpmbgalmpgaaGreatDoor.Js

/-- So many times the same bytes. -/
def reps : Nat → List UInt8 → List UInt8
  | 0, _ => []
  | n + 1, u => reps n u ++ u

/-- A new line. -/
def nl (p i : List UInt8) (d : Int) : List UInt8 := 10 :: (p ++ reps d.toNat i)

/-- What one byte writes: is a line owed, how deep, the scanner's word, the byte. -/
def istep (p i : List UInt8) (nd : Bool) (d : Int) (v : Nat) (c : UInt8) : List UInt8 × Bool × Int :=
  let b := nd && !(v == 5 || v == 8)
  let nd1 := nd && !b
  let d1 := if b then d + 1 else d
  let pre := if b then nl p i d1 else []
  if v = 0 then (pre ++ [c], nd1, d1)
  else if c = 123 ∨ c = 91 then (pre ++ [c], true, d1)
  else if c = 44 then (pre ++ c :: nl p i d1, nd1, d1)
  else if c = 58 then (pre ++ [c, 32], nd1, d1)
  else if c = 125 ∨ c = 93 then (if nd1 then (pre ++ [c], false, d1) else (pre ++ nl p i (d1 - 1) ++ [c], false, d1 - 1))
  else (pre ++ [c], nd1, d1)

def ind (p i : List UInt8) : M → Bool → Int → List UInt8 → List UInt8
  | _, _, _, [] => []
  | m, nd, d, c :: r =>
    if (step m c.toNat).2 = 9 then ind p i (step m c.toNat).1 nd d r
    else if (step m c.toNat).2 = 11 then []
    else (istep p i nd d (step m c.toNat).2 c).1 ++ ind p i (step m c.toNat).1 (istep p i nd d (step m c.toNat).2 c).2.1 (istep p i nd d (step m c.toNat).2 c).2.2 r

theorem ind_blank {p i : List UInt8} {m : M} {nd : Bool} {d : Int} {c : UInt8} {r : List UInt8} (h : (step m c.toNat).2 = 9) : ind p i m nd d (c :: r) = ind p i (step m c.toNat).1 nd d r := by
  rw [ind, if_pos h]

theorem ind_byte {p i : List UInt8} {m : M} {nd : Bool} {d : Int} {c : UInt8} {r : List UInt8} (h9 : (step m c.toNat).2 ≠ 9) (h11 : (step m c.toNat).2 ≠ 11) :
    ind p i m nd d (c :: r) = (istep p i nd d (step m c.toNat).2 c).1 ++ ind p i (step m c.toNat).1 (istep p i nd d (step m c.toNat).2 c).2.1 (istep p i nd d (step m c.toNat).2 c).2.2 r := by
  rw [ind, if_neg h9, if_neg h11]

/-- Within a token. -/
theorem ind_eat (p i : List UInt8) (d : Int) : ∀ (u : List UInt8) (m m' : M), eat m u = some m' → ∀ r, ind p i m false d (u ++ r) = u ++ ind p i m' false d r
  | [], m, m', h, r => by
    have := Option.some.inj h
    rw [this]; rfl
  | c :: u, m, m', h, r => by
    by_cases h0 : (step m c.toNat).2 = 0
    · rw [eat_cons h0] at h
      rw [List.cons_append, ind_byte (by omega) (by omega), h0]
      have e : istep p i false d 0 c = ([c], false, d) := by simp [istep]
      rw [e, ind_eat p i d u _ m' h r]
      rfl
    · rw [eat, if_neg h0] at h
      cases h

theorem Same.ind {m m' : M} {r : List UInt8} (h : Same m m' r) (p i : List UInt8) (nd : Bool) (d : Int) : ind p i m nd d r = ind p i m' nd d r := by
  cases r with
  | nil => rfl
  | cons c r =>
    have := h.st c r rfl
    unfold Js.ind
    rw [this]

/-- What a token writes. -/
def tstep (p i : List UInt8) (nd : Bool) (d : Int) (t : List UInt8) : List UInt8 × Bool × Int :=
  let cl := t == [93] || t == [125]
  let b := nd && !cl
  let d1 := if b then d + 1 else d
  let pre := if b then nl p i d1 else []
  if cl then (if nd then (t, false, d) else (nl p i (d - 1) ++ t, false, d - 1))
  else if t = [44] then (pre ++ t ++ nl p i d1, false, d1)
  else if t = [58] then (pre ++ [58, 32], false, d1)
  else (pre ++ t, t == [91] || t == [123], d1)

theorem struc_not' {c : UInt8} (h : struc c = false) : c ≠ 91 ∧ c ≠ 93 ∧ c ≠ 123 ∧ c ≠ 125 ∧ c ≠ 44 ∧ c ≠ 58 := by
  simp only [struc, Bool.or_eq_false_iff, beq_eq_false_iff_ne] at h
  obtain ⟨⟨⟨⟨⟨h1, h2⟩, h3⟩, h4⟩, h5⟩, h6⟩ := h
  exact ⟨h1, h2, h3, h4, h5, h6⟩

theorem piece_struc {c : UInt8} (h : struc c = true) (r : List UInt8) : piece (c :: r) = ([c], r) := by
  have h34 : (c == 34) = false := by
    rw [beq_eq_false_iff_ne]
    rintro rfl
    revert h; decide
  simp [piece, h34, h]

/-- The first byte of a token writes what the token writes, but for the token's other bytes. -/
theorem istep_tstep (p i : List UInt8) (nd : Bool) (d : Int) (v : Nat) (c : UInt8) (u : List UInt8) (h0 : v ≠ 0) (hv : (v = 5 ∨ v = 8) ↔ (c = 93 ∨ c = 125)) (hu : struc c = true → u = []) :
    (tstep p i nd d (c :: u)).1 = (istep p i nd d v c).1 ++ u ∧ (tstep p i nd d (c :: u)).2 = (istep p i nd d v c).2 ∧ (u ≠ [] → (istep p i nd d v c).2.1 = false) := by
  have hb : (v == 5 || v == 8) = (c == 93 || c == 125) := by
    rw [Bool.eq_iff_iff]
    simpa [Bool.or_eq_true, beq_iff_eq] using hv
  cases hs : struc c with
  | true =>
    have := hu hs
    subst this
    simp only [istep, tstep, hb, if_neg h0]
    have hc : c = 91 ∨ c = 93 ∨ c = 123 ∨ c = 125 ∨ c = 44 ∨ c = 58 := by
      simp only [struc, Bool.or_eq_true, beq_iff_eq] at hs
      rcases hs with ((((h | h) | h) | h) | h) | h <;> simp [h]
    rcases hc with rfl | rfl | rfl | rfl | rfl | rfl <;> cases nd <;> simp
  | false =>
    obtain ⟨n1, n2, n3, n4, n5, n6⟩ := struc_not' hs
    simp only [istep, tstep, hb, if_neg h0]
    have q1 : (c == 91) = false := beq_eq_false_iff_ne.2 n1
    have q2 : (c == 93) = false := beq_eq_false_iff_ne.2 n2
    have q3 : (c == 123) = false := beq_eq_false_iff_ne.2 n3
    have q4 : (c == 125) = false := beq_eq_false_iff_ne.2 n4
    cases nd <;> simp [n1, n2, n3, n4, n5, n6, q1, q2, q3, q4]

/-- A token, written. -/
theorem ind_token {p i : List UInt8} {m : M} {c : UInt8} {u rest : List UInt8} {m1 m2 : M} (nd : Bool) (d : Int) (e2 : piece (c :: (u ++ rest)) = (c :: u, rest)) (e3 : eat (step m c.toNat).1 u = some m1) (e5 : Same m1 m2 rest)
    (e6 : 1 ≤ (step m c.toNat).2) (e7 : (step m c.toNat).2 < 9) (e8 : ((step m c.toNat).2 = 5 ∨ (step m c.toNat).2 = 8) ↔ (c = 93 ∨ c = 125)) :
    ind p i m nd d (c :: (u ++ rest)) = (tstep p i nd d (c :: u)).1 ++ ind p i m2 (tstep p i nd d (c :: u)).2.1 (tstep p i nd d (c :: u)).2.2 rest := by
  have hu : struc c = true → u = [] := fun h => by
    rw [piece_struc h] at e2
    injection e2 with e _
    injection e with _ e
    exact e.symm
  obtain ⟨t1, t2, t3⟩ := istep_tstep p i nd d (step m c.toNat).2 c u (by omega) e8 hu
  rw [ind_byte (by omega) (by omega), t1, t2]
  cases u with
  | nil =>
    have : (step m c.toNat).1 = m1 := Option.some.inj e3
    rw [this, List.nil_append, e5.ind, List.append_nil]
  | cons a u =>
    rw [t3 (by simp), ind_eat p i _ (a :: u) _ m1 e3, e5.ind]
    simp

end Go.Proofs.YtlmhpmbgalmpgaaGreatDoor.Js
