/-
  The page's escapes, as a plain function.
-/
import Derived.Test.YtlmhpmbgalmpgaaGreatDoorPl2
namespace Go.Proofs.YtlmhpmbgalmpgaaGreatDoor.Js

def spec1 (c : UInt8) : Bool := c == 60 || c == 62 || c == 38

def escOf (c : UInt8) : List UInt8 := [92, 117, 48, 48, if c == 38 then 50 else 51, if c == 60 then 99 else if c == 62 then 101 else 54]

def isSep : List UInt8 → Bool
  | a :: b :: x :: _ => a == 226 && b == 128 && (x == 168 || x == 169)
  | _ => false

def sepOf : List UInt8 → List UInt8
  | _ :: _ :: x :: _ => [92, 117, 50, 48, 50, if x == 168 then 56 else 57]
  | _ => []

def esc (l : List UInt8) : List UInt8 :=
  match l with
  | [] => []
  | c :: r => if spec1 c then escOf c ++ esc r else if isSep (c :: r) then sepOf (c :: r) ++ esc (r.drop 2) else c :: esc r
termination_by l.length

theorem esc_nil : esc [] = [] := by rw [esc]
theorem esc_spec {c : UInt8} (h : spec1 c = true) (r : List UInt8) : esc (c :: r) = escOf c ++ esc r := by rw [esc, if_pos h]
theorem esc_sep {c : UInt8} {r : List UInt8} (h0 : spec1 c = false) (h : isSep (c :: r) = true) : esc (c :: r) = sepOf (c :: r) ++ esc (r.drop 2) := by rw [esc, if_neg (by simp [h0]), if_pos h]
theorem esc_plain {c : UInt8} {r : List UInt8} (h0 : spec1 c = false) (h : isSep (c :: r) = false) : esc (c :: r) = c :: esc r := by rw [esc, if_neg (by simp [h0]), if_neg (by simp [h])]

theorem escOf_length (c : UInt8) : (escOf c).length = 6 := rfl

theorem isSep_iff {l : List UInt8} : isSep l = true ↔ ∃ x r, l = 226 :: 128 :: x :: r ∧ (x = 168 ∨ x = 169) := by
  constructor
  · intro h
    match l, h with
    | a :: b :: x :: r, h =>
      simp only [isSep, Bool.and_eq_true, Bool.or_eq_true, beq_iff_eq] at h
      obtain ⟨⟨h1, h2⟩, h3⟩ := h
      subst h1; subst h2
      exact ⟨x, r, rfl, h3⟩
  · rintro ⟨x, r, rfl, h⟩
    simpa [isSep] using h

/-- A loop over the text at place k; what stands from st on is not written yet. -/
structure HInv (l : List UInt8) (k st : Nat) (ks : List UInt8) : Prop where
  kle : k ≤ l.length
  sle : st ≤ l.length
  eq : ks ++ (l.drop st).take (k - st) ++ esc (l.drop (max k st)) = esc l
  mid : ∀ j (h : j < l.length), k ≤ j → j < st → l[j] = 128 ∨ l[j] = 168 ∨ l[j] = 169
  len : ks.length ≤ 6 * st

theorem HInv.start (l : List UInt8) : HInv l 0 0 [] := ⟨Nat.zero_le _, Nat.zero_le _, by simp, fun _ _ _ h => absurd h (Nat.not_lt_zero _), Nat.le_refl _⟩

theorem HInv.done {l : List UInt8} {st : Nat} {ks : List UInt8} (h : HInv l l.length st ks) : ks ++ l.drop st = esc l := by
  have := h.eq
  have hs := h.sle
  rw [Nat.max_eq_left hs, List.drop_length, esc_nil, List.append_nil, List.take_of_length_le (by simp)] at this
  exact this

theorem HInv.skip {l : List UInt8} {k st : Nat} {ks : List UInt8} (h : HInv l k st ks) (hk : k < l.length) (hs : spec1 l[k] = false) (hp : isSep (l.drop k) = false ∨ k < st) : HInv l (k + 1) st ks := by
  refine ⟨hk, h.sle, ?_, fun j hj h1 h2 => h.mid j hj (by omega) h2, h.len⟩
  by_cases hks : k < st
  · have := h.eq
    rw [Nat.max_eq_right (by omega), show k - st = 0 by omega] at this
    rw [Nat.max_eq_right (by omega), show k + 1 - st = 0 by omega]
    exact this
  · have := h.eq
    have hn : isSep (l.drop k) = false := hp.resolve_right hks
    rw [Nat.max_eq_left (by omega), List.drop_eq_getElem_cons hk] at this
    rw [List.drop_eq_getElem_cons hk] at hn
    rw [esc_plain hs hn] at this
    rw [Nat.max_eq_left (by omega), show k + 1 - st = (k - st) + 1 by omega, List.take_succ_eq_append_getElem (by rw [List.length_drop]; omega)]
    rw [List.getElem_drop]
    simp only [show st + (k - st) = k by omega]
    rw [← this]
    simp

theorem HInv.spec {l : List UInt8} {k st : Nat} {ks : List UInt8} (h : HInv l k st ks) (hk : k < l.length) (hs : spec1 l[k] = true) : st ≤ k ∧ HInv l (k + 1) (k + 1) (ks ++ (l.drop st).take (k - st) ++ escOf l[k]) := by
  have hst : st ≤ k := by
    rcases Nat.lt_or_ge k st with h1 | h1
    · rcases h.mid k hk (Nat.le_refl _) h1 with e | e | e <;> exact absurd (e ▸ hs) (by decide)
    · exact h1
  refine ⟨hst, hk, hk, ?_, fun j hj h1 h2 => absurd h1 (by omega), ?_⟩
  · have := h.eq
    rw [Nat.max_eq_left hst, List.drop_eq_getElem_cons hk, esc_spec hs] at this
    rw [Nat.max_self, Nat.sub_self, List.take_zero, List.append_nil, ← this]
    simp
  · simp only [List.length_append, escOf_length, List.length_take, List.length_drop]
    have := h.len
    omega

theorem HInv.sep {l : List UInt8} {k st : Nat} {ks : List UInt8} (h : HInv l k st ks) (hk : k + 2 < l.length) (h0 : l[k] = 226) (h1 : l[k + 1] = 128) (h2 : l[k + 2] = 168 ∨ l[k + 2] = 169) :
    st ≤ k ∧ HInv l (k + 1) (k + 3) (ks ++ (l.drop st).take (k - st) ++ [92, 117, 50, 48, 50, if l[k + 2] == 168 then 56 else 57]) := by
  have hst : st ≤ k := by
    rcases Nat.lt_or_ge k st with h4 | h4
    · rcases h.mid k (by omega) (Nat.le_refl _) h4 with e | e | e <;> exact absurd (e.symm.trans h0) (by decide)
    · exact h4
  have hd : l.drop k = 226 :: 128 :: l[k + 2] :: l.drop (k + 3) := by
    rw [List.drop_eq_getElem_cons (by omega : k < l.length), List.drop_eq_getElem_cons (by omega : k + 1 < l.length), List.drop_eq_getElem_cons hk, h0, h1]
  refine ⟨hst, by omega, by omega, ?_, fun j hj h3 h4 => ?_, ?_⟩
  · have := h.eq
    rw [Nat.max_eq_left hst, hd, esc_sep (by decide) (isSep_iff.2 ⟨_, _, rfl, h2⟩)] at this
    rw [Nat.max_eq_right (by omega), show k + 1 - (k + 3) = 0 by omega, List.take_zero, List.append_nil, ← this]
    simp [sepOf]
  · have hj' : j = k + 1 ∨ j = k + 2 := by omega
    rcases hj' with rfl | rfl
    · exact .inl h1
    · exact .inr h2
  · simp only [List.length_append, List.length_take, List.length_drop, List.length_cons, List.length_nil]
    have := h.len
    omega

/-- Why a text does not go on as one of the two separators. -/
theorem isSep_no {l : List UInt8} {k : Nat} (hk : k < l.length) (h : isSep (l.drop k) = false) :
    l[k] ≠ 226 ∨ (l[k] = 226 ∧ ¬ k + 2 < l.length) ∨ (∃ h2 : k + 2 < l.length, l[k] = 226 ∧ l[k + 1] ≠ 128) ∨ ∃ h2 : k + 2 < l.length, l[k] = 226 ∧ l[k + 1] = 128 ∧ l[k + 2] ≠ 168 ∧ l[k + 2] ≠ 169 := by
  by_cases h0 : l[k] = 226
  · by_cases h2 : k + 2 < l.length
    · by_cases h1 : l[k + 1] = 128
      · refine .inr (.inr (.inr ⟨h2, h0, h1, ?_⟩))
        rw [List.drop_eq_getElem_cons hk, List.drop_eq_getElem_cons (by omega : k + 1 < l.length), List.drop_eq_getElem_cons h2, h0, h1] at h
        simpa [isSep] using h
      · exact .inr (.inr (.inl ⟨h2, h0, h1⟩))
    · exact .inr (.inl ⟨h0, h2⟩)
  · exact .inl h0

/-- Or does. -/
theorem isSep_yes {l : List UInt8} {k : Nat} (hk : k < l.length) (h : isSep (l.drop k) = true) : ∃ h2 : k + 2 < l.length, l[k] = 226 ∧ l[k + 1] = 128 ∧ (l[k + 2] = 168 ∨ l[k + 2] = 169) := by
  obtain ⟨x, r, hd, hx⟩ := isSep_iff.1 h
  have hlen : (l.drop k).length = r.length + 3 := by rw [hd]; rfl
  rw [List.length_drop] at hlen
  have h2 : k + 2 < l.length := by omega
  rw [List.drop_eq_getElem_cons hk, List.drop_eq_getElem_cons (by omega : k + 1 < l.length), List.drop_eq_getElem_cons h2] at hd
  injection hd with e1 e2
  injection e2 with e2 e3
  injection e3 with e3 _
  exact ⟨h2, e1, e2, by rw [e3]; exact hx⟩

end Go.Proofs.YtlmhpmbgalmpgaaGreatDoor.Js
