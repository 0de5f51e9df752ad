/-
  A text by its tokens: all of it. What Compact keeps is the tokens.
-/
import Derived.Test.YtlmhpmbgalmpgaaGreatDoorPl7
namespace Go.Proofs.YtlmhpmbgalmpgaaGreatDoor.Js

theorem bd_pop (st : St) (p : Ps) (S : List Ps) : Bd (pop (mk st (p :: S))) := by
  cases S with
  | nil => exact .et
  | cons q S => exact .ev (q :: S)

/-- Every token is taken. -/
theorem tok {m : M} (hb : Bd m) (c : UInt8) (r : List UInt8) (hsp : sp c.toNat = false) (ha : acc m (c :: r) = true) : Tk m c r := by
  have no : ∀ m : M, acc (fail m).1 r = true → False := fun m h => by rw [acc_fail] at h; cases h
  have ne : ∀ n : UInt8, c ≠ n → (c.toNat == n.toNat) = false := fun n h => beq_eq_false_iff_ne.2 fun e => h (ceq e)
  have ha0 := ha
  rw [acc_cons] at ha
  cases hb with
  | bv S h => exact tok_bv .bv S h c r hsp rfl ha0
  | bvoe S =>
    by_cases h1 : c = 93
    · subst h1
      exact tk_one (by decide) ha0 (show step (mk .bvoe (.arr :: S)) (93 : UInt8).toNat = (pop (mk .bvoe (.arr :: S)), 8) by simp [step, mk, stEv, sp]) (bd_pop _ _ _) (by decide) (by decide) (by decide) (fun h => by rcases h with h | h <;> exact absurd h (by decide))
    · have n1 : (c.toNat == 93) = false := ne 93 h1
      exact tok_bv .bvoe (.arr :: S) (by simp) c r hsp (by simp [step, mk, hsp, n1]) ha0
  | bsoe S =>
    by_cases h1 : c = 125
    · subst h1
      exact tk_one (by decide) ha0 (show step (mk .bsoe (.key :: S)) (125 : UInt8).toNat = (pop (mk .bsoe (.val :: S)), 5) by simp [step, mk, setVal, stEv, sp]) (bd_pop _ _ _) (by decide) (by decide) (by decide) (fun h => by rcases h with h | h <;> exact absurd h (by decide))
    · have n1 : (c.toNat == 125) = false := ne 125 h1
      by_cases h2 : c = 34
      · subst h2
        exact tk_str (S := .key :: S) (by simp [step, mk, stBs, sp, to]) ha0
      · have n2 : (c.toNat == 34) = false := ne 34 h2
        exact (no (mk .bsoe (.key :: S)) (by simpa [step, mk, stBs, hsp, n1, n2] using ha)).elim
  | bs S =>
    by_cases h2 : c = 34
    · subst h2
      exact tk_str (S := .key :: S) (by simp [step, mk, stBs, sp, to]) ha0
    · have n2 : (c.toNat == 34) = false := ne 34 h2
      exact (no (mk .bs (.key :: S)) (by simpa [step, mk, stBs, hsp, n2] using ha)).elim
  | et => exact (no ⟨.et, [], true, false⟩ (by simpa [step, stEt, hsp] using ha)).elim
  | ev S =>
    cases S with
    | nil => exact (no ⟨.et, [], true, false⟩ (by simpa [step, mk, stEv, stEt, hsp] using ha)).elim
    | cons p S =>
      cases p with
      | key =>
        by_cases h1 : c = 58
        · subst h1
          exact tk_one (by decide) ha0 (show step (mk .ev (.key :: S)) (58 : UInt8).toNat = (mk .bv (.val :: S), 3) by simp [step, mk, stEv, sp]) (.bv _ (by simp)) (by decide) (by decide) (by decide) (fun h => by rcases h with h | h <;> exact absurd h (by decide))
        · have n1 : (c.toNat == 58) = false := ne 58 h1
          exact (no (mk .ev (.key :: S)) (by simpa [step, mk, stEv, hsp, n1] using ha)).elim
      | val =>
        by_cases h1 : c = 44
        · subst h1
          exact tk_one (by decide) ha0 (show step (mk .ev (.val :: S)) (44 : UInt8).toNat = (mk .bs (.key :: S), 4) by simp [step, mk, stEv, sp]) (.bs _) (by decide) (by decide) (by decide) (fun h => by rcases h with h | h <;> exact absurd h (by decide))
        · have n1 : (c.toNat == 44) = false := ne 44 h1
          by_cases h2 : c = 125
          · subst h2
            exact tk_one (by decide) ha0 (show step (mk .ev (.val :: S)) (125 : UInt8).toNat = (pop (mk .ev (.val :: S)), 5) by simp [step, mk, stEv, sp]) (bd_pop _ _ _) (by decide) (by decide) (by decide) (fun h => by rcases h with h | h <;> exact absurd h (by decide))
          · have n2 : (c.toNat == 125) = false := ne 125 h2
            exact (no (mk .ev (.val :: S)) (by simpa [step, mk, stEv, hsp, n1, n2] using ha)).elim
      | arr =>
        by_cases h1 : c = 44
        · subst h1
          exact tk_one (by decide) ha0 (show step (mk .ev (.arr :: S)) (44 : UInt8).toNat = (mk .bv (.arr :: S), 7) by simp [step, mk, stEv, sp]) (.bv _ (by simp)) (by decide) (by decide) (by decide) (fun h => by rcases h with h | h <;> exact absurd h (by decide))
        · have n1 : (c.toNat == 44) = false := ne 44 h1
          by_cases h2 : c = 93
          · subst h2
            exact tk_one (by decide) ha0 (show step (mk .ev (.arr :: S)) (93 : UInt8).toNat = (pop (mk .ev (.arr :: S)), 8) by simp [step, mk, stEv, sp]) (bd_pop _ _ _) (by decide) (by decide) (by decide) (fun h => by rcases h with h | h <;> exact absurd h (by decide))
          · have n2 : (c.toNat == 93) = false := ne 93 h2
            exact (no (mk .ev (.arr :: S)) (by simpa [step, mk, stEv, hsp, n1, n2] using ha)).elim

/-- A blank between tokens. -/
theorem blank {m : M} (hb : Bd m) (c : UInt8) (hsp : sp c.toNat = true) : step m c.toNat = (m, 9) ∨ step m c.toNat = (⟨.et, [], true, false⟩, 10) := by
  cases hb with
  | bv S h => exact .inl (by simp [step, mk, stBv, hsp])
  | bvoe S => exact .inl (by simp [step, mk, hsp])
  | bsoe S => exact .inl (by simp [step, mk, hsp])
  | bs S => exact .inl (by simp [step, mk, stBs, hsp])
  | et => exact .inr (by simp [step, stEt, hsp])
  | ev S =>
    cases S with
    | nil => exact .inr (by simp [step, mk, stEv, stEt, hsp])
    | cons p S => exact .inl (by simp [step, mk, stEv, hsp])

theorem blanks : ∀ (l : List UInt8) {m : M}, Bd m → acc m l = true → ∃ m', Bd m' ∧ comp m l = comp m' (skip l) ∧ acc m' (skip l) = true
  | [], m, hb, ha => ⟨m, hb, rfl, ha⟩
  | c :: l, m, hb, ha => by
    cases hsp : sp c.toNat with
    | false => exact ⟨m, hb, by simp [skip, hsp], by simpa [skip, hsp] using ha⟩
    | true =>
      rw [acc_cons] at ha
      rcases blank hb c hsp with e | e
      · have hop : (step m c.toNat).2 = 9 := by rw [e]
        rw [e] at ha
        obtain ⟨m', h1, h2, h3⟩ := blanks l hb ha
        exact ⟨m', h1, by rw [comp_skip (by rw [hop]; decide) (by rw [hop]; decide), e, h2]; simp [skip, hsp], by simpa [skip, hsp] using h3⟩
      · rw [e] at ha
        obtain ⟨m', h1, h2, h3⟩ := blanks l .et ha
        exact ⟨m', h1, by rw [comp_skip (by rw [e]; decide) (by rw [e]; decide), e, h2]; simp [skip, hsp], by simpa [skip, hsp] using h3⟩

theorem skip_head : ∀ (l : List UInt8) (c : UInt8) (r : List UInt8), skip l = c :: r → sp c.toNat = false
  | [], _, _, h => by cases h
  | d :: l, c, r, h => by
    cases hsp : sp d.toNat with
    | true => exact skip_head l c r (by simpa [skip, hsp] using h)
    | false =>
      have h' : d :: l = c :: r := by simpa [skip, hsp] using h
      cases h'
      exact hsp

/-- The tokens of a text, one behind the other. -/
def csF : Nat → List UInt8 → List UInt8
  | 0, _ => []
  | n + 1, l => match skip l with | [] => [] | c :: r => (piece (c :: r)).1 ++ csF n (piece (c :: r)).2

theorem comp_csF : ∀ (n : Nat) (l : List UInt8) {m : M}, l.length < n → Bd m → acc m l = true → comp m l = csF n l
  | 0, _, _, h, _, _ => absurd h (Nat.not_lt_zero _)
  | n + 1, l, m, hn, hb, ha => by
    obtain ⟨m', h1, h2, h3⟩ := blanks l hb ha
    rw [h2]
    unfold csF
    have hle := skip_le l
    cases hs : skip l with
    | nil => rfl
    | cons c r =>
      rw [hs] at h3 hle
      obtain ⟨u, rest, m1, m2, e1, e2, e3, e4, e5, e6, e7, _⟩ := tok h1 c r (skip_head l c r hs) h3
      rw [comp_keep e7]
      show _ = (piece (c :: r)).1 ++ csF n (piece (c :: r)).2
      rw [e2]
      show c :: comp (step m' c.toNat).1 r = (c :: u) ++ csF n rest
      rw [e1, eat_comp u _ m1 e3, e5.comp, comp_csF n rest (by simp only [List.length_cons] at hle; rw [e1, List.length_append] at hle; omega) e4 e5.acc']
      rfl

/-- What Compact keeps of a text that is accepted. -/
theorem comp_tokens (l : List UInt8) (h : acc init l = true) : comp init l = csF (l.length + 1) l :=
  comp_csF (l.length + 1) l (Nat.lt_succ_self _) (.bv [] (by simp)) h

end Go.Proofs.YtlmhpmbgalmpgaaGreatDoor.Js
