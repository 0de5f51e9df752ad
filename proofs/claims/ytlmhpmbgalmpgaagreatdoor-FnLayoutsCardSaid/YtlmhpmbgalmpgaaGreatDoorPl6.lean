/-
  A text by its tokens: how the machine takes a token.
-/
import Derived.Test.YtlmhpmbgalmpgaaGreatDoorPl4
namespace Go.Proofs.YtlmhpmbgalmpgaaGreatDoor.Js

/-- What ends a word or a number. -/
def dl (c : UInt8) : Bool := sp c.toNat || c == 44 || c == 93 || c == 125

def wTok (l : List UInt8) : List UInt8 := l.takeWhile fun c => !dl c
def wEnd (l : List UInt8) : List UInt8 := l.dropWhile fun c => !dl c

theorem w_split (l : List UInt8) : wTok l ++ wEnd l = l := List.takeWhile_append_dropWhile

theorem wTok_cons {c : UInt8} (h : dl c = false) (l : List UInt8) : wTok (c :: l) = c :: wTok l := by simp [wTok, h]
theorem wEnd_cons {c : UInt8} (h : dl c = false) (l : List UInt8) : wEnd (c :: l) = wEnd l := by simp [wEnd, h]
theorem wTok_dl {c : UInt8} (h : dl c = true) (l : List UInt8) : wTok (c :: l) = [] := by simp [wTok, h]
theorem wEnd_dl {c : UInt8} (h : dl c = true) (l : List UInt8) : wEnd (c :: l) = c :: l := by simp [wEnd, h]

theorem wEnd_head (l : List UInt8) : wEnd l = [] ∨ ∃ c r, wEnd l = c :: r ∧ dl c = true := by
  induction l with
  | nil => exact .inl rfl
  | cons c l ih =>
    cases h : dl c with
    | true => exact .inr ⟨c, l, wEnd_dl h l, h⟩
    | false => rw [wEnd_cons h]; exact ih

/-- All of these bytes go on within a token. -/
def eat : M → List UInt8 → Option M
  | m, [] => some m
  | m, c :: r => if (step m c.toNat).2 = 0 then eat (step m c.toNat).1 r else none

theorem eat_cons {m : M} {c : UInt8} {r : List UInt8} (h : (step m c.toNat).2 = 0) : eat m (c :: r) = eat (step m c.toNat).1 r := by rw [eat, if_pos h]

theorem eat_run : ∀ (u : List UInt8) (m m' : M), eat m u = some m' → ∀ r, run m (u ++ r) = run m' r
  | [], m, m', h, r => by
    have := Option.some.inj h
    rw [this]; rfl
  | c :: u, m, m', h, r => by
    by_cases h0 : (step m c.toNat).2 = 0
    · rw [eat_cons h0] at h
      exact eat_run u _ m' h r
    · rw [eat, if_neg h0] at h
      cases h

theorem eat_acc {u : List UInt8} {m m' : M} (h : eat m u = some m') (r : List UInt8) : acc m (u ++ r) = acc m' r := by
  unfold acc
  rw [eat_run u m m' h r]

theorem eat_comp : ∀ (u : List UInt8) (m m' : M), eat m u = some m' → ∀ r, comp m (u ++ r) = u ++ comp m' r
  | [], m, m', h, r => by
    have := Option.some.inj h
    rw [this]; rfl
  | c :: u, m, m', h, r => by
    by_cases h0 : (step m c.toNat).2 = 0
    · rw [eat_cons h0] at h
      rw [List.cons_append, comp_keep (by omega), eat_comp u _ m' h r]
      rfl
    · rw [eat, if_neg h0] at h
      cases h

theorem eat_append : ∀ (u v : List UInt8) (m m' : M), eat m u = some m' → eat m (u ++ v) = eat m' v
  | [], v, m, m', h => by
    have := Option.some.inj h
    rw [this]; rfl
  | c :: u, v, m, m', h => by
    by_cases h0 : (step m c.toNat).2 = 0
    · rw [eat_cons h0] at h
      rw [List.cons_append, eat_cons h0]
      exact eat_append u v _ m' h
    · rw [eat, if_neg h0] at h
      cases h

/-- From a string's inside. -/
theorem eat_str (S : List Ps) (l : List UInt8) : ∀ r, pStr l = some r → ∃ u, l = u ++ r ∧ eat (mk .str S) u = some (mk .ev S) := by
  fun_induction pStr l with
  | case1 => intro r h; cases h
  | case2 c l h1 =>
    intro r h
    cases h
    exact ⟨[c], rfl, by rw [eat_cons (by simp [step, mk, to, h1])]; simp [step, mk, to, h1, eat]⟩
  | case3 c l h1 h2 => intro r h; cases h
  | case4 c h1 h2 h3 => intro r h; cases h
  | case5 c h1 h2 h3 d l h4 ih =>
    intro r h
    obtain ⟨u, hu, he⟩ := ih r h
    refine ⟨c :: d :: u, by rw [hu]; rfl, ?_⟩
    have e1 : step (mk .str S) c.toNat = (mk .esc S, 0) := by simp only [step, mk, to]; rw [if_neg h1, if_pos h3]
    have e2 : step (mk .esc S) d.toNat = (mk .str S, 0) := by simp only [step, mk, to]; rw [if_pos h4]
    rw [eat_cons (by rw [e1]), e1, eat_cons (by rw [e2]), e2]
    exact he
  | case6 c h1 h2 h3 d h4 h5 a b x y l h6 ih =>
    intro r h
    obtain ⟨u, hu, he⟩ := ih r h
    refine ⟨c :: d :: a :: b :: x :: y :: u, by rw [hu]; rfl, ?_⟩
    simp only [Bool.and_eq_true] at h6
    obtain ⟨⟨⟨ha, hb⟩, hx⟩, hy⟩ := h6
    have e1 : step (mk .str S) c.toNat = (mk .esc S, 0) := by simp only [step, mk, to]; rw [if_neg h1, if_pos h3]
    have e2 : step (mk .esc S) d.toNat = (mk .u0 S, 0) := by simp only [step, mk, to]; rw [if_neg h4, if_pos h5]
    have e3 : step (mk .u0 S) a.toNat = (mk .u1 S, 0) := by simp only [step, mk, to]; rw [if_pos ha]
    have e4 : step (mk .u1 S) b.toNat = (mk .u2 S, 0) := by simp only [step, mk, to]; rw [if_pos hb]
    have e5 : step (mk .u2 S) x.toNat = (mk .u3 S, 0) := by simp only [step, mk, to]; rw [if_pos hx]
    have e6 : step (mk .u3 S) y.toNat = (mk .str S, 0) := by simp only [step, mk, to]; rw [if_pos hy]
    rw [eat_cons (by rw [e1]), e1, eat_cons (by rw [e2]), e2, eat_cons (by rw [e3]), e3, eat_cons (by rw [e4]), e4, eat_cons (by rw [e5]), e5, eat_cons (by rw [e6]), e6]
    exact he
  | case7 c h1 h2 h3 d h4 h5 a b x y l h6 => intro r h; cases h
  | case8 c h1 h2 h3 d l h4 h5 h6 => intro r h; cases h
  | case9 c h1 h2 h3 d l h4 h5 => intro r h; cases h
  | case10 c l h1 h2 h3 ih =>
    intro r h
    obtain ⟨u, hu, he⟩ := ih r h
    have e1 : step (mk .str S) c.toNat = (mk .str S, 0) := by simp only [step, mk]; rw [if_neg h1, if_neg h3, if_neg h2]
    exact ⟨c :: u, by rw [hu]; rfl, by rw [eat_cons (by rw [e1]), e1]; exact he⟩

/-- The states within and behind a word or a number. -/
def ws : St → Bool
  | .neg | .n1 | .n0 | .dot | .dot0 | .e | .esign | .e0 | .t | .tr | .tru | .f | .fa | .fal | .fals | .n | .nu | .nul | .ev => true
  | _ => false

/-- The states in which such a token may end. -/
def wz : St → Bool
  | .n1 | .n0 | .dot0 | .e0 | .ev => true
  | _ => false

theorem dl_false {c : UInt8} (h : dl c = false) : sp c.toNat = false ∧ c.toNat ≠ 44 ∧ c.toNat ≠ 93 ∧ c.toNat ≠ 125 := by
  simp only [dl, Bool.or_eq_false_iff, beq_eq_false_iff_ne] at h
  obtain ⟨⟨⟨h1, h2⟩, h3⟩, h4⟩ := h
  exact ⟨h1, fun e => h2 (UInt8.toNat_inj.1 e), fun e => h3 (UInt8.toNat_inj.1 e), fun e => h4 (UInt8.toNat_inj.1 e)⟩

/-- Behind a value what is no end of it is refused. -/
theorem ev_refuse (st : St) (S : List Ps) (hS : S.head? ≠ some .key) (c : UInt8) (h : dl c = false) (r : List UInt8) : acc (stEv (mk st S) c.toNat).1 r = false := by
  obtain ⟨h0, h1, h2, h3⟩ := dl_false h
  cases S with
  | nil =>
    simp only [stEv, mk, stEt, h0]
    exact acc_fail _ _
  | cons p S =>
    cases p with
    | key => simp at hS
    | val =>
      simp only [stEv, mk, h0]
      rw [if_neg (by simp), if_neg (by simpa using h1), if_neg (by simpa using h3)]
      exact acc_fail _ _
    | arr =>
      simp only [stEv, mk, h0]
      rw [if_neg (by simp), if_neg (by simpa using h1), if_neg (by simpa using h2)]
      exact acc_fail _ _

theorem word_step (st : St) (hst : ws st = true) (S : List Ps) (hS : S.head? ≠ some .key) (c : UInt8) (h : dl c = false) :
    (∃ st', ws st' = true ∧ step (mk st S) c.toNat = (mk st' S, 0)) ∨ ∀ r, acc (step (mk st S) c.toNat).1 r = false := by
  have hev := fun st => ev_refuse st S hS c h
  have hf := fun (m : M) r => acc_fail m r
  cases st <;> first | (exact absurd hst (by decide)) | skip
  case neg =>
    simp only [step, mk, to]
    split
    · exact .inl ⟨.n0, rfl, rfl⟩
    · split
      · exact .inl ⟨.n1, rfl, rfl⟩
      · exact .inr (hf _)
  case n1 =>
    simp only [step, mk, to, stN0]
    split
    · exact .inl ⟨.n1, rfl, rfl⟩
    · split
      · exact .inl ⟨.dot, rfl, rfl⟩
      · split
        · exact .inl ⟨.e, rfl, rfl⟩
        · exact .inr (hev .n1)
  case n0 =>
    simp only [step, mk, to, stN0]
    split
    · exact .inl ⟨.dot, rfl, rfl⟩
    · split
      · exact .inl ⟨.e, rfl, rfl⟩
      · exact .inr (hev .n0)
  case dot =>
    simp only [step, mk, to]
    split
    · exact .inl ⟨.dot0, rfl, rfl⟩
    · exact .inr (hf _)
  case dot0 =>
    simp only [step, mk, to]
    split
    · exact .inl ⟨.dot0, rfl, rfl⟩
    · split
      · exact .inl ⟨.e, rfl, rfl⟩
      · exact .inr (hev .dot0)
  case e =>
    simp only [step, mk, to, stESign]
    split
    · exact .inl ⟨.esign, rfl, rfl⟩
    · split
      · exact .inl ⟨.e0, rfl, rfl⟩
      · exact .inr (hf _)
  case esign =>
    simp only [step, mk, to, stESign]
    split
    · exact .inl ⟨.e0, rfl, rfl⟩
    · exact .inr (hf _)
  case e0 =>
    simp only [step, mk]
    split
    · exact .inl ⟨.e0, rfl, rfl⟩
    · exact .inr (hev .e0)
  case ev => exact .inr (hev .ev)
  all_goals
    simp only [step, mk, is, to]
    split
    · exact .inl ⟨_, rfl, rfl⟩
    · exact .inr (hf _)

theorem word_eat (S : List Ps) (hS : S.head? ≠ some .key) : ∀ (l : List UInt8) (st : St), ws st = true → acc (mk st S) l = true → ∃ st', ws st' = true ∧ eat (mk st S) (wTok l) = some (mk st' S) ∧ acc (mk st' S) (wEnd l) = true
  | [], st, hst, ha => ⟨st, hst, rfl, ha⟩
  | c :: l, st, hst, ha => by
    cases h : dl c with
    | true => rw [wTok_dl h, wEnd_dl h]; exact ⟨st, hst, rfl, ha⟩
    | false =>
      rw [wTok_cons h, wEnd_cons h]
      rw [acc_cons] at ha
      rcases word_step st hst S hS c h with ⟨st', h1, h2⟩ | h1
      · rw [h2] at ha
        obtain ⟨st2, h3, h4, h5⟩ := word_eat S hS l st' h1 ha
        exact ⟨st2, h3, by rw [eat_cons (by rw [h2]), h2]; exact h4, h5⟩
      · rw [h1] at ha; cases ha

end Go.Proofs.YtlmhpmbgalmpgaaGreatDoor.Js
