/-
  What Indent writes, token by token; laying a text out anew keeps its tokens.
-/
import Derived.Test.YtlmhpmbgalmpgaaGreatDoorPl11
namespace Go.Proofs.YtlmhpmbgalmpgaaGreatDoor.Js

/-- What Indent writes of a row of tokens. -/
def indT (p i : List UInt8) : Bool → Int → List (List UInt8) → List UInt8
  | _, _, [] => []
  | nd, d, t :: ts => (tstep p i nd d t).1 ++ indT p i (tstep p i nd d t).2.1 (tstep p i nd d t).2.2 ts

theorem Tok.ind {m : M} {c : UInt8} {u : List UInt8} {m1 m2 : M} (h : Tok m c u m1 m2) (p i : List UInt8) (nd : Bool) (d : Int) {rest : List UInt8} (hs : Same m1 m2 rest) :
    Js.ind p i m nd d (c :: (u ++ rest)) = (tstep p i nd d (c :: u)).1 ++ Js.ind p i m2 (tstep p i nd d (c :: u)).2.1 (tstep p i nd d (c :: u)).2.2 rest := by
  have hlo := h.lo
  have hhi := h.hi
  obtain ⟨t1, t2, t3⟩ := istep_tstep p i nd d (step m c.toNat).2 c u (by omega) h.cl h.one
  rw [ind_byte (by omega) (by omega), t1, t2]
  have he := h.eat
  cases u with
  | nil =>
    have : (step m c.toNat).1 = m1 := Option.some.inj he
    rw [this, List.nil_append, hs.ind, List.append_nil]
  | cons a u =>
    rw [t3 (by simp), ind_eat p i _ (a :: u) _ m1 he, hs.ind]
    simp

/-- A line is owed behind an opening bracket alone. -/
theorem tstep_nd (p i : List UInt8) (nd : Bool) (d : Int) (c : UInt8) (u : List UInt8) (h : (tstep p i nd d (c :: u)).2.1 = true) : c = 91 ∨ c = 123 := by
  unfold tstep at h
  simp only at h
  split at h
  · split at h <;> simp at h
  · split at h
    · simp at h
    · split at h
      · simp at h
      · simp only [Bool.or_eq_true, beq_iff_eq, List.cons.injEq] at h
        rcases h with ⟨h, _⟩ | ⟨h, _⟩
        · exact .inl h
        · exact .inr h

theorem TS.ind {m : M} {l : List UInt8} {ts : List (List UInt8)} {z : List UInt8} (h : TS m l ts z) (p i : List UInt8) : ∀ (nd : Bool) (d : Int), (nd = true → m.st = .bvoe ∨ m.st = .bsoe) → Js.ind p i m nd d l = indT p i nd d ts ++ z := by
  induction h with
  | done hb hz he =>
    intro nd d hnd
    obtain ⟨_, _, h4, h5⟩ := ended_of hb he
    cases nd with
    | true => rcases hnd rfl with h | h
              · exact absurd h h4
              · exact absurd h h5
    | false => exact ind_end p i d _ hb he hz
  | @tok m m1 m2 b u rest z c ts hb ht hr ih =>
    intro nd d _
    rw [ind_blanks ht.blank nd d b hb, ht.ind p i nd d (ht.same hr hr.acc).2, ih _ _ fun h => ht.op (tstep_nd p i nd d c u h)]
    simp [indT]

theorem reps_bl {i : List UInt8} (hi : Bl i) : ∀ n, Bl (reps n i)
  | 0 => Bl.nil
  | n + 1 => (reps_bl hi n).append hi

theorem nl_bl {p i : List UInt8} (hp : Bl p) (hi : Bl i) (d : Int) : Bl (nl p i d) := Bl.cons rfl (hp.append (reps_bl hi _))

/-- A token with blanks around. -/
theorem tstep_form {p i : List UInt8} (hp : Bl p) (hi : Bl i) (nd : Bool) (d : Int) (t : List UInt8) : ∃ a b, (tstep p i nd d t).1 = a ++ t ++ b ∧ Bl a ∧ Bl b := by
  have hpre : ∀ (c : Bool) (d : Int), Bl (if c then nl p i d else []) := fun c d => by
    cases c
    · exact Bl.nil
    · exact nl_bl hp hi d
  unfold tstep
  simp only
  split
  · split
    · exact ⟨[], [], by simp, Bl.nil, Bl.nil⟩
    · exact ⟨nl p i (d - 1), [], by simp, nl_bl hp hi _, Bl.nil⟩
  · split
    · rename_i h
      subst h
      exact ⟨_, _, rfl, hpre _ _, nl_bl hp hi _⟩
    · split
      · rename_i h
        subst h
        exact ⟨_, [32], (List.append_assoc _ [58] [32]).symm, hpre _ _, Bl.cons rfl Bl.nil⟩
      · exact ⟨_, [], (List.append_nil _).symm, hpre _ _, Bl.nil⟩

/-- Laid out with blanks alone, the text has the same tokens. -/
theorem TS.laid {m : M} {l : List UInt8} {ts : List (List UInt8)} {z : List UInt8} (h : TS m l ts z) {p i : List UInt8} (hp : Bl p) (hi : Bl i) : ∀ (nd : Bool) (d : Int), ∃ z', TS m (indT p i nd d ts) ts z' := by
  induction h with
  | done hb hz he => exact fun _ _ => ⟨[], .done hb Bl.nil he⟩
  | @tok m m1 m2 b u rest z c ts hb ht hr ih =>
    intro nd d
    obtain ⟨a, e, h1, h2, h3⟩ := tstep_form hp hi nd d (c :: u)
    obtain ⟨z1, h4⟩ := ih (tstep p i nd d (c :: u)).2.1 (tstep p i nd d (c :: u)).2.2
    obtain ⟨z2, h5⟩ := h4.pre h3
    refine ⟨z2, ?_⟩
    have h6 := TS.tok h2 ht h5
    rw [indT, h1]
    simpa using h6

theorem TS.tail {m : M} {l : List UInt8} {ts : List (List UInt8)} {z : List UInt8} (h : TS m l ts z) : Bl z := by
  induction h with
  | done _ hz _ => exact hz
  | tok _ _ _ ih => exact ih

/-- Blanks at a text's end. -/
def tz : List UInt8 → List UInt8
  | [] => []
  | c :: r => if (c :: r).all (fun x => sp x.toNat) then c :: r else tz r

theorem tz_bl {l : List UInt8} (h : Bl l) : tz l = l := by
  cases l with
  | nil => rfl
  | cons c r => rw [tz, if_pos]; rw [List.all_eq_true]; exact h

theorem tz_skip {c : UInt8} (hc : sp c.toNat = false) : ∀ (a r : List UInt8), tz (a ++ c :: r) = tz r
  | [], r => by rw [List.nil_append, tz, if_neg]; simp [hc]
  | d :: a, r => by rw [List.cons_append, tz, if_neg, tz_skip hc a r]; simp [hc]

/-- The states within a string. -/
def ss : St → Bool
  | .str | .esc | .u0 | .u1 | .u2 | .u3 => true
  | _ => false

theorem stEv_op (m : M) (c : Nat) : (stEv m c).2 ≠ 0 := by
  unfold stEv
  split
  · unfold stEt
    split <;> simp
  · split
    · simp
    · split <;> repeat' split
      all_goals simp [fail]

theorem plain_of {c : UInt8} (h1 : c.toNat ≠ 60) (h2 : c.toNat ≠ 62) (h3 : c.toNat ≠ 38) (h4 : c.toNat ≠ 226) : plain c = true := by
  have q : ∀ n : UInt8, c.toNat ≠ n.toNat → (c == n) = false := fun n h => beq_eq_false_iff_ne.2 fun e => h (by rw [e])
  simp [plain, q 60 h1, q 62 h2, q 38 h3, q 226 h4]

/-- The bytes within a string's state. -/
theorem ss_step (st : St) (hst : ss st = true) (S : List Ps) (c : UInt8) (h0 : (step (mk st S) c.toNat).2 = 0) :
    (st = .str ∧ c = 34 ∧ step (mk st S) c.toNat = (mk .ev S, 0)) ∨ ∃ st', ss st' = true ∧ step (mk st S) c.toNat = (mk st' S, 0) ∧ (st = .str ∨ plain c = true) ∧ (st = .str → c.toNat ≠ 34 ∧ (c.toNat = 92 ∨ st' = .str)) := by
  have hhex : hex c.toNat = true → plain c = true := fun h => by
    have : 48 ≤ c.toNat ∧ c.toNat ≤ 57 ∨ 97 ≤ c.toNat ∧ c.toNat ≤ 102 ∨ 65 ≤ c.toNat ∧ c.toNat ≤ 70 := by
      simpa [hex, or_assoc] using h
    exact plain_of (by omega) (by omega) (by omega) (by omega)
  cases st <;> first | (exact absurd hst (by decide)) | skip
  case str =>
    by_cases h34 : c.toNat = 34
    · exact .inl ⟨rfl, ceq h34, by simp [step, mk, to, h34]⟩
    · by_cases h92 : c.toNat = 92
      · exact .inr ⟨.esc, rfl, by simp [step, mk, to, h92], .inl rfl, fun _ => ⟨h34, .inl h92⟩⟩
      · by_cases hlt : c.toNat < 32
        · simp [step, mk, h34, h92, hlt, fail] at h0
        · exact .inr ⟨.str, rfl, by simp [step, mk, h34, h92, hlt], .inl rfl, fun _ => ⟨h34, .inr rfl⟩⟩
  case esc =>
    right
    simp only [step, mk, to] at h0 ⊢
    split
    · rename_i h
      simp only [Bool.or_eq_true, beq_iff_eq] at h
      exact ⟨.str, rfl, rfl, .inr (plain_of (by omega) (by omega) (by omega) (by omega)), fun h => by cases h⟩
    · split
      · rename_i h
        simp only [beq_iff_eq] at h
        exact ⟨.u0, rfl, rfl, .inr (plain_of (by omega) (by omega) (by omega) (by omega)), fun h => by cases h⟩
      · rename_i n1 n2
        simp [n1, n2, fail] at h0
  all_goals
    right
    simp only [step, mk, to] at h0 ⊢
    split
    · rename_i h
      exact ⟨_, by decide, rfl, .inr (hhex h), fun h => by cases h⟩
    · rename_i n1
      simp [n1, fail] at h0

theorem ev_eat {S : List Ps} {u : List UInt8} {m : M} (h : eat (mk .ev S) u = some m) : u = [] := by
  cases u with
  | nil => rfl
  | cons c u =>
    have h0 : (step (mk .ev S) c.toNat).2 ≠ 0 := stEv_op (mk .ev S) c.toNat
    rw [eat, if_neg h0] at h
    cases h

theorem str_last (S : List Ps) : ∀ (u : List UInt8) (st : St), ss st = true → eat (mk st S) u = some (mk .ev S) → ∃ a, u = a ++ [34]
  | [], st, hst, h => by
    have : mk st S = mk .ev S := Option.some.inj h
    have : st = .ev := congrArg M.st this
    subst this
    cases hst
  | c :: u, st, hst, h => by
    by_cases h0 : (step (mk st S) c.toNat).2 = 0
    · rw [eat_cons h0] at h
      rcases ss_step st hst S c h0 with ⟨_, h1, h2⟩ | ⟨st', h1, h2, _⟩
      · rw [h2] at h
        have := ev_eat h
        subst this; subst h1
        exact ⟨[], rfl⟩
      · rw [h2] at h
        obtain ⟨a, h3⟩ := str_last S u st' h1 h
        exact ⟨c :: a, by rw [h3]; rfl⟩
    · rw [eat, if_neg h0] at h; cases h

/-- The bytes of a word or a number. -/
theorem ws_step (st : St) (hst : ws st = true) (S : List Ps) (c : UInt8) (h0 : (step (mk st S) c.toNat).2 = 0) : ∃ st', ws st' = true ∧ step (mk st S) c.toNat = (mk st' S, 0) ∧ dl c = false ∧ plain c = true := by
  have hone : ∀ n, c.toNat = n → n ≠ 60 → n ≠ 62 → n ≠ 38 → n ≠ 226 → n ≠ 32 → n ≠ 9 → n ≠ 13 → n ≠ 10 → n ≠ 44 → n ≠ 93 → n ≠ 125 → dl c = false ∧ plain c = true := fun n h h1 h2 h3 h4 h5 h6 h7 h8 h9 h10 h11 => by
    subst h
    have q : ∀ n : UInt8, c.toNat ≠ n.toNat → (c == n) = false := fun n h => beq_eq_false_iff_ne.2 fun e => h (by rw [e])
    exact ⟨by simp [dl, sp, h5, h6, h7, h8, q 44 h9, q 93 h10, q 125 h11], plain_of h1 h2 h3 h4⟩
  have hdig : dig c.toNat = true → dl c = false ∧ plain c = true := fun h => by
    have h : 48 ≤ c.toNat ∧ c.toNat ≤ 57 := by simpa [dig] using h
    exact hone _ rfl (by omega) (by omega) (by omega) (by omega) (by omega) (by omega) (by omega) (by omega) (by omega) (by omega) (by omega)
  have hev := fun m => stEv_op m c.toNat
  have hfa : ∀ m : M, (fail m).2 ≠ 0 := fun m => by simp [fail]
  have two : ∀ a b : Nat, ((c.toNat == a) || (c.toNat == b)) = true → c.toNat = a ∨ c.toNat = b := fun a b h => by simpa using h
  cases st <;> first | (exact absurd hst (by decide)) | skip
  all_goals simp only [step, mk, to, is, stN0, stESign] at h0 ⊢
  case ev => exact absurd h0 (hev _)
  all_goals
    repeat' split
    all_goals first
      | (rename_i h; exact ⟨_, by decide, rfl, hdig h⟩)
      | (rename_i h; exact ⟨_, by decide, rfl, hone _ (beq_iff_eq.1 h) (by decide) (by decide) (by decide) (by decide) (by decide) (by decide) (by decide) (by decide) (by decide) (by decide) (by decide)⟩)
      | (rename_i h; rcases two _ _ h with h | h <;> exact ⟨_, by decide, rfl, hone _ h (by decide) (by decide) (by decide) (by decide) (by decide) (by decide) (by decide) (by decide) (by decide) (by decide) (by decide)⟩)
      | (exfalso; simp_all [fail]; done)
      | (exfalso; simp_all [fail, stEv_op]; done)

theorem word_all (S : List Ps) {m : M} : ∀ (u : List UInt8) (st : St), ws st = true → eat (mk st S) u = some m → ∀ d ∈ u, dl d = false ∧ plain d = true
  | [], _, _, _ => fun _ h => by cases h
  | c :: u, st, hst, h => by
    by_cases h0 : (step (mk st S) c.toNat).2 = 0
    · rw [eat_cons h0] at h
      obtain ⟨st', h1, h2, h3⟩ := ws_step st hst S c h0
      rw [h2] at h
      intro d hd
      rcases List.mem_cons.1 hd with rfl | hd
      · exact h3
      · exact word_all S u st' h1 h d hd
    · rw [eat, if_neg h0] at h; cases h

/-- A token does not end with a blank. -/
theorem Tok.last {m : M} {c : UInt8} {u : List UInt8} {m1 m2 : M} (h : Tok m c u m1 m2) : ∃ a d, c :: u = a ++ [d] ∧ Js.sp d.toNat = false := by
  have hsp := h.sp
  cases h.kd with
  | one _ => exact ⟨[], c, rfl, hsp⟩
  | str hs he =>
    obtain ⟨a, h1⟩ := str_last _ u .str rfl he
    exact ⟨34 :: a, 34, by rw [h1]; rfl, by decide⟩
  | word hw _ _ _ _ _ _ he _ =>
    have hall := word_all _ u _ hw he
    have hne : c :: u ≠ [] := by simp
    refine ⟨(c :: u).dropLast, (c :: u).getLast hne, (List.dropLast_concat_getLast hne).symm, ?_⟩
    rcases List.mem_cons.1 (List.getLast_mem hne) with h1 | h1
    · rw [h1]; exact hsp
    · exact (dl_false (hall _ h1).1).1

theorem TS.tz {m : M} {l : List UInt8} {ts : List (List UInt8)} {z : List UInt8} (h : TS m l ts z) : Js.tz l = z := by
  induction h with
  | done _ hz _ => exact tz_bl hz
  | @tok m m1 m2 b u rest z c ts hb ht hr ih =>
    obtain ⟨a, d, h1, h2⟩ := ht.last
    rw [show b ++ c :: (u ++ rest) = (b ++ a) ++ d :: rest by rw [show c :: (u ++ rest) = (c :: u) ++ rest from rfl, h1]; simp, tz_skip h2, ih]

end Go.Proofs.YtlmhpmbgalmpgaaGreatDoor.Js
