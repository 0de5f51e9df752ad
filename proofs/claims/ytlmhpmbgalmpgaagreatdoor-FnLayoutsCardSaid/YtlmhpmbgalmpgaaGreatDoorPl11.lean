/-
  A text as a row of tokens with blanks between, in one relation.
-/
import Derived.Test.YtlmhpmbgalmpgaaGreatDoorPl9
namespace Go.Proofs.YtlmhpmbgalmpgaaGreatDoor.Js

/-- Nothing but blanks. -/
def Bl (l : List UInt8) : Prop := ∀ c ∈ l, sp c.toNat = true

theorem Bl.nil : Bl [] := fun _ h => by cases h
theorem Bl.cons {c : UInt8} {l : List UInt8} (h : sp c.toNat = true) (hl : Bl l) : Bl (c :: l) := fun d hd => by
  rcases List.mem_cons.1 hd with rfl | h1
  · exact h
  · exact hl d h1
theorem Bl.append {a b : List UInt8} (ha : Bl a) (hb : Bl b) : Bl (a ++ b) := fun c hc => (List.mem_append.1 hc).elim (ha c) (hb c)

/-- Between two tokens, a blank leaves the machine as it is, or the text has ended. -/
theorem blank_or {m : M} (hb : Bd m) : (∀ d : UInt8, sp d.toNat = true → step m d.toNat = (m, 9)) ∨
    ((∀ d : UInt8, (step m d.toNat).2 = 10) ∧ (∀ d : UInt8, sp d.toNat = true → step m d.toNat = (⟨.et, [], true, false⟩, 10)) ∧ (∀ d : UInt8, sp d.toNat = false → ∀ r, acc (step m d.toNat).1 r = false) ∧ eof m = true ∧ m.st ≠ .bvoe ∧ m.st ≠ .bsoe) := by
  cases hb with
  | bv S h => exact .inl fun d hsp => by simp [step, mk, stBv, hsp]
  | bvoe S => exact .inl fun d hsp => by simp [step, mk, hsp]
  | bsoe S => exact .inl fun d hsp => by simp [step, mk, hsp]
  | bs S => exact .inl fun d hsp => by simp [step, mk, stBs, hsp]
  | et =>
    refine .inr ⟨fun d => ?_, fun d hsp => by simp [step, stEt, hsp], fun d hsp r => ?_, rfl, by simp, by simp⟩
    · simp only [step, stEt]; split <;> rfl
    · simp only [step, stEt, hsp]; exact acc_fail _ _
  | ev S =>
    cases S with
    | nil =>
      refine .inr ⟨fun d => ?_, fun d hsp => by simp [step, mk, stEv, stEt, hsp], fun d hsp r => ?_, rfl, by simp [mk], by simp [mk]⟩
      · simp only [step, mk, stEv, stEt]; split <;> rfl
      · simp only [step, mk, stEv, stEt, hsp]; exact acc_fail _ _
    | cons p S => exact .inl fun d hsp => by simp [step, mk, stEv, hsp]

/-- A token as the machine takes it. -/
structure Tok (m : M) (c : UInt8) (u : List UInt8) (m1 m2 : M) : Prop where
  bd : Bd m
  sp : sp c.toNat = false
  kd : Kd m c u m1 m2
  eat : eat (step m c.toNat).1 u = some m1
  bd2 : Bd m2
  lo : 1 ≤ (step m c.toNat).2
  hi : (step m c.toNat).2 < 9
  cl : ((step m c.toNat).2 = 5 ∨ (step m c.toNat).2 = 8) ↔ (c = 93 ∨ c = 125)
  op : c = 91 ∨ c = 123 → m2.st = .bvoe ∨ m2.st = .bsoe

theorem Tok.blank {m : M} {c : UInt8} {u : List UInt8} {m1 m2 : M} (h : Tok m c u m1 m2) : ∀ d : UInt8, Js.sp d.toNat = true → step m d.toNat = (m, 9) := by
  rcases blank_or h.bd with h1 | ⟨h1, _⟩
  · exact h1
  · have := h.hi
    have := h1 c
    omega

theorem Tok.one {m : M} {c : UInt8} {u : List UInt8} {m1 m2 : M} (h : Tok m c u m1 m2) : struc c = true → u = [] := by
  intro hc
  cases h.kd with
  | one _ => rfl
  | str _ _ => exact absurd hc (by decide)
  | word _ _ _ _ _ hc' _ _ _ => rw [hc'] at hc; cases hc

/-- The machine m reads the text l as these tokens, and as blanks at the end. -/
inductive TS : M → List UInt8 → List (List UInt8) → List UInt8 → Prop
  | done {m : M} {z : List UInt8} (hb : Bd m) (hz : Bl z) (he : eof m = true) : TS m z [] z
  | tok {m m1 m2 : M} {b u rest z : List UInt8} {c : UInt8} {ts : List (List UInt8)} (hb : Bl b) (ht : Tok m c u m1 m2) (hr : TS m2 rest ts z) : TS m (b ++ c :: (u ++ rest)) ((c :: u) :: ts) z

theorem TS.bd {m : M} {l : List UInt8} {ts : List (List UInt8)} {z : List UInt8} (h : TS m l ts z) : Bd m := by
  cases h with
  | done hb _ _ => exact hb
  | tok _ ht _ => exact ht.bd

/-- More blanks ahead. -/
theorem TS.pre {m : M} {l : List UInt8} {ts : List (List UInt8)} {z b : List UInt8} (h : TS m l ts z) (hb : Bl b) : ∃ z', TS m (b ++ l) ts z' := by
  cases h with
  | done h1 h2 h3 => exact ⟨_, .done h1 (hb.append h2) h3⟩
  | @tok _ _ _ b' u rest _ c _ hb' ht hr =>
    exact ⟨z, by rw [← List.append_assoc]; exact .tok (hb.append hb') ht hr⟩

/-- More blanks behind. -/
theorem TS.post {m : M} {l : List UInt8} {ts : List (List UInt8)} {z b : List UInt8} (h : TS m l ts z) (hb : Bl b) : ∃ z', TS m (l ++ b) ts z' := by
  induction h with
  | done h1 h2 h3 => exact ⟨_, .done h1 (h2.append hb) h3⟩
  | @tok m m1 m2 b' u rest _ c _ hb' ht hr ih =>
    obtain ⟨z', h⟩ := ih
    refine ⟨z', ?_⟩
    have := TS.tok hb' ht h
    simpa using this

/-- All blanks away. -/
theorem TS.bare {m : M} {l : List UInt8} {ts : List (List UInt8)} {z : List UInt8} (h : TS m l ts z) : TS m ts.flatten ts [] := by
  induction h with
  | done h1 _ h3 => exact .done h1 Bl.nil h3
  | tok _ ht _ ih => exact TS.tok Bl.nil ht ih

theorem sp_dl {c : UInt8} (h : sp c.toNat = true) : dl c = true := by simp [dl, h]

/-- Behind a value that is no name stands an end of it. -/
theorem TS.head {S : List Ps} (hS : S.head? ≠ some .key) {l : List UInt8} {ts : List (List UInt8)} {z : List UInt8} (h : TS (mk .ev S) l ts z) : l = [] ∨ ∃ c r, l = c :: r ∧ dl c = true := by
  cases h with
  | done _ hz _ =>
    cases l with
    | nil => exact .inl rfl
    | cons c r => exact .inr ⟨c, r, rfl, sp_dl (hz c (List.mem_cons_self ..))⟩
  | @tok _ m1 m2 b u rest _ c _ hb ht hr =>
    cases b with
    | cons d b => exact .inr ⟨d, _, rfl, sp_dl (hb d (List.mem_cons_self ..))⟩
    | nil =>
      refine .inr ⟨c, _, rfl, ?_⟩
      have h1 := ht.hi
      have hsp := ht.sp
      cases hd : dl c with
      | true => rfl
      | false =>
        obtain ⟨h0, n1, n2, n3⟩ := dl_false hd
        exfalso
        cases S with
        | nil => simp [step, mk, stEv, stEt, h0, fail] at h1
        | cons p S =>
          cases p with
          | key => simp at hS
          | val => simp [step, mk, stEv, h0, fail, n1, n3] at h1
          | arr => simp [step, mk, stEv, h0, fail, n1, n2] at h1

theorem acc_blanks {m : M} (h : ∀ d : UInt8, sp d.toNat = true → step m d.toNat = (m, 9)) : ∀ (b : List UInt8), Bl b → ∀ l, acc m (b ++ l) = acc m l
  | [], _, _ => rfl
  | d :: b, hb, l => by
    rw [List.cons_append, acc_cons, h d (hb d (List.mem_cons_self ..))]
    exact acc_blanks h b (fun c hc => hb c (List.mem_cons_of_mem _ hc)) l

theorem comp_blanks {m : M} (h : ∀ d : UInt8, sp d.toNat = true → step m d.toNat = (m, 9)) : ∀ (b : List UInt8), Bl b → ∀ l, comp m (b ++ l) = comp m l
  | [], _, _ => rfl
  | d :: b, hb, l => by
    have e := h d (hb d (List.mem_cons_self ..))
    have hop : (step m d.toNat).2 = 9 := by rw [e]
    rw [List.cons_append, comp_skip (by rw [hop]; decide) (by rw [hop]; decide), e]
    exact comp_blanks h b (fun c hc => hb c (List.mem_cons_of_mem _ hc)) l

theorem ind_blanks {p i : List UInt8} {m : M} (h : ∀ d : UInt8, sp d.toNat = true → step m d.toNat = (m, 9)) (nd : Bool) (d : Int) : ∀ (b : List UInt8), Bl b → ∀ l, ind p i m nd d (b ++ l) = ind p i m nd d l
  | [], _, _ => rfl
  | x :: b, hb, l => by
    have e := h x (hb x (List.mem_cons_self ..))
    have hop : (step m x.toNat).2 = 9 := by rw [e]
    rw [List.cons_append, ind_blank hop, e]
    exact ind_blanks h nd d b (fun c hc => hb c (List.mem_cons_of_mem _ hc)) l

/-- Blanks at the end: where eof says that all is well. -/
theorem ended_of {m : M} (hb : Bd m) (he : eof m = true) : (∀ d : UInt8, (step m d.toNat).2 = 10) ∧ (∀ d : UInt8, sp d.toNat = true → step m d.toNat = (⟨.et, [], true, false⟩, 10)) ∧ m.st ≠ .bvoe ∧ m.st ≠ .bsoe := by
  rcases blank_or hb with h | ⟨h1, h2, _, _, h4, h5⟩
  · exfalso
    have h32 := h 32 rfl
    have h32 : step m 32 = (m, 9) := h32
    unfold eof at he
    rw [h32] at he
    cases hb with
    | et => cases h32
    | ev S =>
      cases S with
      | nil => cases h32
      | cons p S => simp [mk] at he
    | _ => simp [mk] at he
  · exact ⟨h1, h2, h4, h5⟩

theorem acc_end : ∀ (z : List UInt8) {m : M}, Bd m → eof m = true → Bl z → acc m z = true
  | [], _, _, he, _ => he
  | d :: z, m, hb, he, hz => by
    obtain ⟨_, h2, _⟩ := ended_of hb he
    rw [acc_cons, h2 d (hz d (List.mem_cons_self ..))]
    exact acc_end z .et rfl (fun c hc => hz c (List.mem_cons_of_mem _ hc))

theorem comp_end : ∀ (z : List UInt8) {m : M}, Bd m → eof m = true → Bl z → comp m z = []
  | [], _, _, _, _ => rfl
  | d :: z, m, hb, he, hz => by
    obtain ⟨_, h2, _⟩ := ended_of hb he
    have e := h2 d (hz d (List.mem_cons_self ..))
    have hop : (step m d.toNat).2 = 10 := by rw [e]
    rw [comp_skip (by rw [hop]; decide) (by rw [hop]; decide), e]
    exact comp_end z .et rfl (fun c hc => hz c (List.mem_cons_of_mem _ hc))

theorem sp_cases {c : UInt8} (h : sp c.toNat = true) : c = 32 ∨ c = 9 ∨ c = 13 ∨ c = 10 := by
  simp only [sp, Bool.or_eq_true, beq_iff_eq] at h
  rcases h with ((h | h) | h) | h
  · exact .inl (ceq h)
  · exact .inr (.inl (ceq h))
  · exact .inr (.inr (.inl (ceq h)))
  · exact .inr (.inr (.inr (ceq h)))

theorem ind_end (p i : List UInt8) (d : Int) : ∀ (z : List UInt8) {m : M}, Bd m → eof m = true → Bl z → ind p i m false d z = z
  | [], _, _, _, _ => rfl
  | x :: z, m, hb, he, hz => by
    obtain ⟨_, h2, _⟩ := ended_of hb he
    have hx := hz x (List.mem_cons_self ..)
    have e := h2 x hx
    have hop : (step m x.toNat).2 = 10 := by rw [e]
    have hi : istep p i false d 10 x = ([x], false, d) := by
      rcases sp_cases hx with rfl | rfl | rfl | rfl <;> simp [istep]
    rw [ind_byte (by rw [hop]; decide) (by rw [hop]; decide), hop, hi, e, ind_end p i d z .et rfl (fun c hc => hz c (List.mem_cons_of_mem _ hc))]
    rfl

/-- Behind a token the machine goes on as between two tokens. -/
theorem Tok.same {m : M} {c : UInt8} {u : List UInt8} {m1 m2 : M} (h : Tok m c u m1 m2) {r : List UInt8} {ts : List (List UInt8)} {z : List UInt8} (hr : TS m2 r ts z) (ha : acc m2 r = true) : acc m1 r = true ∧ Same m1 m2 r := by
  cases h.kd with
  | one _ => exact ⟨ha, Same.refl ha⟩
  | str _ _ => exact ⟨ha, Same.refl ha⟩
  | word _ hz hS _ _ _ _ _ _ => exact wz_same _ _ hz r (hr.head hS) ha

/-- Such a text is accepted, and Compact keeps the tokens. -/
theorem TS.acc_comp {m : M} {l : List UInt8} {ts : List (List UInt8)} {z : List UInt8} (h : TS m l ts z) : acc m l = true ∧ comp m l = ts.flatten := by
  induction h with
  | done hb hz he => exact ⟨acc_end _ hb he hz, comp_end _ hb he hz⟩
  | @tok m m1 m2 b u rest z c ts hb ht hr ih =>
    obtain ⟨s1, s2⟩ := ht.same hr ih.1
    have hlo := ht.lo
    have hhi := ht.hi
    refine ⟨?_, ?_⟩
    · rw [acc_blanks ht.blank b hb, acc_cons, eat_acc ht.eat]
      exact s1
    · rw [comp_blanks ht.blank b hb, comp_keep hhi, eat_comp u _ m1 ht.eat, s2.comp, ih.2]
      rfl

theorem TS.acc {m : M} {l : List UInt8} {ts : List (List UInt8)} {z : List UInt8} (h : TS m l ts z) : Js.acc m l = true := h.acc_comp.1
theorem TS.comp {m : M} {l : List UInt8} {ts : List (List UInt8)} {z : List UInt8} (h : TS m l ts z) : Js.comp m l = ts.flatten := h.acc_comp.2

/-- Every text that is accepted is one. -/
theorem ts_of : ∀ (n : Nat) (l : List UInt8) {m : M}, l.length < n → Bd m → Js.acc m l = true → ∃ ts z, TS m l ts z
  | 0, _, _, h, _, _ => absurd h (Nat.not_lt_zero _)
  | n + 1, [], m, _, hb, ha => ⟨[], [], .done hb Bl.nil ha⟩
  | n + 1, c :: r, m, hn, hb, ha => by
    simp only [List.length_cons] at hn
    cases hsp : sp c.toNat with
    | true =>
      rw [acc_cons] at ha
      rcases blank_or hb with h | ⟨_, h2, h3, h4, _⟩
      · rw [h c hsp] at ha
        obtain ⟨ts, z, h5⟩ := ts_of n r (by omega) hb ha
        obtain ⟨z', h6⟩ := h5.pre (Bl.cons hsp Bl.nil)
        exact ⟨ts, z', h6⟩
      · rw [h2 c hsp] at ha
        obtain ⟨ts, z, h5⟩ := ts_of n r (by omega) .et ha
        cases h5 with
        | done _ hz _ => exact ⟨[], _, .done hb (Bl.cons hsp hz) h4⟩
        | tok _ ht _ =>
          rcases blank_or ht.bd with h6 | ⟨h6, _⟩
          · have := h6 32 rfl
            cases this
          · have := ht.hi
            have := h6 ‹UInt8›
            omega
    | false =>
      obtain ⟨u, rest, m1, m2, e1, e2, e3, e4, e5, e6, e7, e8, e9, e10⟩ := tok hb c r hsp ha
      subst e1
      obtain ⟨ts, z, h5⟩ := ts_of n rest (by rw [List.length_append] at hn; omega) e4 e5.acc'
      exact ⟨_, z, TS.tok (b := []) Bl.nil ⟨hb, hsp, e10, e3, e4, e6, e7, e8, e9⟩ h5⟩

theorem ts_init {l : List UInt8} (ha : Js.acc Js.init l = true) : ∃ ts z, TS Js.init l ts z := ts_of (l.length + 1) l (Nat.lt_succ_self _) (.bv [] (by simp)) ha

end Go.Proofs.YtlmhpmbgalmpgaaGreatDoor.Js
