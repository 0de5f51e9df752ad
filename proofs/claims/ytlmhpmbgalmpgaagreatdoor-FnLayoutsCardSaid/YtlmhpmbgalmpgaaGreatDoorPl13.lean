/-
  The page's escapes stand within strings alone: they change no token but strings.
-/
import Derived.Test.YtlmhpmbgalmpgaaGreatDoorPl3
import Derived.Test.YtlmhpmbgalmpgaaGreatDoorPl12
namespace Go.Proofs.YtlmhpmbgalmpgaaGreatDoor.Js

theorem plain_spec {c : UInt8} (h : plain c = true) : spec1 c = false ∧ c ≠ 226 := by
  simp only [plain, Bool.not_eq_true', Bool.or_eq_false_iff, beq_eq_false_iff_ne] at h
  obtain ⟨⟨⟨h1, h2⟩, h3⟩, h4⟩ := h
  exact ⟨by simp [spec1, h1, h2, h3], h4⟩

theorem isSep_first {c : UInt8} (h : c ≠ 226) (r : List UInt8) : isSep (c :: r) = false := by
  cases hs : isSep (c :: r) with
  | false => rfl
  | true =>
    obtain ⟨x, r', h1, _⟩ := isSep_iff.1 hs
    injection h1 with h1 _
    exact absurd h1 h

theorem esc_plain' {c : UInt8} (h : plain c = true) (r : List UInt8) : esc (c :: r) = c :: esc r :=
  esc_plain (plain_spec h).1 (isSep_first (plain_spec h).2 r)

theorem esc_word : ∀ (u : List UInt8), (∀ d ∈ u, plain d = true) → ∀ r, esc (u ++ r) = u ++ esc r
  | [], _, _ => rfl
  | c :: u, h, r => by
    rw [List.cons_append, esc_plain' (h c (List.mem_cons_self ..)), esc_word u (fun d hd => h d (List.mem_cons_of_mem _ hd)) r]
    rfl

theorem sp_plain {c : UInt8} (h : sp c.toNat = true) : plain c = true := by
  rcases sp_cases h with rfl | rfl | rfl | rfl <;> decide

theorem struc_plain {c : UInt8} (h : struc c = true) : plain c = true := by
  simp only [struc, Bool.or_eq_true, beq_iff_eq] at h
  rcases h with ((((rfl | rfl) | rfl) | rfl) | rfl) | rfl <;> decide

theorem step_str (S : List Ps) {c : UInt8} (h1 : c.toNat ≠ 34) (h2 : c.toNat ≠ 92) (h3 : ¬ c.toNat < 32) : step (mk .str S) c.toNat = (mk .str S, 0) := by
  simp [step, mk, h1, h2, h3]

theorem eat_escOf (S : List Ps) (c : UInt8) (u : List UInt8) : eat (mk .str S) (escOf c ++ u) = eat (mk .str S) u := by
  have e : ∀ a b : UInt8, hex a.toNat = true → hex b.toNat = true → eat (mk .str S) ([92, 117, 48, 48, a, b] ++ u) = eat (mk .str S) u := fun a b ha hb => by
    have e1 : step (mk .str S) (92 : UInt8).toNat = (mk .esc S, 0) := by simp [step, mk, to]
    have e2 : step (mk .esc S) (117 : UInt8).toNat = (mk .u0 S, 0) := by simp [step, mk, to]
    have e3 : step (mk .u0 S) (48 : UInt8).toNat = (mk .u1 S, 0) := by simp [step, mk, to, hex]
    have e4 : step (mk .u1 S) (48 : UInt8).toNat = (mk .u2 S, 0) := by simp [step, mk, to, hex]
    have e5 : step (mk .u2 S) a.toNat = (mk .u3 S, 0) := by simp [step, mk, to, ha]
    have e6 : step (mk .u3 S) b.toNat = (mk .str S, 0) := by simp [step, mk, to, hb]
    show eat (mk .str S) (92 :: 117 :: 48 :: 48 :: a :: b :: u) = _
    rw [eat_cons (by rw [e1]), e1, eat_cons (by rw [e2]), e2, eat_cons (by rw [e3]), e3, eat_cons (by rw [e4]), e4, eat_cons (by rw [e5]), e5, eat_cons (by rw [e6]), e6]
  unfold escOf
  refine e _ _ ?_ ?_
  · split <;> decide
  · split
    · decide
    · split <;> decide

theorem eat_sepOf (S : List Ps) (b : UInt8) (hb : hex b.toNat = true) (u : List UInt8) : eat (mk .str S) ([92, 117, 50, 48, 50, b] ++ u) = eat (mk .str S) u := by
  have e1 : step (mk .str S) (92 : UInt8).toNat = (mk .esc S, 0) := by simp [step, mk, to]
  have e2 : step (mk .esc S) (117 : UInt8).toNat = (mk .u0 S, 0) := by simp [step, mk, to]
  have e3 : step (mk .u0 S) (50 : UInt8).toNat = (mk .u1 S, 0) := by simp [step, mk, to, hex]
  have e4 : step (mk .u1 S) (48 : UInt8).toNat = (mk .u2 S, 0) := by simp [step, mk, to, hex]
  have e5 : step (mk .u2 S) (50 : UInt8).toNat = (mk .u3 S, 0) := by simp [step, mk, to, hex]
  have e6 : step (mk .u3 S) b.toNat = (mk .str S, 0) := by simp [step, mk, to, hb]
  show eat (mk .str S) (92 :: 117 :: 50 :: 48 :: 50 :: b :: u) = _
  rw [eat_cons (by rw [e1]), e1, eat_cons (by rw [e2]), e2, eat_cons (by rw [e3]), e3, eat_cons (by rw [e4]), e4, eat_cons (by rw [e5]), e5, eat_cons (by rw [e6]), e6]

/-- A string, from within. -/
theorem str_esc (S : List Ps) : ∀ (n : Nat) (u : List UInt8) (st : St), u.length < n → ss st = true → eat (mk st S) u = some (mk .ev S) → ∃ u', (∀ r, esc (u ++ r) = u' ++ esc r) ∧ eat (mk st S) u' = some (mk .ev S)
  | 0, _, _, h, _, _ => absurd h (Nat.not_lt_zero _)
  | n + 1, [], st, _, hst, h => by
    have : mk st S = mk .ev S := Option.some.inj h
    have : st = .ev := congrArg M.st this
    subst this
    cases hst
  | n + 1, c :: u, st, hn, hst, h => by
    simp only [List.length_cons] at hn
    have hu := str_last S (c :: u) st hst h
    by_cases h0 : (step (mk st S) c.toNat).2 = 0
    · rw [eat_cons h0] at h
      rcases ss_step st hst S c h0 with ⟨_, h1, h2⟩ | ⟨st', h1, h2, h3, h4⟩
      · rw [h2] at h
        have := ev_eat h
        subst this; subst h1
        exact ⟨[34], fun r => esc_plain' (by decide) r, by rw [eat_cons h0, h2]; rfl⟩
      · rw [h2] at h
        have keep : (∀ r, esc (c :: (u ++ r)) = c :: esc (u ++ r)) → ∃ u', (∀ r, esc (c :: u ++ r) = u' ++ esc r) ∧ eat (mk st S) u' = some (mk .ev S) := fun hk => by
          obtain ⟨u', i1, i2⟩ := str_esc S n u st' (by omega) h1 h
          exact ⟨c :: u', fun r => by rw [List.cons_append, hk, i1]; rfl, by rw [eat_cons h0, h2]; exact i2⟩
        by_cases hst2 : st = .str
        · subst hst2
          obtain ⟨k1, k2⟩ := h4 rfl
          cases hs1 : spec1 c with
          | true =>
            have hc : c.toNat ≠ 92 := by
              intro e
              have : c = 92 := ceq e
              subst this
              cases hs1
            have hst' := k2.resolve_left hc
            subst hst'
            obtain ⟨u', i1, i2⟩ := str_esc S n u .str (by omega) rfl h
            exact ⟨escOf c ++ u', fun r => by rw [List.cons_append, esc_spec hs1, i1, List.append_assoc], by rw [eat_escOf]; exact i2⟩
          | false =>
            by_cases hc : c = 226
            · subst hc
              have hst' := k2.resolve_left (by decide)
              subst hst'
              match u, hn, hu, h, keep with
              | [], _, ⟨a, hu⟩, _, _ =>
                exfalso
                cases a with
                | nil => injection hu with hu; exact absurd hu (by decide)
                | cons x a => injection hu with _ hu; simp at hu
              | [x], _, ⟨a, hu⟩, _, keep =>
                have hx : x = 34 := by
                  have h5 : (226 :: [x] : List UInt8).getLast? = (a ++ [34]).getLast? := by rw [hu]
                  simpa using h5
                subst hx
                exact keep fun r => esc_plain (by decide) (by cases r <;> rfl)
              | x :: y :: v, hn, _, h, keep =>
                by_cases hxy : x = 128 ∧ (y = 168 ∨ y = 169)
                · obtain ⟨rfl, hy⟩ := hxy
                  have hsy : step (mk .str S) y.toNat = (mk .str S, 0) := by
                    rcases hy with rfl | rfl <;> exact step_str S (by decide) (by decide) (by decide)
                  have hsx : step (mk .str S) (128 : UInt8).toNat = (mk .str S, 0) := step_str S (by decide) (by decide) (by decide)
                  rw [eat_cons (by rw [hsx]), hsx, eat_cons (by rw [hsy]), hsy] at h
                  simp only [List.length_cons] at hn
                  obtain ⟨u', i1, i2⟩ := str_esc S n v .str (by omega) rfl h
                  refine ⟨[92, 117, 50, 48, 50, if y == 168 then 56 else 57] ++ u', fun r => ?_, ?_⟩
                  · show esc (226 :: 128 :: y :: (v ++ r)) = _
                    rw [esc_sep (by decide) (isSep_iff.2 ⟨y, _, rfl, hy⟩)]
                    show sepOf (226 :: 128 :: y :: (v ++ r)) ++ esc (v ++ r) = _
                    rw [i1, List.append_assoc]
                    rfl
                  · rw [eat_sepOf S _ (by split <;> decide)]
                    exact i2
                · refine keep fun r => esc_plain (by decide) ?_
                  cases hs : isSep (226 :: (x :: y :: v ++ r)) with
                  | false => rfl
                  | true =>
                    exfalso
                    obtain ⟨y', r', e1, e2⟩ := isSep_iff.1 hs
                    injection e1 with _ e1
                    injection e1 with e3 e1
                    injection e1 with e4 _
                    exact hxy ⟨e3, by rw [e4]; exact e2⟩
            · exact keep fun r => esc_plain hs1 (isSep_first hc _)
        · exact keep fun r => esc_plain' (h3.resolve_left hst2) _
    · rw [eat, if_neg h0] at h; cases h

/-- A token with the page's escapes. -/
theorem Tok.esc {m : M} {c : UInt8} {u : List UInt8} {m1 m2 : M} (h : Tok m c u m1 m2) : ∃ u', (∀ r, Js.esc (c :: (u ++ r)) = c :: (u' ++ Js.esc r)) ∧ Tok m c u' m1 m2 := by
  have h0 := h
  obtain ⟨hbd, hsp, hkd, heat, hbd2, hlo, hhi, hcl, hop⟩ := h
  cases hkd with
  | one hc => exact ⟨[], fun r => esc_plain' (struc_plain hc) r, h0⟩
  | word hw _ _ _ _ _ hp he _ =>
    have hall := word_all _ u _ hw he
    exact ⟨u, fun r => by rw [esc_plain' hp, esc_word u (fun d hd => (hall d hd).2)], h0⟩
  | @str S _ hs he =>
    obtain ⟨u', h1, h2⟩ := str_esc S (u.length + 1) u .str (Nat.lt_succ_self _) rfl he
    have hs' : step m (34 : UInt8).toNat = (Js.mk .str S, 1) := hs
    exact ⟨u', fun r => by rw [esc_plain' (by decide), h1], ⟨hbd, hsp, .str hs h2, by rw [hs']; exact h2, hbd2, hlo, hhi, hcl, hop⟩⟩

/-- A text with the page's escapes: the same tokens, with these escapes. -/
theorem TS.esc {m : M} {l : List UInt8} {ts : List (List UInt8)} {z : List UInt8} (h : TS m l ts z) : ∃ ts', TS m (Js.esc l) ts' z ∧ Js.esc ts.flatten = ts'.flatten := by
  induction h with
  | done hb hz he =>
    rename_i m z
    refine ⟨[], ?_, esc_nil⟩
    have := esc_word z (fun d hd => sp_plain (hz d hd)) []
    rw [List.append_nil, esc_nil, List.append_nil] at this
    rw [this]
    exact .done hb hz he
  | @tok m m1 m2 b u rest z c ts hb ht hr ih =>
    obtain ⟨ts', h1, h2⟩ := ih
    obtain ⟨u', h3, h4⟩ := ht.esc
    refine ⟨(c :: u') :: ts', ?_, ?_⟩
    · rw [esc_word b (fun d hd => sp_plain (hb d hd)), h3]
      exact TS.tok hb h4 h1
    · show Js.esc (c :: (u ++ ts.flatten)) = c :: (u' ++ ts'.flatten)
      rw [h3, h2]

/-- TWO ROADS, of plain texts. -/
theorem layouts {l : List UInt8} (ha : Js.acc Js.init l = true) {p i : List UInt8} (hp : Bl p) (hi : Bl i) :
    Js.acc Js.init (Js.ind p i Js.init false 0 l) = true ∧ Js.comp Js.init (Js.ind p i Js.init false 0 l) = Js.comp Js.init l ∧
    Js.acc Js.init (Js.comp Js.init l) = true ∧ Js.comp Js.init (Js.comp Js.init l) = Js.comp Js.init l ∧
    (∃ z, Bl z ∧ Js.ind p i Js.init false 0 l = Js.ind p i Js.init false 0 (Js.comp Js.init l) ++ z) ∧
    Js.acc Js.init (Js.esc (Js.ind p i Js.init false 0 l)) = true ∧ Js.comp Js.init (Js.esc (Js.ind p i Js.init false 0 l)) = Js.esc (Js.comp Js.init l) ∧ Js.acc Js.init (Js.esc (Js.comp Js.init l)) = true := by
  obtain ⟨ts, z, h⟩ := ts_init ha
  have hnd : ∀ m : M, false = true → m.st = .bvoe ∨ m.st = .bsoe := fun _ h => by cases h
  obtain ⟨z1, h1⟩ := h.laid hp hi false 0
  obtain ⟨z2, h2⟩ := h1.post h.tail
  rw [← h.ind p i false 0 (hnd _)] at h2
  have h3 := h.bare
  obtain ⟨ts', h4, h5⟩ := h2.esc
  obtain ⟨ts2, h6, h7⟩ := h3.esc
  rw [h.comp]
  refine ⟨h2.acc, h2.comp, h3.acc, h3.comp, ⟨z, h.tail, ?_⟩, h4.acc, ?_, h6.acc⟩
  · rw [h3.ind p i false 0 (hnd _), List.append_nil]
    exact h.ind p i false 0 (hnd _)
  · rw [h4.comp, h5]

end Go.Proofs.YtlmhpmbgalmpgaaGreatDoor.Js
