/-
  A text by its tokens: one token.
-/
import Derived.Test.YtlmhpmbgalmpgaaGreatDoorPl6
namespace Go.Proofs.YtlmhpmbgalmpgaaGreatDoor.Js

/-- Between two tokens. -/
inductive Bd : M → Prop
  | bv (S : List Ps) (h : S.head? ≠ some .key) : Bd (mk .bv S)
  | bvoe (S : List Ps) : Bd (mk .bvoe (.arr :: S))
  | bsoe (S : List Ps) : Bd (mk .bsoe (.key :: S))
  | bs (S : List Ps) : Bd (mk .bs (.key :: S))
  | ev (S : List Ps) : Bd (mk .ev S)
  | et : Bd ⟨.et, [], true, false⟩

/-- Two machines that go on alike. -/
structure Same (m m' : M) (r : List UInt8) : Prop where
  acc' : acc m' r = true
  st : ∀ c r', r = c :: r' → step m c.toNat = step m' c.toNat

theorem Same.refl {m : M} {r : List UInt8} (h : acc m r = true) : Same m m r := ⟨h, fun _ _ _ => rfl⟩

theorem Same.comp {m m' : M} {r : List UInt8} (h : Same m m' r) : comp m r = comp m' r := by
  cases r with
  | nil => rfl
  | cons c r =>
    have := h.st c r rfl
    unfold Js.comp
    rw [this]

theorem stEv_st (st : St) (S : List Ps) (c : Nat) : stEv (mk st S) c = stEv (mk .ev S) c := by
  cases S with
  | nil => rfl
  | cons p S => cases p <;> cases S <;> rfl

theorem dl_cases {c : UInt8} (h : dl c = true) : dig c.toNat = false ∧ c.toNat ≠ 46 ∧ c.toNat ≠ 101 ∧ c.toNat ≠ 69 ∧ c.toNat ≠ 48 ∧ c.toNat ≠ 43 ∧ c.toNat ≠ 45 ∧ c.toNat ≠ 114 ∧ c.toNat ≠ 117 ∧ c.toNat ≠ 97 ∧ c.toNat ≠ 108 ∧ c.toNat ≠ 115 := by
  have h1 : c.toNat = 32 ∨ c.toNat = 9 ∨ c.toNat = 13 ∨ c.toNat = 10 ∨ c.toNat = 44 ∨ c.toNat = 93 ∨ c.toNat = 125 := by
    simp only [dl, sp, Bool.or_eq_true, beq_iff_eq] at h
    rcases h with ((h | h) | h) | h
    · omega
    · subst h; decide
    · subst h; decide
    · subst h; decide
  refine ⟨?_, by omega, by omega, by omega, by omega, by omega, by omega, by omega, by omega, by omega, by omega, by omega⟩
  unfold dig
  rcases h1 with h | h | h | h | h | h | h <;> rw [h] <;> decide

theorem word_end (S : List Ps) (st : St) (hst : ws st = true) (r : List UInt8) (hr : r = [] ∨ ∃ c r', r = c :: r' ∧ dl c = true) (ha : acc (mk st S) r = true) : Same (mk st S) (mk .ev S) r := by
  rcases hr with rfl | ⟨c, r', rfl, hd⟩
  · refine ⟨?_, fun _ _ h => by cases h⟩
    rw [acc_nil] at ha ⊢
    cases st <;> first | (exact absurd hst (by decide)) | skip
    case ev => exact ha
    case n1 => exact (eof_num .n1 S rfl).symm.trans ha
    case n0 => exact (eof_num .n0 S rfl).symm.trans ha
    case dot0 => exact (eof_num .dot0 S rfl).symm.trans ha
    case e0 => exact (eof_num .e0 S rfl).symm.trans ha
    all_goals exact absurd ha (by simp [eof, mk, step, is, fail, dig, stESign])
  · obtain ⟨h1, h2, h3, h4, h5, h6, h7, h8, h9, h10, h11, h12⟩ := dl_cases hd
    have key : step (mk st S) c.toNat = step (mk .ev S) c.toNat := by
      have b := fun n (h : c.toNat ≠ n) => (beq_eq_false_iff_ne.2 h : (c.toNat == n) = false)
      rw [acc_cons] at ha
      have no : ∀ m : M, acc (fail m).1 r' = true → False := fun m h => by rw [acc_fail] at h; cases h
      cases st <;> first | (exact absurd hst (by decide)) | skip
      case n1 => exact (show step (mk .n1 S) c.toNat = stEv (mk .n1 S) c.toNat by simp [step, mk, stN0, h1, h2, h3, h4]).trans (stEv_st .n1 S _)
      case n0 => exact (show step (mk .n0 S) c.toNat = stEv (mk .n0 S) c.toNat by simp [step, mk, stN0, h2, h3, h4]).trans (stEv_st .n0 S _)
      case dot0 => exact (show step (mk .dot0 S) c.toNat = stEv (mk .dot0 S) c.toNat by simp [step, mk, h1, h3, h4]).trans (stEv_st .dot0 S _)
      case e0 => exact (show step (mk .e0 S) c.toNat = stEv (mk .e0 S) c.toNat by simp [step, mk, h1]).trans (stEv_st .e0 S _)
      case ev => rfl
      case neg => exact (no _ (by simpa [step, mk, h1, h5] using ha)).elim
      case dot => exact (no _ (by simpa [step, mk, h1] using ha)).elim
      case e => exact (no _ (by simpa [step, mk, stESign, h1, h6, h7] using ha)).elim
      case esign => exact (no _ (by simpa [step, mk, stESign, h1] using ha)).elim
      case t => exact (no _ (by simpa [step, mk, is, h8] using ha)).elim
      case tr => exact (no _ (by simpa [step, mk, is, h9] using ha)).elim
      case tru => exact (no _ (by simpa [step, mk, is, h3] using ha)).elim
      case f => exact (no _ (by simpa [step, mk, is, h10] using ha)).elim
      case fa => exact (no _ (by simpa [step, mk, is, h11] using ha)).elim
      case fal => exact (no _ (by simpa [step, mk, is, h12] using ha)).elim
      case fals => exact (no _ (by simpa [step, mk, is, h3] using ha)).elim
      case n => exact (no _ (by simpa [step, mk, is, h9] using ha)).elim
      case nu => exact (no _ (by simpa [step, mk, is, h11] using ha)).elim
      case nul => exact (no _ (by simpa [step, mk, is, h11] using ha)).elim
    refine ⟨?_, fun c2 r2 h => by cases h; exact key⟩
    rw [acc_cons] at ha ⊢
    rw [← key]
    exact ha

def struc (c : UInt8) : Bool := c == 91 || c == 93 || c == 123 || c == 125 || c == 44 || c == 58

/-- The token at the head of a text, and what is left. -/
def piece : List UInt8 → List UInt8 × List UInt8
  | [] => ([], [])
  | c :: r => if c == 34 then (match pStr r with | some r' => ((c :: r).take (r.length + 1 - r'.length), r') | none => ([], c :: r))
    else if struc c then ([c], r)
    else (wTok (c :: r), wEnd (c :: r))

theorem word_wz (S : List Ps) (st : St) (hst : ws st = true) (r : List UInt8) (hr : r = [] ∨ ∃ c r', r = c :: r' ∧ dl c = true) (ha : acc (mk st S) r = true) : wz st = true := by
  rcases hr with rfl | ⟨c, r', rfl, hd⟩
  · rw [acc_nil] at ha
    cases st <;> first | (exact absurd hst (by decide)) | skip
    case ev => rfl
    case n1 => rfl
    case n0 => rfl
    case dot0 => rfl
    case e0 => rfl
    all_goals exact absurd ha (by simp [eof, mk, step, is, fail, dig, stESign])
  · obtain ⟨h1, h2, h3, h4, h5, h6, h7, h8, h9, h10, h11, h12⟩ := dl_cases hd
    rw [acc_cons] at ha
    have no : ∀ m : M, acc (fail m).1 r' = true → False := fun m h => by rw [acc_fail] at h; cases h
    cases st <;> first | (exact absurd hst (by decide)) | rfl | skip
    case neg => exact (no _ (by simpa [step, mk, h1, h5] using ha)).elim
    case dot => exact (no _ (by simpa [step, mk, h1] using ha)).elim
    case e => exact (no _ (by simpa [step, mk, stESign, h1, h6, h7] using ha)).elim
    case esign => exact (no _ (by simpa [step, mk, stESign, h1] using ha)).elim
    case t => exact (no _ (by simpa [step, mk, is, h8] using ha)).elim
    case tr => exact (no _ (by simpa [step, mk, is, h9] using ha)).elim
    case tru => exact (no _ (by simpa [step, mk, is, h3] using ha)).elim
    case f => exact (no _ (by simpa [step, mk, is, h10] using ha)).elim
    case fa => exact (no _ (by simpa [step, mk, is, h11] using ha)).elim
    case fal => exact (no _ (by simpa [step, mk, is, h12] using ha)).elim
    case fals => exact (no _ (by simpa [step, mk, is, h3] using ha)).elim
    case n => exact (no _ (by simpa [step, mk, is, h9] using ha)).elim
    case nu => exact (no _ (by simpa [step, mk, is, h11] using ha)).elim
    case nul => exact (no _ (by simpa [step, mk, is, h11] using ha)).elim

/-- Behind a word that may end there, ahead of an end. -/
theorem wz_same (S : List Ps) (st : St) (hst : wz st = true) (r : List UInt8) (hr : r = [] ∨ ∃ c r', r = c :: r' ∧ dl c = true) (ha : acc (mk .ev S) r = true) : acc (mk st S) r = true ∧ Same (mk st S) (mk .ev S) r := by
  rcases hr with rfl | ⟨c, r', rfl, hd⟩
  · refine ⟨?_, ha, fun _ _ h => by cases h⟩
    rw [acc_nil] at ha ⊢
    cases st <;> first | (exact absurd hst (by decide)) | skip
    case ev => exact ha
    case n1 => exact (eof_num .n1 S rfl).trans ha
    case n0 => exact (eof_num .n0 S rfl).trans ha
    case dot0 => exact (eof_num .dot0 S rfl).trans ha
    case e0 => exact (eof_num .e0 S rfl).trans ha
  · obtain ⟨h1, h2, h3, h4, h5, h6, h7, h8, h9, h10, h11, h12⟩ := dl_cases hd
    have key : step (mk st S) c.toNat = step (mk .ev S) c.toNat := by
      cases st <;> first | (exact absurd hst (by decide)) | skip
      case n1 => exact (show step (mk .n1 S) c.toNat = stEv (mk .n1 S) c.toNat by simp [step, mk, stN0, h1, h2, h3, h4]).trans (stEv_st .n1 S _)
      case n0 => exact (show step (mk .n0 S) c.toNat = stEv (mk .n0 S) c.toNat by simp [step, mk, stN0, h2, h3, h4]).trans (stEv_st .n0 S _)
      case dot0 => exact (show step (mk .dot0 S) c.toNat = stEv (mk .dot0 S) c.toNat by simp [step, mk, h1, h3, h4]).trans (stEv_st .dot0 S _)
      case e0 => exact (show step (mk .e0 S) c.toNat = stEv (mk .e0 S) c.toNat by simp [step, mk, h1]).trans (stEv_st .e0 S _)
      case ev => rfl
    refine ⟨?_, ha, fun c2 r2 h => by cases h; exact key⟩
    rw [acc_cons] at ha ⊢
    rw [key]
    exact ha

/-- A byte that a page's escapes leave alone. -/
def plain (c : UInt8) : Bool := !(c == 60 || c == 62 || c == 38 || c == 226)

/-- The kinds of tokens: a sign, a string, a word or a number. -/
inductive Kd : M → UInt8 → List UInt8 → M → M → Prop
  | one {m : M} {c : UInt8} (hc : struc c = true) : Kd m c [] (step m c.toNat).1 (step m c.toNat).1
  | str {m : M} {S : List Ps} {u : List UInt8} (hs : step m 34 = (mk .str S, 1)) (he : eat (mk .str S) u = some (mk .ev S)) : Kd m 34 u (mk .ev S) (mk .ev S)
  | word {m : M} {S : List Ps} {c : UInt8} {u : List UInt8} {st st2 : St} (hw : ws st = true) (hz : wz st2 = true) (hS : S.head? ≠ some .key) (hs : step m c.toNat = (mk st S, 1)) (hd : dl c = false) (hc : struc c = false) (hp : plain c = true) (he : eat (mk st S) u = some (mk st2 S)) (h34 : (c == 34) = false) : Kd m c u (mk st2 S) (mk .ev S)

/-- How the machine takes a token. -/
def Tk (m : M) (c : UInt8) (r : List UInt8) : Prop :=
  ∃ u rest m1 m2, r = u ++ rest ∧ piece (c :: r) = (c :: u, rest) ∧ eat (step m c.toNat).1 u = some m1 ∧ Bd m2 ∧ Same m1 m2 rest ∧
    1 ≤ (step m c.toNat).2 ∧ (step m c.toNat).2 < 9 ∧ (((step m c.toNat).2 = 5 ∨ (step m c.toNat).2 = 8) ↔ (c = 93 ∨ c = 125)) ∧ (c = 91 ∨ c = 123 → m2.st = .bvoe ∨ m2.st = .bsoe) ∧ Kd m c u m1 m2

theorem tk_one {m : M} {c : UInt8} {r : List UInt8} (hc : struc c = true) (ha : acc m (c :: r) = true) {m' : M} {n : Nat} (he : step m c.toNat = (m', n)) (hb : Bd m') (h1 : 1 ≤ n) (h2 : n < 9) (h3 : (n = 5 ∨ n = 8) ↔ (c = 93 ∨ c = 125)) (h4 : c = 91 ∨ c = 123 → m'.st = .bvoe ∨ m'.st = .bsoe) : Tk m c r := by
  have hop : (step m c.toNat).2 = n := by rw [he]
  rw [← hop] at h1 h2 h3
  have h4 : c = 91 ∨ c = 123 → (step m c.toNat).1.st = .bvoe ∨ (step m c.toNat).1.st = .bsoe := by rw [he]; exact h4
  have hb : Bd (step m c.toNat).1 := by rw [he]; exact hb
  refine ⟨[], r, _, _, rfl, ?_, rfl, hb, Same.refl (by rw [acc_cons] at ha; exact ha), h1, h2, h3, h4, .one hc⟩
  have h34 : (c == 34) = false := by
    rw [beq_eq_false_iff_ne]
    rintro rfl
    revert hc; decide
  simp [piece, h34, hc]

theorem tk_str {m : M} {S : List Ps} {r : List UInt8} (hs : step m 34 = (mk .str S, 1)) (ha : acc m (34 :: r) = true) : Tk m 34 r := by
  rw [acc_cons] at ha
  have hs' : step m (34 : UInt8).toNat = (mk .str S, 1) := hs
  have hop : (step m (34 : UInt8).toNat).2 = 1 := by rw [hs']
  rw [hs', acc_str] at ha
  cases hp : pStr r with
  | none => rw [hp] at ha; cases ha
  | some r' =>
    rw [hp] at ha
    have ha' : acc (mk .ev S) r' = true := ha
    obtain ⟨u, hu, he⟩ := eat_str S r r' hp
    refine ⟨u, r', mk .ev S, mk .ev S, hu, ?_, by rw [hs']; exact he, .ev S, Same.refl ha', Nat.le_of_eq hop.symm, by rw [hop]; decide, ?_, fun h => by rcases h with h | h <;> exact absurd h (by decide), .str hs he⟩
    · simp only [piece, beq_self_eq_true, if_true, hp]
      congr 1
      rw [hu, List.length_append, show u.length + r'.length + 1 - r'.length = u.length + 1 by omega, List.take_succ_cons, List.take_left' rfl]
    · rw [hop]
      decide

theorem tk_word {m : M} {S : List Ps} {st : St} {c : UInt8} {r : List UInt8} (hw : ws st = true) (hS : S.head? ≠ some .key) (hs : step m c.toNat = (mk st S, 1)) (hd : dl c = false) (h34 : (c == 34) = false) (hc : struc c = false) (hpl : plain c = true) (ha : acc m (c :: r) = true) : Tk m c r := by
  rw [acc_cons, hs] at ha
  have hop : (step m c.toNat).2 = 1 := by rw [hs]
  obtain ⟨st2, h1, h2, h3⟩ := word_eat S hS r st hw ha
  refine ⟨wTok r, wEnd r, mk st2 S, mk .ev S, (w_split r).symm, ?_, by rw [hs]; exact h2, .ev S, word_end S st2 h1 _ (wEnd_head r) h3, Nat.le_of_eq hop.symm, by rw [hop]; decide, ?_, fun h => by rcases h with rfl | rfl <;> exact absurd hc (by decide), .word hw (word_wz S st2 h1 _ (wEnd_head r) h3) hS hs hd hc hpl h2 h34⟩
  · simp [piece, h34, hc, wTok_cons hd, wEnd_cons hd]
  · rw [hop]
    refine ⟨fun h => by omega, fun h => ?_⟩
    rcases h with rfl | rfl <;> exact absurd hc (by decide)

theorem ceq {c : UInt8} {n : UInt8} (h : c.toNat = n.toNat) : c = n := UInt8.toNat_inj.1 h

theorem tok_bv (st : St) (S : List Ps) (hS : S.head? ≠ some .key) (c : UInt8) (r : List UInt8) (hsp : sp c.toNat = false) (hst : step (mk st S) c.toNat = stBv (mk st S) c.toNat) (ha : acc (mk st S) (c :: r) = true) : Tk (mk st S) c r := by
  have ha0 := ha
  rw [acc_cons, hst] at ha
  have no : ∀ m : M, acc (fail m).1 r = true → False := fun m h => by rw [acc_fail] at h; cases h
  by_cases h1 : c = 123
  · subst h1
    by_cases hl : S.length < 10000
    · have e : step (mk st S) (123 : UInt8).toNat = (mk .bsoe (.key :: S), 2) := by rw [hst]; simp [stBv, sp, push, mk, hl]
      exact tk_one (by decide) ha0 e (.bsoe S) (by decide) (by decide) (by decide) (fun _ => .inr rfl)
    · exact (no _ (by simpa [stBv, sp, push, mk, hl] using ha)).elim
  by_cases h2 : c = 91
  · subst h2
    by_cases hl : S.length < 10000
    · have e : step (mk st S) (91 : UInt8).toNat = (mk .bvoe (.arr :: S), 6) := by rw [hst]; simp [stBv, sp, push, mk, hl]
      exact tk_one (by decide) ha0 e (.bvoe S) (by decide) (by decide) (by decide) (fun _ => .inl rfl)
    · exact (no _ (by simpa [stBv, sp, push, mk, hl] using ha)).elim
  by_cases h3 : c = 34
  · subst h3
    exact tk_str (S := S) (by have := hst; simpa [stBv, sp, to, mk] using this) ha0
  have n1 : (c.toNat == 123) = false := beq_eq_false_iff_ne.2 fun e => h1 (ceq e)
  have n2 : (c.toNat == 91) = false := beq_eq_false_iff_ne.2 fun e => h2 (ceq e)
  have n3 : (c.toNat == 34) = false := beq_eq_false_iff_ne.2 fun e => h3 (ceq e)
  have hstep : ∀ st', stBv (mk st S) c.toNat = (mk st' S, 1) → ws st' = true → dl c = false → struc c = false → plain c = true → Tk (mk st S) c r := fun st' h hw hd hc hpl =>
    tk_word hw hS (hst.trans h) hd (beq_eq_false_iff_ne.2 h3) hc hpl ha0
  by_cases h4 : c = 45
  · subst h4; exact hstep .neg rfl rfl (by decide) (by decide) (by decide)
  by_cases h5 : c = 48
  · subst h5; exact hstep .n0 rfl rfl (by decide) (by decide) (by decide)
  by_cases h6 : c = 116
  · subst h6; exact hstep .t rfl rfl (by decide) (by decide) (by decide)
  by_cases h7 : c = 102
  · subst h7; exact hstep .f rfl rfl (by decide) (by decide) (by decide)
  by_cases h8 : c = 110
  · subst h8; exact hstep .n rfl rfl (by decide) (by decide) (by decide)
  have n4 : (c.toNat == 45) = false := beq_eq_false_iff_ne.2 fun e => h4 (ceq e)
  have n5 : (c.toNat == 48) = false := beq_eq_false_iff_ne.2 fun e => h5 (ceq e)
  have n6 : (c.toNat == 116) = false := beq_eq_false_iff_ne.2 fun e => h6 (ceq e)
  have n7 : (c.toNat == 102) = false := beq_eq_false_iff_ne.2 fun e => h7 (ceq e)
  have n8 : (c.toNat == 110) = false := beq_eq_false_iff_ne.2 fun e => h8 (ceq e)
  cases hd : dig c.toNat with
  | true =>
    have hr : 48 ≤ c.toNat ∧ c.toNat ≤ 57 := by simpa [dig] using hd
    refine hstep .n1 ?_ rfl ?_ ?_ ?_
    · unfold stBv; rw [hsp, n1, n2, n3, n4, n5, n6, n7, n8, hd]; rfl
    · have q : ∀ n : UInt8, n.toNat < 48 ∨ 57 < n.toNat → (c == n) = false := fun n hn => beq_eq_false_iff_ne.2 fun e => by rw [e] at hr; omega
      simp [dl, hsp, q 44 (by decide), q 93 (by decide), q 125 (by decide)]
    · have q : ∀ n : UInt8, n.toNat < 48 ∨ 57 < n.toNat → (c == n) = false := fun n hn => beq_eq_false_iff_ne.2 fun e => by rw [e] at hr; omega
      simp [struc, q 44 (by decide), q 93 (by decide), q 125 (by decide), q 91 (by decide), q 123 (by decide), q 58 (by decide)]
    · have q : ∀ n : UInt8, n.toNat < 48 ∨ 57 < n.toNat → (c == n) = false := fun n hn => beq_eq_false_iff_ne.2 fun e => by rw [e] at hr; omega
      simp [plain, q 60 (by decide), q 62 (by decide), q 38 (by decide), q 226 (by decide)]
  | false =>
    refine (no (mk st S) ?_).elim
    have e : stBv (mk st S) c.toNat = fail (mk st S) := by unfold stBv; rw [hsp, n1, n2, n3, n4, n5, n6, n7, n8, hd]; rfl
    rw [e] at ha
    exact ha

end Go.Proofs.YtlmhpmbgalmpgaaGreatDoor.Js
