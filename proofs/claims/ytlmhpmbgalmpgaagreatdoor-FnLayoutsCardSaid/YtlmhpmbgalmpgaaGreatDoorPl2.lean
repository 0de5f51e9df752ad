/-
  The machine of the scanner reads just the texts of the grammar.
-/
import Derived.Test.YtlmhpmbgalmpgaaGreatDoorPl1
namespace Go.Proofs.YtlmhpmbgalmpgaaGreatDoor.Js

/-- The machine with a stack, no error, nothing ended. -/
def mk (st : St) (S : List Ps) : M := ⟨st, S, false, false⟩

theorem acc_nil (m : M) : acc m [] = eof m := rfl
theorem acc_cons (m : M) (c : UInt8) (l : List UInt8) : acc m (c :: l) = acc (step m c.toNat).1 l := rfl
theorem run_cons (m : M) (c : UInt8) (l : List UInt8) : run m (c :: l) = run (step m c.toNat).1 l := rfl
theorem run_append (m : M) (a b : List UInt8) : run m (a ++ b) = run (run m a) b := by simp [run]

theorem step_bad (m : M) (_h : m.bad = true) (hs : m.st = .err) (c : Nat) : step m c = (m, 11) := by simp [step, hs]

theorem run_bad (l : List UInt8) : ∀ m : M, m.bad = true → m.st = .err → run m l = m := by
  induction l with
  | nil => intro m _ _; rfl
  | cons c l ih => intro m h hs; rw [run_cons, step_bad m h hs]; exact ih m h hs

theorem acc_bad (m : M) (h : m.bad = true) (hs : m.st = .err) (l : List UInt8) : acc m l = false := by
  rw [acc, run_bad l m h hs, eof, h]; rfl

theorem acc_fail (m : M) (l : List UInt8) : acc (fail m).1 l = false := acc_bad _ rfl rfl l

theorem acc_is (m : M) (c : UInt8) (d : Nat) (st : St) (l : List UInt8) :
    acc (is m c.toNat d st).1 l = if c.toNat == d then acc { m with st := st } l else false := by
  unfold is
  split
  · rfl
  · exact acc_fail _ _

/-- Ended: only blanks may follow. -/
theorem acc_et (l : List UInt8) : acc ⟨.et, [], true, false⟩ l = (skip l).isEmpty := by
  induction l with
  | nil => rfl
  | cons c l ih =>
    rw [acc_cons]
    simp only [step, stEt, skip]
    split
    · exact ih
    · exact acc_fail _ _

theorem acc_ev_nil (l : List UInt8) : acc (mk .ev []) l = (skip l).isEmpty := by
  cases l with
  | nil => rfl
  | cons c l =>
    rw [← acc_et]
    rfl

/-- What follows a value. -/
def aft (S : List Ps) : Option (List UInt8) → Bool
  | none => false
  | some r => acc (mk .ev S) r

theorem eof_ev_cons (p : Ps) (S : List Ps) : eof (mk .ev (p :: S)) = false := rfl

theorem acc_pop (p : Ps) (S : List Ps) (st : St) (l : List UInt8) : acc (pop ⟨st, p :: S, false, false⟩) l = acc (mk .ev S) l := by
  cases S with
  | nil => show acc ⟨.et, [], true, false⟩ l = _; rw [acc_et, acc_ev_nil]
  | cons q S => rfl

/-- Behind an element of an array. -/
theorem acc_ev_arr (S : List Ps) (l : List UInt8) : acc (mk .ev (.arr :: S)) l =
    match skip l with
    | [] => false
    | c :: r => if c.toNat == 93 then acc (mk .ev S) r else if c.toNat == 44 then acc (mk .bv (.arr :: S)) r else false := by
  induction l with
  | nil => rfl
  | cons c l ih =>
    rw [acc_cons]
    by_cases h : sp c.toNat = true
    · simp only [skip, h, if_true, step, mk, stEv]; exact ih
    · simp only [skip, h, step, mk, stEv]
      by_cases h1 : c.toNat = 44
      · simp [h1]
      · by_cases h2 : c.toNat = 93
        · simp [h2, acc_pop, mk]
        · simp [h1, h2, acc_fail]

theorem acc_ev_val (S : List Ps) (l : List UInt8) : acc (mk .ev (.val :: S)) l =
    match skip l with
    | [] => false
    | c :: r => if c.toNat == 125 then acc (mk .ev S) r else if c.toNat == 44 then acc (mk .bs (.key :: S)) r else false := by
  induction l with
  | nil => rfl
  | cons c l ih =>
    rw [acc_cons]
    by_cases h : sp c.toNat = true
    · simp only [skip, h, if_true, step, mk, stEv]; exact ih
    · simp only [skip, h, step, mk, stEv]
      by_cases h1 : c.toNat = 44
      · simp [h1]
      · by_cases h2 : c.toNat = 125
        · simp [h2, acc_pop, mk]
        · simp [h1, h2, acc_fail]

theorem acc_ev_key (S : List Ps) (l : List UInt8) : acc (mk .ev (.key :: S)) l =
    match skip l with
    | [] => false
    | c :: r => if c.toNat == 58 then acc (mk .bv (.val :: S)) r else false := by
  induction l with
  | nil => rfl
  | cons c l ih =>
    rw [acc_cons]
    by_cases h : sp c.toNat = true
    · simp only [skip, h, if_true, step, mk, stEv]; exact ih
    · simp only [skip, h, step, mk, stEv]
      by_cases h1 : c.toNat = 58
      · simp [h1]
      · simp [h1, acc_fail]

theorem acc_bs (S : List Ps) (l : List UInt8) : acc (mk .bs S) l =
    match skip l with
    | [] => false
    | c :: r => if c.toNat == 34 then acc (mk .str S) r else false := by
  induction l with
  | nil => rfl
  | cons c l ih =>
    rw [acc_cons]
    by_cases h : sp c.toNat = true
    · simp only [skip, h, if_true, step, mk, stBs]; exact ih
    · simp only [skip, h, step, mk, stBs]
      by_cases h1 : c.toNat = 34
      · simp [h1, to]
      · simp [h1, acc_fail]


theorem acc_str_cons (S : List Ps) (c : UInt8) (l : List UInt8) : acc (mk .str S) (c :: l) =
    if c.toNat == 34 then acc (mk .ev S) l else if c.toNat == 92 then acc (mk .esc S) l else if c.toNat < 32 then false else acc (mk .str S) l := by
  rw [acc_cons]
  simp only [step, mk]
  split
  · rfl
  · split
    · rfl
    · split
      · exact acc_fail _ _
      · rfl

theorem acc_esc_cons (S : List Ps) (c : UInt8) (l : List UInt8) : acc (mk .esc S) (c :: l) =
    if c.toNat == 98 || c.toNat == 102 || c.toNat == 110 || c.toNat == 114 || c.toNat == 116 || c.toNat == 92 || c.toNat == 47 || c.toNat == 34 then acc (mk .str S) l
    else if c.toNat == 117 then acc (mk .u0 S) l else false := by
  rw [acc_cons]
  simp only [step, mk]
  split
  · rfl
  · split
    · rfl
    · exact acc_fail _ _

theorem acc_hex (st st' : St) (S : List Ps) (h : ∀ c, step (mk st S) c = if hex c then (mk st' S, 0) else fail (mk st S)) (c : UInt8) (l : List UInt8) :
    acc (mk st S) (c :: l) = if hex c.toNat then acc (mk st' S) l else false := by
  rw [acc_cons, h]
  split
  · rfl
  · exact acc_fail _ _

theorem acc_u0 (S : List Ps) (l : List UInt8) : acc (mk .u0 S) l =
    match l with
    | a :: b :: c :: d :: r => if hex a.toNat && hex b.toNat && hex c.toNat && hex d.toNat then acc (mk .str S) r else false
    | _ => false := by
  have h0 := acc_hex .u0 .u1 S (fun c => by simp [step, mk, to])
  have h1 := acc_hex .u1 .u2 S (fun c => by simp [step, mk, to])
  have h2 := acc_hex .u2 .u3 S (fun c => by simp [step, mk, to])
  have h3 := acc_hex .u3 .str S (fun c => by simp [step, mk, to])
  rcases l with _ | ⟨a, _ | ⟨b, _ | ⟨c, _ | ⟨d, r⟩⟩⟩⟩
  · rfl
  · rw [h0]; show (if _ then false else false) = false; simp
  · rw [h0, h1]; show (if _ then (if _ then false else false) else false) = false; simp
  · rw [h0, h1, h2]; show (if _ then (if _ then (if _ then false else false) else false) else false) = false; simp
  · rw [h0, h1, h2, h3]
    simp only []
    cases hex a.toNat <;> cases hex b.toNat <;> cases hex c.toNat <;> cases hex d.toNat <;> simp

/-- A string, from behind its quotation mark on. -/
theorem acc_str (S : List Ps) (l : List UInt8) : acc (mk .str S) l = aft S (pStr l) := by
  fun_induction pStr l with
  | case1 => rfl
  | case2 c l h => rw [acc_str_cons, if_pos h]; rfl
  | case3 c l h1 h2 =>
    rw [acc_str_cons, if_neg h1]
    rw [if_neg (by simp; omega), if_pos h2]; rfl
  | case4 c h1 h2 h3 => rw [acc_str_cons, if_neg h1, if_pos h3]; rfl
  | case5 c h1 h2 h3 d l h4 ih => rw [acc_str_cons, if_neg h1, if_pos h3, acc_esc_cons, if_pos h4]; exact ih
  | case6 c h1 h2 h3 d h4 h5 a b x y l h6 ih => rw [acc_str_cons, if_neg h1, if_pos h3, acc_esc_cons, if_neg h4, if_pos h5, acc_u0]; simp only [h6, if_true]; exact ih
  | case7 c h1 h2 h3 d h4 h5 a b x y l h6 => rw [acc_str_cons, if_neg h1, if_pos h3, acc_esc_cons, if_neg h4, if_pos h5, acc_u0]; simp only [h6]; rfl
  | case8 c h1 h2 h3 d l h4 h5 h6 =>
    rw [acc_str_cons, if_neg h1, if_pos h3, acc_esc_cons, if_neg h4, if_pos h5, acc_u0]
    split
    · rename_i a b x y r; exact (h6 a b x y r rfl).elim
    · rfl
  | case9 c h1 h2 h3 d l h4 h5 => rw [acc_str_cons, if_neg h1, if_pos h3, acc_esc_cons, if_neg h4, if_neg h5]; rfl
  | case10 c l h1 h2 h3 ih => rw [acc_str_cons, if_neg h1, if_neg h3, if_neg h2]; exact ih

/- Numbers. -/

theorem eof_num (st : St) (S : List Ps) (h : step (mk st S) 32 = stEv (mk st S) 32) : eof (mk st S) = eof (mk .ev S) := by
  cases S with
  | nil => simp [eof, mk] at *; rw [h]; rfl
  | cons p S => simp [eof, mk] at *; rw [h]; rfl

/-- Ended by what is no part of it. -/
theorem step_ev_same (st : St) (S : List Ps) (c : Nat) : acc (stEv (mk st S) c).1 = acc (step (mk .ev S) c).1 := by
  funext l
  cases S with
  | nil => rfl
  | cons p S =>
    simp only [step, mk, stEv]
    cases p with
    | key => split; rfl; dsimp only; split; rfl; rw [acc_fail, acc_fail]
    | val => split; rfl; dsimp only; split; rfl; split; rw [acc_pop, acc_pop]; rw [acc_fail, acc_fail]
    | arr => split; rfl; dsimp only; split; rfl; split; rw [acc_pop, acc_pop]; rw [acc_fail, acc_fail]

theorem acc_e0 (S : List Ps) (l : List UInt8) : acc (mk .e0 S) l = acc (mk .ev S) (pDigs l) := by
  induction l with
  | nil => exact eof_num _ _ rfl
  | cons c l ih =>
    rw [acc_cons]
    simp only [step, mk, pDigs]
    split
    · exact ih
    · exact congrFun (step_ev_same .e0 S c.toNat) l

theorem acc_esign (S : List Ps) (l : List UInt8) : acc (mk .esign S) l = aft S (pDigits l) := by
  cases l with
  | nil => rfl
  | cons c l =>
    rw [acc_cons]
    simp only [step, mk, pDigits, stESign]
    split
    · exact acc_e0 S l
    · exact acc_fail _ _

theorem acc_e (S : List Ps) (l : List UInt8) : acc (mk .e S) l = aft S (pDigits (pSign l)) := by
  cases l with
  | nil => rfl
  | cons c l =>
    rw [← acc_esign]
    simp only [pSign]
    split
    · rename_i h
      rw [acc_cons]
      simp only [step, mk, h, if_true]
      rfl
    · rename_i h
      rw [acc_cons, acc_cons]
      simp only [step, mk, h, stESign]
      cases dig c.toNat <;> simp [to, acc_fail]

theorem acc_exp (S : List Ps) (st : St) (h : ∀ c, step (mk st S) c = if c == 101 || c == 69 then to (mk st S) .e 0 else stEv (mk st S) c) (l : List UInt8) :
    acc (mk st S) l = aft S (pExp l) := by
  cases l with
  | nil => exact eof_num _ _ (h 32)
  | cons c l =>
    rw [acc_cons, h]
    simp only [pExp]
    split
    · exact acc_e S l
    · rw [step_ev_same]; rfl

theorem acc_dot0 (S : List Ps) (l : List UInt8) : acc (mk .dot0 S) l = aft S (pExp (pDigs l)) := by
  induction l with
  | nil => exact eof_num _ _ rfl
  | cons c l ih =>
    rw [acc_cons]
    simp only [step, mk, pDigs]
    split
    · exact ih
    · simp only [pExp]
      split
      · exact acc_e S l
      · exact congrFun (step_ev_same .dot0 S c.toNat) l

theorem acc_dot (S : List Ps) (l : List UInt8) : acc (mk .dot S) l = aft S ((pDigits l).bind pExp) := by
  cases l with
  | nil => rfl
  | cons c l =>
    rw [acc_cons]
    simp only [step, mk, pDigits]
    split
    · exact acc_dot0 S l
    · exact acc_fail _ _

theorem acc_n0 (S : List Ps) (l : List UInt8) : acc (mk .n0 S) l = aft S (pFrac l) := by
  cases l with
  | nil => exact eof_num _ _ rfl
  | cons c l =>
    rw [acc_cons]
    simp only [step, mk, pFrac, stN0]
    split
    · exact acc_dot S l
    · simp only [pExp]
      split
      · exact acc_e S l
      · exact congrFun (step_ev_same .n0 S c.toNat) l

theorem acc_n1 (S : List Ps) (l : List UInt8) : acc (mk .n1 S) l = aft S (pFrac (pDigs l)) := by
  induction l with
  | nil => exact eof_num _ _ rfl
  | cons c l ih =>
    rw [acc_cons]
    simp only [step, mk, pDigs]
    split
    · exact ih
    · show _ = aft S (pFrac (c :: l))
      rw [← acc_n0, acc_cons]
      simp only [step, mk, stN0]
      split
      · rfl
      · split
        · rfl
        · rw [show (stEv ⟨.n1, S, false, false⟩ c.toNat).1 = (stEv (mk .n1 S) c.toNat).1 from rfl, show (stEv ⟨.n0, S, false, false⟩ c.toNat).1 = (stEv (mk .n0 S) c.toNat).1 from rfl, step_ev_same, step_ev_same]

theorem acc_neg (S : List Ps) (l : List UInt8) : acc (mk .neg S) l = aft S ((pInt l).bind pFrac) := by
  cases l with
  | nil => rfl
  | cons c l =>
    rw [acc_cons]
    simp only [step, mk, pInt, pDigits]
    split
    · exact acc_n0 S l
    · split
      · exact acc_n1 S l
      · exact acc_fail _ _

theorem acc_word (S : List Ps) (w : List Nat) (sts : List St) (st : St) (h : w.length = sts.length)
    (hs : ∀ i, i < w.length → ∀ c, step (mk ((st :: sts).getD i .err) S) c = is (mk ((st :: sts).getD i .err) S) c (w.getD i 0) ((st :: sts).getD (i + 1) .err))
    (he : ∀ i, i < w.length → eof (mk ((st :: sts).getD i .err) S) = false)
    (hl : (st :: sts).getLast? = some .ev) (l : List UInt8) :
    acc (mk st S) l = aft S (pWord w l) := by
  induction w generalizing sts st l with
  | nil =>
    cases sts with
    | nil => simp at hl; subst hl; rfl
    | cons _ _ => simp at h
  | cons d w ih =>
    cases sts with
    | nil => simp at h
    | cons st' sts =>
      cases l with
      | nil => exact he 0 (by simp)
      | cons c l =>
        have h0 := hs 0 (by simp) c.toNat
        simp at h0
        rw [acc_cons, h0, acc_is]
        simp only [pWord]
        split
        · refine ih sts st' (by simpa using h) (fun i hi c => ?_) (fun i hi => ?_) (by simpa using hl) l
          · have := hs (i + 1) (by simpa using hi) c
            simpa using this
          · have := he (i + 1) (by simpa using hi)
            simpa using this
        · rfl

theorem acc_true (S : List Ps) (l : List UInt8) : acc (mk .t S) l = aft S (pWord [114, 117, 101] l) := by
  refine acc_word S [114, 117, 101] [.tr, .tru, .ev] .t rfl ?_ ?_ rfl l
  · intro i hi c; match i, hi with | 0, _ => rfl | 1, _ => rfl | 2, _ => rfl
  · intro i hi; match i, hi with | 0, _ => rfl | 1, _ => rfl | 2, _ => rfl

theorem acc_false (S : List Ps) (l : List UInt8) : acc (mk .f S) l = aft S (pWord [97, 108, 115, 101] l) := by
  refine acc_word S [97, 108, 115, 101] [.fa, .fal, .fals, .ev] .f rfl ?_ ?_ rfl l
  · intro i hi c; match i, hi with | 0, _ => rfl | 1, _ => rfl | 2, _ => rfl | 3, _ => rfl
  · intro i hi; match i, hi with | 0, _ => rfl | 1, _ => rfl | 2, _ => rfl | 3, _ => rfl

theorem acc_null (S : List Ps) (l : List UInt8) : acc (mk .n S) l = aft S (pWord [117, 108, 108] l) := by
  refine acc_word S [117, 108, 108] [.nu, .nul, .ev] .n rfl ?_ ?_ rfl l
  · intro i hi c; match i, hi with | 0, _ => rfl | 1, _ => rfl | 2, _ => rfl
  · intro i hi; match i, hi with | 0, _ => rfl | 1, _ => rfl | 2, _ => rfl

/- Lengths: a reader leaves no more than there was. -/

theorem skip_le (l : List UInt8) : (skip l).length ≤ l.length := by
  fun_induction skip l <;> simp_all <;> omega

theorem pStr_le (l r : List UInt8) : pStr l = some r → r.length ≤ l.length := by
  fun_induction pStr l <;> intro h <;> simp_all <;> omega

theorem pDigs_le (l : List UInt8) : (pDigs l).length ≤ l.length := by
  fun_induction pDigs l <;> simp_all <;> omega

theorem pDigits_le (l r : List UInt8) (h : pDigits l = some r) : r.length ≤ l.length := by
  cases l with
  | nil => simp [pDigits] at h
  | cons c l =>
    simp only [pDigits] at h
    split at h
    · simp at h; subst h; have := pDigs_le l; simp; omega
    · simp at h

theorem pSign_le (l : List UInt8) : (pSign l).length ≤ l.length := by
  cases l with
  | nil => simp [pSign]
  | cons c l => simp only [pSign]; split <;> simp

theorem pExp_le (l r : List UInt8) (h : pExp l = some r) : r.length ≤ l.length := by
  cases l with
  | nil => simp [pExp] at h; subst h; simp
  | cons c l =>
    simp only [pExp] at h
    split at h
    · have := pDigits_le _ _ h; have := pSign_le l; simp; omega
    · simp at h; subst h; simp

theorem pFrac_le (l r : List UInt8) (h : pFrac l = some r) : r.length ≤ l.length := by
  cases l with
  | nil => simp [pFrac] at h; subst h; simp
  | cons c l =>
    simp only [pFrac] at h
    split at h
    · simp only [Option.bind_eq_some_iff] at h
      obtain ⟨a, h1, h2⟩ := h
      have := pDigits_le _ _ h1; have := pExp_le _ _ h2; simp; omega
    · exact pExp_le _ _ h

theorem pInt_le (l r : List UInt8) (h : pInt l = some r) : r.length ≤ l.length := by
  cases l with
  | nil => simp [pInt] at h
  | cons c l =>
    simp only [pInt] at h
    split at h
    · simp at h; subst h; simp
    · exact pDigits_le _ _ h

theorem pNum_le (l r : List UInt8) (h : pNum l = some r) : r.length ≤ l.length := by
  cases l with
  | nil => simp [pNum] at h
  | cons c l =>
    simp only [pNum] at h
    split at h
    all_goals
      simp only [Option.bind_eq_some_iff] at h
      obtain ⟨a, h1, h2⟩ := h
      have := pInt_le _ _ h1; have := pFrac_le _ _ h2
      try simp at this
      try simp
      try simp at *
      omega

theorem pWord_le (w : List Nat) (l r : List UInt8) (h : pWord w l = some r) : r.length ≤ l.length := by
  induction w generalizing l with
  | nil => simp [pWord] at h; subst h; simp
  | cons d w ih =>
    cases l with
    | nil => simp [pWord] at h
    | cons c l =>
      simp only [pWord] at h
      split at h
      · have := ih _ h; simp; omega
      · simp at h


theorem skip_skip (l : List UInt8) : skip (skip l) = skip l := by
  fun_induction skip l with
  | case1 => rfl
  | case2 c l h ih => exact ih
  | case3 c l h => simp [skip, h]

theorem acc_bv_skip (S : List Ps) (l : List UInt8) : acc (mk .bv S) l = acc (mk .bv S) (skip l) := by
  induction l with
  | nil => rfl
  | cons c l ih =>
    simp only [skip]
    split
    · rename_i h
      rw [acc_cons]
      simp only [step, mk, stBv, h, if_true]
      exact ih
    · rfl

theorem acc_bv_cons (S : List Ps) (c : UInt8) (l : List UInt8) (h : sp c.toNat = false) : acc (mk .bv S) (c :: l) =
    if c.toNat == 91 then (if S.length < 10000 then acc (mk .bvoe (.arr :: S)) l else false)
    else if c.toNat == 123 then (if S.length < 10000 then acc (mk .bsoe (.key :: S)) l else false)
    else if c.toNat == 34 then acc (mk .str S) l
    else if c.toNat == 116 then acc (mk .t S) l
    else if c.toNat == 102 then acc (mk .f S) l
    else if c.toNat == 110 then acc (mk .n S) l
    else if c.toNat == 45 then acc (mk .neg S) l
    else if c.toNat == 48 then acc (mk .n0 S) l
    else if dig c.toNat then acc (mk .n1 S) l
    else false := by
  rw [acc_cons]
  simp only [step, mk, stBv, h]
  generalize c.toNat = n
  by_cases h1 : n = 91
  · subst h1; by_cases hS : S.length < 10000 <;> simp [push, hS, acc_fail]
  by_cases h2 : n = 123
  · subst h2; by_cases hS : S.length < 10000 <;> simp [push, hS, acc_fail]
  by_cases h3 : n = 34
  · subst h3; rfl
  by_cases h4 : n = 116
  · subst h4; rfl
  by_cases h5 : n = 102
  · subst h5; rfl
  by_cases h6 : n = 110
  · subst h6; rfl
  by_cases h7 : n = 45
  · subst h7; rfl
  by_cases h8 : n = 48
  · subst h8; rfl
  by_cases h9 : dig n = true <;> simp [h1, h2, h3, h4, h5, h6, h7, h8, h9, acc_fail, to]

theorem stBv_st (st st' : St) (S : List Ps) (c : Nat) (h : sp c = false) : stBv ⟨st, S, false, false⟩ c = stBv ⟨st', S, false, false⟩ c := by
  simp [stBv, push, to, fail, h]

theorem stBs_st (st st' : St) (S : List Ps) (c : Nat) (h : sp c = false) : stBs ⟨st, S, false, false⟩ c = stBs ⟨st', S, false, false⟩ c := by
  simp [stBs, to, fail, h]

theorem acc_bvoe (S : List Ps) (l : List UInt8) : acc (mk .bvoe (.arr :: S)) l =
    match skip l with
    | [] => acc (mk .bv (.arr :: S)) l
    | d :: r => if d.toNat == 93 then acc (mk .ev S) r else acc (mk .bv (.arr :: S)) l := by
  induction l with
  | nil => rfl
  | cons c l ih =>
    rw [acc_cons]
    by_cases h : sp c.toNat = true
    · rw [acc_bv_skip]
      simp only [skip, h, if_true, step, mk]
      rw [acc_bv_skip] at ih
      exact ih
    · simp only [skip, h, step, mk]
      by_cases h1 : c.toNat = 93
      · simp [h1, stEv, sp, acc_pop, mk]
      · simp [h1]
        rw [stBv_st _ .bv _ _ (by simpa using h)]
        rfl

theorem acc_bsoe (S : List Ps) (l : List UInt8) : acc (mk .bsoe (.key :: S)) l =
    match skip l with
    | [] => acc (mk .bs (.key :: S)) l
    | d :: r => if d.toNat == 125 then acc (mk .ev S) r else acc (mk .bs (.key :: S)) l := by
  induction l with
  | nil => rfl
  | cons c l ih =>
    rw [acc_cons]
    by_cases h : sp c.toNat = true
    · have hb : acc (mk .bs (.key :: S)) (c :: l) = acc (mk .bs (.key :: S)) l := by
        rw [acc_cons]; simp only [step, mk, stBs, h, if_true]
      rw [hb]
      simp only [skip, h, if_true, step, mk]
      exact ih
    · simp only [skip, h, step, mk]
      by_cases h1 : c.toNat = 125
      · simp [h1, stEv, sp, acc_pop, mk, setVal]
      · simp [h1]
        rw [stBs_st _ .bs _ _ (by simpa using h)]
        rfl

theorem pNum_acc (S : List Ps) (c : UInt8) (l : List UInt8) (h : (c.toNat == 45 || dig c.toNat) = true) :
    (if c.toNat == 45 then acc (mk .neg S) l else if c.toNat == 48 then acc (mk .n0 S) l else if dig c.toNat then acc (mk .n1 S) l else false) = aft S (pNum (c :: l)) := by
  simp only [pNum, pInt]
  by_cases h1 : c.toNat = 45
  · simp only [h1, beq_self_eq_true, if_true]; exact acc_neg S l
  by_cases h2 : c.toNat = 48
  · simp [h2]; exact acc_n0 S l
  have h3 : dig c.toNat = true := by simpa [h1] using h
  simp [h1, h2, h3, pDigits]; exact acc_n1 S l

theorem p_le (k : Nat) : ∀ (deep : Nat) (l r : List UInt8), (pVal k deep l = some r → r.length ≤ l.length) ∧ (pArr k deep l = some r → r.length ≤ l.length) ∧ (pObj k deep l = some r → r.length ≤ l.length) := by
  induction k with
  | zero => intro deep l r; simp [pVal, pArr, pObj]
  | succ k ih =>
    intro deep l r
    have hsk := skip_le l
    refine ⟨fun h => ?_, fun h => ?_, fun h => ?_⟩
    · simp only [pVal] at h
      cases hs : skip l with
      | nil => simp [hs] at h
      | cons c l' =>
        rw [hs] at h hsk
        simp only [List.length_cons] at hsk
        simp only [] at h
        have key : ∀ o : Option (List UInt8), o = some r → (∀ r', o = some r' → r'.length ≤ l'.length + 1) → r.length ≤ l.length := fun o ho hh => by have := hh r ho; omega
        refine key _ h (fun r' h' => ?_)
        split at h'
        · split at h'
          · have := skip_le l'
            cases hs2 : skip l' with
            | nil => rw [hs2] at h'; have := (ih _ _ _).2.1 h'; omega
            | cons d q =>
              rw [hs2] at h' this
              simp only [List.length_cons] at this
              simp only [] at h'
              split at h'
              · simp at h'; subst h'; omega
              · have := (ih _ _ _).2.1 h'; omega
          · simp at h'
        · split at h'
          · split at h'
            · have := skip_le l'
              cases hs2 : skip l' with
              | nil => rw [hs2] at h'; have := (ih _ _ _).2.2 h'; omega
              | cons d q =>
                rw [hs2] at h' this
                simp only [List.length_cons] at this
                simp only [] at h'
                split at h'
                · simp at h'; subst h'; omega
                · have := (ih _ _ _).2.2 h'; omega
            · simp at h'
          · split at h'
            · have := pStr_le _ _ h'; omega
            · split at h'
              · have := pWord_le _ _ _ h'; omega
              · split at h'
                · have := pWord_le _ _ _ h'; omega
                · split at h'
                  · have := pWord_le _ _ _ h'; omega
                  · split at h'
                    · have := pNum_le _ _ h'; simpa using this
                    · simp at h'
    · simp only [pArr] at h
      cases hv : pVal k deep l with
      | none => simp [hv] at h
      | some q =>
        rw [hv] at h
        have h1 := (ih _ _ _).1 hv
        have h2 := skip_le q
        simp only [] at h
        cases hs : skip q with
        | nil => simp [hs] at h
        | cons c q' =>
          rw [hs] at h h2
          simp only [List.length_cons] at h2
          simp only [] at h
          split at h
          · simp at h; subst h; omega
          · split at h
            · have := (ih _ _ _).2.1 h; omega
            · simp at h
    · simp only [pObj] at h
      cases hs : skip l with
      | nil => simp [hs] at h
      | cons c l' =>
        rw [hs] at h hsk
        simp only [List.length_cons] at hsk
        simp only [] at h
        split at h
        · cases hp : pStr l' with
          | none => simp [hp] at h
          | some q =>
            rw [hp] at h
            have h1 := pStr_le _ _ hp
            have h2 := skip_le q
            simp only [] at h
            cases hs2 : skip q with
            | nil => simp [hs2] at h
            | cons d q' =>
              rw [hs2] at h h2
              simp only [List.length_cons] at h2
              simp only [] at h
              split at h
              · cases hv : pVal k deep q' with
                | none => simp [hv] at h
                | some t =>
                  rw [hv] at h
                  have h3 := (ih _ _ _).1 hv
                  have h4 := skip_le t
                  simp only [] at h
                  cases hs3 : skip t with
                  | nil => simp [hs3] at h
                  | cons e t' =>
                    rw [hs3] at h h4
                    simp only [List.length_cons] at h4
                    simp only [] at h
                    split at h
                    · simp at h; subst h; omega
                    · split at h
                      · have := (ih _ _ _).2.2 h; omega
                      · simp at h
              · simp at h
        · simp at h

/-- THE GRAMMAR IS WHAT THE MACHINE READS. -/
theorem acc_all (k : Nat) : ∀ (S : List Ps) (l : List UInt8),
    (2 * l.length + 2 ≤ k → acc (mk .bv S) l = aft S (pVal k S.length l)) ∧
    (2 * l.length + 3 ≤ k → acc (mk .bv (.arr :: S)) l = aft S (pArr k (S.length + 1) l)) ∧
    (2 * l.length + 3 ≤ k → acc (mk .bs (.key :: S)) l = aft S (pObj k (S.length + 1) l)) := by
  induction k with
  | zero => intro S l; exact ⟨fun h => by omega, fun h => by omega, fun h => by omega⟩
  | succ k ih =>
    intro S l
    have hsk := skip_le l
    refine ⟨fun hk => ?_, fun hk => ?_, fun hk => ?_⟩
    · rw [acc_bv_skip]
      simp only [pVal]
      cases hs : skip l with
      | nil => rfl
      | cons c l' =>
        rw [hs] at hsk
        simp only [List.length_cons] at hsk
        have hc : sp c.toNat = false := by
          have := skip_skip l
          rw [hs] at this
          simp only [skip] at this
          split at this
          · have h2 := skip_le l'; rw [this] at h2; simp at h2; omega
          · rename_i h; simpa using h
        rw [acc_bv_cons S c l' hc]
        simp only []
        split
        · split
          · rw [acc_bvoe, ((ih S l').2.1 (by omega))]
            cases skip l' with
            | nil => rfl
            | cons d r => simp only []; split <;> rfl
          · rfl
        · split
          · split
            · rw [acc_bsoe, ((ih S l').2.2 (by omega))]
              cases skip l' with
              | nil => rfl
              | cons d r => simp only []; split <;> rfl
            · rfl
          · split
            · exact acc_str S l'
            · split
              · exact acc_true S l'
              · split
                · exact acc_false S l'
                · split
                  · exact acc_null S l'
                  · by_cases hn : (c.toNat == 45 || dig c.toNat) = true
                    · rw [pNum_acc S c l' hn, if_pos hn]
                    · rw [if_neg hn]
                      simp at hn
                      have h48 : ¬ c.toNat = 48 := by intro h; rw [h] at hn; simp [dig] at hn
                      simp [hn, h48, aft]
    · rw [((ih (.arr :: S) l).1 (by omega))]
      simp only [pArr, List.length_cons]
      cases hv : pVal k (S.length + 1) l with
      | none => rfl
      | some r =>
        show acc (mk .ev (.arr :: S)) r = _
        rw [acc_ev_arr]
        have hr := (p_le k _ _ _).1 hv
        have := skip_le r
        dsimp only
        cases hs : skip r with
        | nil => rfl
        | cons c r' =>
          rw [hs] at this
          simp only [List.length_cons] at this
          simp only []
          split
          · rfl
          · split
            · rw [((ih S r').2.1 (by omega))]
            · rfl
    · rw [acc_bs]
      simp only [pObj]
      cases hs : skip l with
      | nil => rfl
      | cons c l' =>
        rw [hs] at hsk
        simp only [List.length_cons] at hsk
        simp only []
        split
        · rw [acc_str]
          cases hp : pStr l' with
          | none => rfl
          | some r =>
            have hr := pStr_le _ _ hp
            show acc (mk .ev (.key :: S)) r = _
            rw [acc_ev_key]
            have h2 := skip_le r
            dsimp only
            cases hs2 : skip r with
            | nil => rfl
            | cons d r' =>
              rw [hs2] at h2
              simp only [List.length_cons] at h2
              simp only []
              split
              · rw [((ih (.val :: S) r').1 (by omega))]
                simp only [List.length_cons]
                cases hv : pVal k (S.length + 1) r' with
                | none => rfl
                | some q =>
                  show acc (mk .ev (.val :: S)) q = _
                  rw [acc_ev_val]
                  have hq := (p_le k _ _ _).1 hv
                  have h3 := skip_le q
                  dsimp only
                  cases hs3 : skip q with
                  | nil => rfl
                  | cons e q' =>
                    rw [hs3] at h3
                    simp only [List.length_cons] at h3
                    simp only []
                    split
                    · rfl
                    · split
                      · rw [((ih S q').2.2 (by omega))]
                      · rfl
              · rfl
        · rfl


theorem valid_iff (l : List UInt8) (k : Nat) (hk : 2 * l.length + 2 ≤ k) : acc init l = match pVal k 0 l with | none => false | some r => (skip r).isEmpty := by
  have := (acc_all k [] l).1 hk
  rw [show init = mk .bv [] from rfl, this]
  simp only [List.length_nil]
  cases pVal k 0 l with
  | none => rfl
  | some r => exact acc_ev_nil r

end Go.Proofs.YtlmhpmbgalmpgaaGreatDoor.Js
