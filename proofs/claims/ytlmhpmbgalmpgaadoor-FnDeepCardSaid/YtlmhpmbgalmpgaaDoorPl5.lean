/-
  How deep the machine goes.
-/
import Derived.Test.YtlmhpmbgalmpgaaDoorPl2
namespace Go.Proofs.YtlmhpmbgalmpgaaDoor.Js

/-- So many times the same bytes. -/
def rep : Nat → List UInt8 → List UInt8
  | 0, _ => []
  | n + 1, u => rep n u ++ u

theorem rep_length (n : Nat) (u : List UInt8) : (rep n u).length = n * u.length := by
  induction n with
  | zero => simp [rep]
  | succ n ih => rw [rep, List.length_append, ih, Nat.succ_mul]

theorem rep_comm (n : Nat) (u : List UInt8) : u ++ rep n u = rep n u ++ u := by
  induction n with
  | zero => simp [rep]
  | succ n ih => rw [rep, ← List.append_assoc, ih]

theorem rep_succ' (n : Nat) (u : List UInt8) : rep (n + 1) u = u ++ rep n u := by rw [rep, rep_comm]

def opn (object : Bool) : List UInt8 := if object then [123, 34, 97, 34, 58] else [91]
def cls (object : Bool) : List UInt8 := if object then [125] else [93]
def dps (object : Bool) : Ps := if object then .val else .arr
def dst (object : Bool) : St := if object then .bv else .bvoe

theorem one_open (object : Bool) (st : St) (hs : st = .bv ∨ st = dst object) (S : List Ps) (h : S.length < 10000) : run ⟨st, S, false, false⟩ (opn object) = ⟨dst object, dps object :: S, false, false⟩ := by
  cases object
  · have h1 : st = .bv ∨ st = .bvoe := hs
    rcases h1 with rfl | rfl <;> simp [run, opn, step, stBv, sp, push, h, dst, dps]
  · have h1 : st = .bv := by rcases hs with h | h <;> exact h
    subst h1
    simp [run, opn, step, stBv, stBs, stEv, sp, push, h, to, dst, dps]

theorem open_full (object : Bool) (st : St) (hs : st = .bv ∨ st = dst object) (S : List Ps) (h : ¬ S.length < 10000) (l : List UInt8) : acc ⟨st, S, false, false⟩ (opn object ++ l) = false := by
  have key : ∀ c l', (step ⟨st, S, false, false⟩ c).1.bad = true → (step ⟨st, S, false, false⟩ c).1.st = .err → ∀ d : UInt8, d.toNat = c → acc ⟨st, S, false, false⟩ (d :: l') = false := by
    intro c l' hb he d hd
    unfold acc
    rw [run_cons, hd, run_bad l' _ hb he]
    unfold eof
    rw [hb]
    rfl
  cases object
  · have h1 : st = .bv ∨ st = .bvoe := hs
    rcases h1 with rfl | rfl <;> exact key 91 l (by simp [step, stBv, sp, push, h, fail]) (by simp [step, stBv, sp, push, h, fail]) 91 rfl
  · have h1 : st = .bv := by rcases hs with h | h <;> exact h
    subst h1
    exact key 123 _ (by simp [step, stBv, sp, push, h, fail]) (by simp [step, stBv, sp, push, h, fail]) 123 rfl

theorem opens (object : Bool) : ∀ (n : Nat) (st : St) (S : List Ps), (st = .bv ∨ st = dst object) → 0 < n → n + S.length ≤ 10000 →
    run ⟨st, S, false, false⟩ (rep n (opn object)) = ⟨dst object, List.replicate n (dps object) ++ S, false, false⟩
  | 1, st, S, hs, _, hn => by
    rw [rep_succ', rep, List.append_nil, one_open object st hs S (by omega)]
    rfl
  | n + 2, st, S, hs, _, hn => by
    rw [rep_succ', run_append, one_open object st hs S (by omega), opens object (n + 1) (dst object) (dps object :: S) (.inr rfl) (by omega) (by simp only [List.length_cons]; omega)]
    congr 1
    rw [List.replicate_succ' (n := n + 1)]
    simp

theorem opens_over (object : Bool) (l : List UInt8) : ∀ (n : Nat) (st : St) (S : List Ps), (st = .bv ∨ st = dst object) → 10000 < n + S.length → S.length ≤ 10000 → acc ⟨st, S, false, false⟩ (rep n (opn object) ++ l) = false
  | 0, _, _, _, h1, h2 => by omega
  | n + 1, st, S, hs, h1, h2 => by
    rw [rep_succ', List.append_assoc]
    by_cases h : S.length < 10000
    · unfold acc
      rw [run_append, one_open object st hs S h]
      exact opens_over object l n (dst object) (dps object :: S) (.inr rfl) (by simp only [List.length_cons]; omega) (by simp only [List.length_cons]; omega)
    · exact open_full object st hs S h _

theorem digit_one (object : Bool) (S : List Ps) : run ⟨dst object, S, false, false⟩ [49] = ⟨.n1, S, false, false⟩ := by
  cases object <;> simp [run, step, stBv, sp, dst, dig, to]

theorem one_close (object : Bool) (st : St) (hs : st = .n1 ∨ st = .ev) (p : Ps) (S : List Ps) : run ⟨st, dps object :: p :: S, false, false⟩ (cls object) = ⟨.ev, p :: S, false, false⟩ := by
  cases object <;> rcases hs with rfl | rfl <;> simp [run, cls, step, stN0, stEv, dig, sp, dps, pop]

theorem last_close (object : Bool) (st : St) (hs : st = .n1 ∨ st = .ev) : run ⟨st, [dps object], false, false⟩ (cls object) = ⟨.et, [], true, false⟩ := by
  cases object <;> rcases hs with rfl | rfl <;> simp [run, cls, step, stN0, stEv, dig, sp, dps, pop]

theorem closes (object : Bool) : ∀ (n : Nat) (st : St), (st = .n1 ∨ st = .ev) → run ⟨st, List.replicate (n + 1) (dps object), false, false⟩ (rep (n + 1) (cls object)) = ⟨.et, [], true, false⟩
  | 0, st, hs => by
    rw [rep_succ', rep, List.append_nil]
    exact last_close object st hs
  | n + 1, st, hs => by
    rw [rep_succ', run_append, List.replicate_succ, List.replicate_succ, one_close object st hs, ← List.replicate_succ]
    exact closes object n .ev (.inr rfl)

/-- Just the texts that are not too deep are accepted. -/
theorem deep_acc (object : Bool) (n : Nat) (hn : 0 < n) : acc init (rep n (opn object) ++ [49] ++ rep n (cls object)) = decide (n ≤ 10000) := by
  by_cases h : n ≤ 10000
  · rw [decide_eq_true h]
    obtain ⟨m, rfl⟩ : ∃ m, n = m + 1 := ⟨n - 1, by omega⟩
    unfold acc
    rw [run_append, run_append]
    have h1 := opens object (m + 1) .bv [] (.inl rfl) hn (by simpa using h)
    rw [List.append_nil] at h1
    rw [show init = ⟨.bv, [], false, false⟩ from rfl, h1, digit_one, closes object m .n1 (.inl rfl)]
    rfl
  · rw [decide_eq_false h, List.append_assoc]
    exact opens_over object _ n .bv [] (.inl rfl) (by simpa using h) (by simp)

end Go.Proofs.YtlmhpmbgalmpgaaDoor.Js
