/-
  The scanner and a slice that is appended to, side by side.
-/
import Derived.Test.YtlmhpmbgalmpgaaGreatDoorBf4
import Derived.Test.YtlmhpmbgalmpgaaGreatDoorPl4
namespace Go.Proofs.YtlmhpmbgalmpgaaGreatDoor
open Go.RowKit

/-- A block of another kind than bytes. -/
theorem own_kind {w : World} {B n k : Nat} {v : Value} {xs : List Value} (h : w.ownsRow B 5 1 v n xs) (hk : v.ownBlock = some k) : ∃ cs, w.heap[k]? = some (.cells cs 5 (0, 0)) := by
  rcases h.2 with ⟨hv, _⟩ | ⟨g, cap, cur, hv, _, hh, _⟩
  · rw [hv] at hk; cases hk
  · rw [hv] at hk
    have : g = k := by simpa [Value.ownBlock] using hk
    rw [← this]
    exact ⟨cur, hh⟩

theorem rowOf_kind {w : World} {g : Nat} {m : Js.M} (h : Sc w g m) (k : Nat) (hk : rowOf w g = some k) : ∃ cs, w.heap[k]? = some (.cells cs 3 (0, 0)) := by
  obtain ⟨pv, ev, b, hp⟩ := h
  rw [rowOf_eq hp.blk] at hk
  rcases hp.own.2 with ⟨hv, _⟩ | ⟨q, cap, cur, hv, _, hh, _⟩
  · rw [hv] at hk; cases hk
  · rw [hv] at hk
    have : q = k := by simpa [Value.ownBlock] using hk
    rw [← this]
    exact ⟨cur, hh⟩

/-- A step of the scanner leaves the slice alone. -/
theorem Ap.step {B g : Nat} {d : Option Nat} {W w w' : World} {v : Value} {ks : List UInt8} {m : Js.M} (h : Ap 5 B d W w v ks) (hs : Sc w g m) (hk : Kp g w w') (hg : W.heap.size ≤ g) : Ap 5 B d W w' v ks := by
  refine h.carry hk.os hk.tape hk.output hk.size fun k hlt hc => hk.block k hlt ?_ ?_
  · rintro rfl
    rcases hc with h1 | h1
    · omega
    · obtain ⟨cs, h2⟩ := own_kind h.own h1
      obtain ⟨pv, ev, b, hp⟩ := hs
      have h3 : w.heap[k]? = _ := hp.blk
      rw [h3] at h2
      cases h2
  · intro hr
    rcases hc with h1 | h1
    · have := (hs.row k hr).1; omega
    · obtain ⟨cs, h2⟩ := own_kind h.own h1
      obtain ⟨cs', h3⟩ := rowOf_kind hs k hr
      rw [h3] at h2
      cases h2

/-- An append to the slice leaves the scanner alone. -/
theorem Sc.apart {B g n : Nat} {w w' : World} {v : Value} {xs : List Value} {m : Js.M} (hs : Sc w g m) (h : w.ownsRow B 5 1 v n xs) (hg : w.grownBy w' v.ownBlock) : Sc w' g m := by
  obtain ⟨pv, ev, b, hp⟩ := hs
  have hb : w'.heap[g]? = w.heap[g]? := hg.block g hp.blk.lt fun e => by
    obtain ⟨cs, h2⟩ := own_kind h e.symm
    have h3 : w.heap[g]? = _ := hp.blk
    rw [h3] at h2
    cases h2
  refine ⟨pv, ev, b, hb.trans hp.blk, ownsRow_of_block hp.own fun k hk => hg.block k (hp.own.lt k hk).2 fun e => ?_, ?_, hp.len⟩
  · obtain ⟨cs, h2⟩ := own_kind h e.symm
    obtain ⟨cs', h3⟩ := rowOf_kind ⟨pv, ev, b, hp⟩ k (by rw [rowOf_eq hp.blk]; exact hk)
    rw [h3] at h2
    cases h2
  · have he := hp.err
    split at he
    · rename_i hbad
      rw [if_pos hbad]
      refine he.kept fun p _ hE => ?_
      obtain ⟨s, n, hE⟩ := hE
      refine hg.block p (Lib.lt_of_heap hE) fun e => ?_
      obtain ⟨cs, h2⟩ := own_kind h e.symm
      rw [hE] at h2
      cases h2
    · rename_i hbad
      rw [if_neg hbad]
      exact he

/-- The slice cut back to nothing. -/
theorem Ap.cut {e : TypeId} {B c : Nat} {d : Option Nat} {W w : World} {ao : Option Addr} {ks : List UInt8} (h : Ap e B d W w (.slice ao ks.length c) ks) : Ap e B d W w (.slice ao 0 c) [] := by
  have hb : ∀ n, (Value.slice ao n c).ownBlock = (Value.slice ao ks.length c).ownBlock := fun n => by cases ao <;> rfl
  refine ⟨⟨rfl, ?_⟩, fun k hk => h.lies k ((hb _).symm.trans hk), h.base, h.os, h.tape, h.output, h.size, h.block, h.shape⟩
  rcases h.own.2 with ⟨hv, h0⟩ | ⟨g, cap, cur, hv, h1, h2, h3, h4, h5, h6⟩
  · injection hv with e1 _ e3
    subst e1; subst e3
    exact .inl ⟨rfl, rfl⟩
  · injection hv with e1 _ e3
    subst e1; subst e3
    exact .inr ⟨g, c, cur, rfl, h1, h2, Nat.zero_le _, h4, h5, by simp [Lib.byteCells]⟩

end Go.Proofs.YtlmhpmbgalmpgaaGreatDoor
