/-
  One token more of a text that is read as tokens.
-/
import Derived.Test.YtlmhpmbgalmpgaaGreatDoorPl12
namespace Go.Proofs.YtlmhpmbgalmpgaaGreatDoor.Js

theorem TS.cons {m : M} {c : UInt8} {r : List UInt8} {ts : List (List UInt8)} {z : List UInt8} (h : TS m (c :: r) ts z) (hsp : sp c.toNat = false) :
    ∃ u rest m1 m2 ts', r = u ++ rest ∧ ts = (c :: u) :: ts' ∧ Tok m c u m1 m2 ∧ TS m2 rest ts' z := by
  generalize hl : c :: r = l at h
  cases h with
  | done _ hz _ =>
    exfalso
    have := hz c (by rw [← hl]; exact List.mem_cons_self ..)
    rw [hsp] at this
    cases this
  | @tok _ m1 m2 b u rest _ c' ts' hb ht hr =>
    cases b with
    | nil =>
      rw [List.nil_append] at hl
      injection hl with h1 h2
      subst h1
      exact ⟨u, rest, m1, m2, ts', h2, rfl, ht, hr⟩
    | cons d b =>
      exfalso
      rw [List.cons_append] at hl
      injection hl with h1 _
      have := hb d (List.mem_cons_self ..)
      rw [← h1, hsp] at this
      cases this

theorem TS.nil {m : M} {ts : List (List UInt8)} {z : List UInt8} (h : TS m [] ts z) : ts = [] := by
  generalize hl : ([] : List UInt8) = l at h
  cases h with
  | done _ _ _ => rfl
  | @tok _ m1 m2 b u rest _ c' ts' hb ht hr => cases b <;> cases hl

/-- Blanks ahead struck. -/
theorem TS.skip {m : M} {l : List UInt8} {ts : List (List UInt8)} {z : List UInt8} (h : TS m l ts z) : ∃ z', TS m (Js.skip l) ts z' := by
  have hs : ∀ (b : List UInt8), Bl b → ∀ r, Js.skip (b ++ r) = Js.skip r := by
    intro b
    induction b with
    | nil => exact fun _ _ => rfl
    | cons d b ih =>
      intro hb r
      rw [List.cons_append, Js.skip, if_pos (hb d (List.mem_cons_self ..))]
      exact ih (fun c hc => hb c (List.mem_cons_of_mem _ hc)) r
  cases h with
  | done h1 h2 h3 =>
    have := hs l h2 []
    rw [List.append_nil] at this
    rw [this]
    exact ⟨[], .done h1 Bl.nil h3⟩
  | @tok _ m1 m2 b u rest _ c ts' hb ht hr =>
    refine ⟨z, ?_⟩
    rw [hs b hb, Js.skip, if_neg (by rw [ht.sp]; simp)]
    exact TS.tok (b := []) Bl.nil ht hr

theorem eat_same {S : List Ps} {m : M} : ∀ (u u' r r' : List UInt8), eat m u = some (mk .ev S) → eat m u' = some (mk .ev S) → u ++ r = u' ++ r' → u = u' := by
  have key : ∀ (u v : List UInt8), eat m u = some (mk .ev S) → eat m (u ++ v) = some (mk .ev S) → v = [] := fun u v h h' => by
    rw [eat_append u v m _ h] at h'
    exact ev_eat h'
  intro u u' r r' h h' e
  rcases List.append_eq_append_iff.1 e with ⟨v, h1, _⟩ | ⟨v, h1, _⟩
  · have := key u v h (by rw [← h1]; exact h')
    rw [h1, this, List.append_nil]
  · have := key u' v h' (by rw [← h1]; exact h)
    rw [h1, this, List.append_nil]

theorem w_all : ∀ (u : List UInt8), (∀ d ∈ u, dl d = false) → ∀ r, (r = [] ∨ ∃ c r', r = c :: r' ∧ dl c = true) → wTok (u ++ r) = u ∧ wEnd (u ++ r) = r
  | [], _, r, hr => by
    rcases hr with rfl | ⟨c, r', rfl, hd⟩
    · exact ⟨rfl, rfl⟩
    · exact ⟨wTok_dl hd _, wEnd_dl hd _⟩
  | c :: u, h, r, hr => by
    have hc := h c (List.mem_cons_self ..)
    obtain ⟨h1, h2⟩ := w_all u (fun d hd => h d (List.mem_cons_of_mem _ hd)) r hr
    rw [List.cons_append, wTok_cons hc, wEnd_cons hc, h1, h2]
    exact ⟨rfl, rfl⟩

/-- The token is the piece at the text's head. -/
theorem Tok.piece {m : M} {c : UInt8} {u : List UInt8} {m1 m2 : M} (h : Tok m c u m1 m2) {rest : List UInt8} {ts : List (List UInt8)} {z : List UInt8} (hr : TS m2 rest ts z) : Js.piece (c :: (u ++ rest)) = (c :: u, rest) := by
  have ha : acc m (c :: (u ++ rest)) = true := (TS.tok (b := []) Bl.nil h hr).acc
  cases h.kd with
  | one hc => exact piece_struc hc _
  | @str S _ hs he =>
    have hs' : step m (34 : UInt8).toNat = (Js.mk .str S, 1) := hs
    rw [acc_cons, hs', acc_str] at ha
    cases hp : pStr (u ++ rest) with
    | none => rw [hp] at ha; cases ha
    | some r' =>
      obtain ⟨u', hu, he'⟩ := eat_str S (u ++ rest) r' hp
      have e1 := eat_same u u' rest r' he he' hu
      subst e1
      have e2 : rest = r' := List.append_cancel_left hu
      subst e2
      simp only [Js.piece, beq_self_eq_true, if_true, hp]
      congr 1
      rw [List.length_append, show u.length + rest.length + 1 - rest.length = u.length + 1 by omega, List.take_succ_cons, List.take_left' rfl]
  | word hw hz hS _ hd hc _ he h34 =>
    have hall := word_all _ u _ hw he
    obtain ⟨h1, h2⟩ := w_all (c :: u) (fun d hd' => by
      rcases List.mem_cons.1 hd' with rfl | hd'
      · exact hd
      · exact (hall d hd').1) rest (hr.head hS)
    rw [List.cons_append] at h1 h2
    simp only [Js.piece, h34, hc]
    rw [h1, h2]
    rfl

end Go.Proofs.YtlmhpmbgalmpgaaGreatDoor.Js
