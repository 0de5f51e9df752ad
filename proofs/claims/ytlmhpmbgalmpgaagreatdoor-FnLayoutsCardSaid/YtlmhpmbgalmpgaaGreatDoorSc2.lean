/-
  The scanner in memory as the plain machine; what one byte does to it.
-/
import Derived.Test.YtlmhpmbgalmpgaaGreatDoorSc1
import Derived.Test.YtlmhpmbgalmpgaaGreatDoorPl2
import Derived.Maps.AppendAt
namespace Go.Proofs.YtlmhpmbgalmpgaaGreatDoor
open Go.RowKit

/-- The function of a state. -/
def fnOf : Js.St → Nat
  | .bvoe => 68
  | .bv => 61
  | .bsoe => 66
  | .bs => 80
  | .ev => 79
  | .et => 94
  | .str => 69
  | .esc => 81
  | .u0 => 96
  | .u1 => 105
  | .u2 => 108
  | .u3 => 109
  | .neg => 70
  | .n1 => 75
  | .n0 => 71
  | .dot => 82
  | .dot0 => 97
  | .e => 83
  | .esign => 98
  | .e0 => 106
  | .t => 72
  | .tr => 84
  | .tru => 99
  | .f => 73
  | .fa => 85
  | .fal => 100
  | .fals => 107
  | .n => 74
  | .nu => 86
  | .nul => 101
  | .err => 87

def fv (st : Js.St) : Value := .func (.func (fnOf st)) #[] #[]

def psI : Js.Ps → Int | .key => 0 | .val => 1 | .arr => 2
def stkV (S : List Js.Ps) : List Value := S.reverse.map fun p => .int .i64 (psI p)

theorem stkV_length (S : List Js.Ps) : (stkV S).length = S.length := by simp [stkV]
theorem stkV_cons (p : Js.Ps) (S : List Js.Ps) : stkV (p :: S) = stkV S ++ [.int .i64 (psI p)] := by simp [stkV]

/-- The error that a scanner holds. -/
def ErV (w : World) (g : Nat) (ev : Value) : Prop := ∃ p, ev = .iface 68 (.pointer (some ⟨p, 0, none⟩)) ∧ ErB w p ∧ g < p

/-- The scanner at block g is the machine m; its parts. -/
structure ScP (w : World) (g : Nat) (m : Js.M) (pv ev : Value) (b : Int) : Prop where
  blk : ScB w g (fv m.st) (.bool m.top) pv ev (.int .i64 b)
  own : w.ownsRow (g + 1) 3 1 pv m.stk.length (stkV m.stk)
  err : if m.bad then ErV w g ev else ev = .nilIface
  len : m.bad = false → m.stk.length ≤ 10000

def Sc (w : World) (g : Nat) (m : Js.M) : Prop := ∃ pv ev b, ScP w g m pv ev b

/-- The block of the scanner's stack. -/
def rowOf (w : World) (g : Nat) : Option Nat := (w.cell? ⟨g, 2, none⟩).bind Value.ownBlock

theorem rowOf_eq {w : World} {g : Nat} {fv tv pv ev bv : Value} (h : ScB w g fv tv pv ev bv) : rowOf w g = pv.ownBlock := by
  simp [rowOf, h.cells.2.2.1]

/-- What a step leaves as it was. -/
structure Kp (g : Nat) (w w' : World) : Prop where
  os : w'.os = w.os
  tape : w'.tape = w.tape
  output : w'.output = w.output
  size : w.heap.size ≤ w'.heap.size
  block : ∀ k, k < w.heap.size → k ≠ g → rowOf w g ≠ some k → w'.heap[k]? = w.heap[k]?
  row : rowOf w' g = rowOf w g ∨ ∀ k, rowOf w' g = some k → w.heap.size ≤ k

theorem Kp.refl (g : Nat) (w : World) : Kp g w w := ⟨rfl, rfl, rfl, Nat.le_refl _, fun _ _ _ _ => rfl, .inl rfl⟩

theorem Kp.trans {g : Nat} {a b c : World} (h : Kp g a b) (k : Kp g b c) : Kp g a c := by
  refine ⟨k.os.trans h.os, k.tape.trans h.tape, k.output.trans h.output, Nat.le_trans h.size k.size, fun i hi hg hr => ?_, ?_⟩
  · refine (k.block i (Nat.lt_of_lt_of_le hi h.size) hg ?_).trans (h.block i hi hg hr)
    rcases h.row with e | e
    · rw [e]; exact hr
    · intro he; have := e i he; omega
  · rcases k.row with e | e
    · rcases h.row with e' | e'
      · exact .inl (e.trans e')
      · exact .inr fun i hi => e' i (e ▸ hi)
    · exact .inr fun i hi => Nat.le_trans h.size (e i hi)

/-- What a step of the scanner comes to. -/
def After (g : Nat) (w : World) (r : Js.M × Nat) (e : Ending) (w' : World) : Prop :=
  e = .returned (.int .i64 (r.2 : Int)) ∧ Sc w' g r.1 ∧ Kp g w w'

theorem after_stay {w : World} {g : Nat} {m : Js.M} (h : Sc w g m) (n : Nat) (k : Int) (hk : k = n) : After g w (m, n) (.returned (.int .i64 k)) w := ⟨by rw [hk], h, Kp.refl _ _⟩

theorem kp_set {w : World} {g i : Nat} (hi : i ≠ 2) (v : Value) : Kp g w (w.setCell ⟨g, i, none⟩ v) := by
  refine ⟨rfl, rfl, rfl, by simp [World.setCell], fun k _ hg _ => Below.heap_setCell _ _ _ _ hg, .inl ?_⟩
  have : (w.setCell ⟨g, i, none⟩ v).cell? ⟨g, 2, none⟩ = w.cell? ⟨g, 2, none⟩ := by
    simp only [World.cell?, World.setCell, Array.getElem?_modify]
    cases w.heap[g]? with
    | none => simp
    | some o =>
      cases o <;> simp [hi]
  simp [rowOf, this]

theorem ErV.kept {w w' : World} {g : Nat} {ev : Value} (h : ErV w g ev) (hk : ∀ p, g < p → ErB w p → w'.heap[p]? = w.heap[p]?) : ErV w' g ev := by
  obtain ⟨p, he, hp, hg⟩ := h
  refine ⟨p, he, ?_, hg⟩
  have := hk p hg hp
  obtain ⟨s, n, hp⟩ := hp
  exact ⟨s, n, this.trans hp⟩

theorem own_set {w : World} {g i : Nat} {v : Value} {n : Nat} {xs : List Value} (h : w.ownsRow (g + 1) 3 1 v n xs) (u : Value) : (w.setCell ⟨g, i, none⟩ u).ownsRow (g + 1) 3 1 v n xs :=
  ownsRow_setCell_below h (by show g < g + 1; omega) u

theorem ScP.set0 {w : World} {g : Nat} {m : Js.M} {pv ev : Value} {b : Int} (h : ScP w g m pv ev b) (st : Js.St) : ScP (w.setCell ⟨g, 0, none⟩ (fv st)) g { m with st := st } pv ev b := by
  refine ⟨h.blk.set0 _, own_set h.own _, ?_, h.len⟩
  have := h.err
  dsimp only
  split at this
  · rename_i hb; rw [if_pos hb]; exact this.kept fun p hp _ => Below.heap_setCell _ _ _ _ (by show p ≠ g; omega)
  · rename_i hb; rw [if_neg hb]; exact this

theorem ScP.set1 {w : World} {g : Nat} {m : Js.M} {pv ev : Value} {b : Int} (h : ScP w g m pv ev b) (t : Bool) : ScP (w.setCell ⟨g, 1, none⟩ (.bool t)) g { m with top := t } pv ev b := by
  refine ⟨h.blk.set1 _, own_set h.own _, ?_, h.len⟩
  have := h.err
  dsimp only
  split at this
  · rename_i hb; rw [if_pos hb]; exact this.kept fun p hp _ => Below.heap_setCell _ _ _ _ (by show p ≠ g; omega)
  · rename_i hb; rw [if_neg hb]; exact this

theorem ScP.set4 {w : World} {g : Nat} {m : Js.M} {pv ev : Value} {b : Int} (h : ScP w g m pv ev b) (n : Int) : ScP (w.setCell ⟨g, 4, none⟩ (.int .i64 n)) g m pv ev n := by
  refine ⟨h.blk.set4 _, own_set h.own _, ?_, h.len⟩
  have := h.err
  split at this
  · rename_i hb; rw [if_pos hb]; exact this.kept fun p hp _ => Below.heap_setCell _ _ _ _ (by show p ≠ g; omega)
  · rename_i hb; rw [if_neg hb]; exact this

theorem after_to {w : World} {g : Nat} {m : Js.M} (h : Sc w g m) (st : Js.St) (n : Nat) (k : Int) (hk : k = n) (v : Value) (hv : v = fv st) : After g w (Js.to m st n) (.returned (.int .i64 k)) (w.setCell ⟨g, 0, none⟩ v) := by
  subst hv hk
  obtain ⟨pv, ev, b, hp⟩ := h
  exact ⟨rfl, ⟨pv, ev, b, hp.set0 st⟩, kp_set (by omega) _⟩

theorem fail_of {w w' : World} {g : Nat} {m : Js.M} {fw pv ev : Value} {b : Int} (h : ScB w g fw (.bool m.top) pv ev (.int .i64 b)) (ho : w.ownsRow (g + 1) 3 1 pv m.stk.length (stkV m.stk)) (he : Erred g (.bool m.top) pv (.int .i64 b) w w') : After g w (Js.fail m) (.returned (.int .i64 11)) w' := by
  obtain ⟨p, hb, hp, hw, hg⟩ := he
  have hlt := ho.lt
  refine ⟨rfl, ⟨pv, _, b, ⟨hb, ho.kept hg ?_, ?_, fun h => by cases h⟩⟩, ⟨hg.os, hg.tape, hg.output, hg.size, fun k hk hne _ => hg.block k hk (fun e => hne (by simpa using e)), .inl ?_⟩⟩
  · cases hx : pv.ownBlock with
    | none => exact .inl rfl
    | some k => exact .inr (by intro e; have := hlt k hx; simp at e; omega)
  · show ErV w' g _
    exact ⟨p, rfl, hp, by have := h.lt; omega⟩
  · rw [rowOf_eq hb, rowOf_eq h]

theorem after_fail {w w' : World} {g : Nat} {m : Js.M} {pv ev : Value} {b : Int} (h : ScP w g m pv ev b) (he : Erred g (.bool m.top) pv (.int .i64 b) w w') : After g w (Js.fail m) (.returned (.int .i64 11)) w' :=
  fail_of h.blk h.own he

theorem tn {c : Int} (h0 : 0 ≤ c) (k : Nat) : (c.toNat == k) = (c == (k : Int)) := by
  by_cases h : c = k
  · subst h; rw [Int.toNat_natCast]; simp
  · have h' : ¬ c.toNat = k := by omega
    rw [beq_eq_false_iff_ne.2 h', beq_eq_false_iff_ne.2 h]

theorem spI_sp (c : Int) (h0 : 0 ≤ c) : Js.sp c.toNat = spI c := by
  unfold spI Js.sp
  simp only [tn h0]
  rfl

def dgI (c : Int) : Bool := decide (48 ≤ c) && decide (c ≤ 57)
def hxI (c : Int) : Bool := dgI c || (decide (97 ≤ c) && decide (c ≤ 102)) || (decide (65 ≤ c) && decide (c ≤ 70))

theorem dgI_dig (c : Int) (h0 : 0 ≤ c) : Js.dig c.toNat = dgI c := by
  unfold dgI Js.dig
  rw [decide_eq_decide.2 (show 48 ≤ c.toNat ↔ 48 ≤ c by omega), decide_eq_decide.2 (show c.toNat ≤ 57 ↔ c ≤ 57 by omega)]

theorem hxI_hex (c : Int) (h0 : 0 ≤ c) : Js.hex c.toNat = hxI c := by
  unfold hxI dgI Js.hex
  rw [decide_eq_decide.2 (show 48 ≤ c.toNat ↔ 48 ≤ c by omega), decide_eq_decide.2 (show c.toNat ≤ 57 ↔ c ≤ 57 by omega),
    decide_eq_decide.2 (show 97 ≤ c.toNat ↔ 97 ≤ c by omega), decide_eq_decide.2 (show c.toNat ≤ 102 ↔ c ≤ 102 by omega),
    decide_eq_decide.2 (show 65 ≤ c.toNat ↔ 65 ≤ c by omega), decide_eq_decide.2 (show c.toNat ≤ 70 ↔ c ≤ 70 by omega)]

theorem dgI_cases (c : Int) : dgI c = true ∧ 48 ≤ c ∧ c ≤ 57 ∨ dgI c = false ∧ c < 48 ∨ dgI c = false ∧ 57 < c := by
  unfold dgI
  by_cases h1 : 48 ≤ c
  · by_cases h2 : c ≤ 57
    · exact .inl ⟨by simp [h1, h2], h1, h2⟩
    · exact .inr (.inr ⟨by simp [h2], by omega⟩)
  · exact .inr (.inl ⟨by simp [h1], by omega⟩)

theorem hxI_cases (c : Int) : hxI c = true ∧ 48 ≤ c ∧ c ≤ 57 ∨ hxI c = true ∧ 97 ≤ c ∧ c ≤ 102 ∨ hxI c = true ∧ 65 ≤ c ∧ c ≤ 70 ∨
    hxI c = false ∧ c < 48 ∧ c < 97 ∨ hxI c = false ∧ 57 < c ∧ c < 65 ∨ hxI c = false ∧ 70 < c ∧ c < 97 ∨ hxI c = false ∧ 102 < c ∧ 102 < c := by
  unfold hxI dgI
  by_cases h1 : 48 ≤ c ∧ c ≤ 57
  · exact .inl ⟨by simp [h1], h1⟩
  by_cases h2 : 97 ≤ c ∧ c ≤ 102
  · exact .inr (.inl ⟨by simp [h2], h2⟩)
  by_cases h3 : 65 ≤ c ∧ c ≤ 70
  · exact .inr (.inr (.inl ⟨by simp [h3], h3⟩))
  have hf : (decide (48 ≤ c) && decide (c ≤ 57) || (decide (97 ≤ c) && decide (c ≤ 102)) || (decide (65 ≤ c) && decide (c ≤ 70))) = false := by
    simp only [Bool.or_eq_false_iff, Bool.and_eq_false_iff, decide_eq_false_iff_not]
    refine ⟨⟨?_, ?_⟩, ?_⟩ <;> omega
  have h4 : (c < 48 ∧ c < 97) ∨ (57 < c ∧ c < 65) ∨ (70 < c ∧ c < 97) ∨ (102 < c ∧ 102 < c) := by omega
  rcases h4 with h | h | h | h
  · exact .inr (.inr (.inr (.inl ⟨hf, h⟩)))
  · exact .inr (.inr (.inr (.inr (.inl ⟨hf, h⟩))))
  · exact .inr (.inr (.inr (.inr (.inr (.inl ⟨hf, h⟩)))))
  · exact .inr (.inr (.inr (.inr (.inr (.inr ⟨hf, h⟩)))))

theorem After.from {g : Nat} {w w1 : World} {r : Js.M × Nat} {e : Ending} {w' : World} (k : Kp g w w1) (h : After g w1 r e w') : After g w r e w' := ⟨h.1, h.2.1, k.trans h.2.2⟩

end Go.Proofs.YtlmhpmbgalmpgaaGreatDoor
