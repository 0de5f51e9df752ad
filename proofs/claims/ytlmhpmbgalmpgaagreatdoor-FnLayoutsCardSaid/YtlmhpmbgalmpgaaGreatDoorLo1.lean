/-
  laws.blanksOf; what FnLayouts asks of Compact, Indent and HTMLEscape.
-/
import Derived.Test.YtlmhpmbgalmpgaaGreatDoorIn4
import Derived.Test.YtlmhpmbgalmpgaaGreatDoorHt2
import Derived.Test.YtlmhpmbgalmpgaaGreatDoorDe1
import Derived.Test.YtlmhpmbgalmpgaaGreatDoorPl13
namespace Go.Proofs.YtlmhpmbgalmpgaaGreatDoor
open Go.RowKit

/-- Bytes as a string. -/
def sb (l : List UInt8) : ByteArray := ⟨l.toArray⟩
theorem sb_size (l : List UInt8) : (sb l).size = l.length := by simp [sb, ByteArray.size]
theorem sb_list (l : List UInt8) : (sb l).data.toList = l := by simp [sb]
theorem sb_of (s : ByteArray) : sb s.data.toList = s := by simp [sb]
theorem sb_add (a b : List UInt8) : sb a ++ sb b = sb (a ++ b) := by
  apply ByteArray.ext
  simp [sb]

theorem add_sb (X : World) (a b : List UInt8) (h : a.length + b.length ≤ 1000000000000000) : (Op.stringOp .add (sb a) (sb b)).run Tryz.prog X = .ok (.string (sb (a ++ b))) X := by
  rw [run_string_add_sum X _ _ (by rw [sb_size, sb_size]; omega), sb_add]

set_option maxRecDepth 100000 in
set_option maxHeartbeats 4000000 in
theorem blanksOf_any (m : Int) (h5 : m ≤ 5) (w : World) :
    Calls Tryz.prog 13 #[.int .i64 m] w (fun e w' => (∃ l, e = .returned (.string (sb l)) ∧ Js.Bl l ∧ l.length ≤ 5) ∧ Below w.heap.size w w') := by
  go_enter Tryz.func13, Tryz.ntmps13
  go_wp2_with fail
  go_loopg [3, 4] (m.toNat) (fun gk x n wr => ∃ (k : Int) (l : List UInt8), 0 ≤ k ∧ (k ≤ m ∨ k = 0) ∧ (gk : Int) + k = (m.toNat : Int) ∧ n = .int .i64 k ∧ x = .string (sb l) ∧ Js.Bl l ∧ l.length ≤ k.toNat ∧ Below w.heap.size w wr)
  case atStart => exact ⟨0, [], by omega, .inr rfl, by omega, rfl, rfl, Js.Bl.nil, by simp, Below.refl _ _⟩
  case round =>
    obtain ⟨k, l, hk0, hkm, hgk, rfl, rfl, hbl, hll, hbe⟩ := hrel
    have HBL := Lib.hid hbl
    have HBE := Lib.hid hbe
    clear hbl hbe
    by_cases hlt : k < m
    · have a1 : ∀ X, (Op.stringOp .add (sb l) ⟨#[32]⟩).run Tryz.prog X = .ok (.string (sb (l ++ [32]))) X := fun X => add_sb X l [32] (by simp; omega)
      have a2 : ∀ X, (Op.stringOp .add (sb l) ⟨#[9]⟩).run Tryz.prog X = .ok (.string (sb (l ++ [9]))) X := fun X => add_sb X l [9] (by simp; omega)
      have hcs : k = 0 ∨ k = 1 ∨ k = 2 ∨ k = 3 ∨ k = 4 := by omega
      rcases hcs with rfl | rfl | rfl | rfl | rfl
      all_goals
        go_wp2_with fail
        go_roundg (gk - 1)
        case rel => exact ⟨_, _, by omega, by omega, by omega, rfl, rfl, HBL.out.append (Js.Bl.cons (by decide) Js.Bl.nil), by rw [List.length_append, List.length_singleton]; omega, HBE.out.alloc HBE.out.size _⟩
        case measure => omega
    · go_wp2_with fail
      go_ret
      exact ⟨⟨l, rfl, HBL.out, by omega⟩, HBE.out⟩

namespace Js
theorem esc_len : ∀ (n : Nat) (l : List UInt8), l.length < n → (esc l).length ≤ 6 * l.length
  | 0, _, h => absurd h (Nat.not_lt_zero _)
  | n + 1, [], _ => by rw [esc_nil]; exact Nat.zero_le _
  | n + 1, c :: r, h => by
    simp only [List.length_cons] at h
    cases h1 : spec1 c with
    | true =>
      have := esc_len n r (by omega)
      rw [esc_spec h1, List.length_append, escOf_length, List.length_cons]
      omega
    | false =>
      cases h2 : isSep (c :: r) with
      | true =>
        obtain ⟨x, r', h3, _⟩ := isSep_iff.1 h2
        injection h3 with h4 h5
        subst h4
        subst h5
        simp only [List.length_cons] at h
        have := esc_len n r' (by omega)
        rw [esc_sep h1 h2, List.length_append]
        show 6 + (esc r').length ≤ _
        simp only [List.length_cons]
        omega
      | false =>
        have := esc_len n r (by omega)
        rw [esc_plain h1 h2, List.length_cons, List.length_cons]
        omega
end Js

/-- Compact, of whatever text: what comes of one that is accepted. -/
def CmpGen (x : ByteArray) (W : World) (e : Ending) (w' : World) : Prop :=
  Below W.heap.size W w' ∧ ∃ (o : ByteArray) (c n : Int) (ok : Bool), e = .returned (.tuple #[.string o, .agg #[.int .i64 c, .int .i64 n, .string ⟨#[]⟩, .string ⟨#[]⟩, .string ⟨#[]⟩, .string ⟨#[]⟩], .bool ok]) ∧
    (Js.acc Js.init x.data.toList = true → o = sb (Js.comp Js.init x.data.toList) ∧ ok = true)

theorem cmp_gen (x : ByteArray) (hx : x.size ≤ 100000000000) (W : World) : Calls Tryz.prog 7 #[.string x] W (CmpGen x W) := by
  refine (icompact_big x hx W).mono ?_
  rintro e w' ⟨hb, hy, hn⟩
  refine ⟨hb, ?_⟩
  cases ha : Js.acc Js.init x.data.toList with
  | true => exact ⟨_, 0, 0, true, hy ha, fun _ => ⟨rfl, rfl⟩⟩
  | false =>
    obtain ⟨v, ⟨n, hv⟩, he⟩ := hn ha
    subst hv
    exact ⟨_, 1, n, false, he, fun h => nomatch (h : false = true)⟩

/-- Indent, of a text that is accepted: too much, or its lines. -/
def IndGen (x p i : ByteArray) (W : World) (e : Ending) (w' : World) : Prop :=
  Below W.heap.size W w' ∧ ∃ (o : ByteArray) (ok bad : Bool), e = .returned (.tuple #[.string o, .agg #[.int .i64 0, .int .i64 0, .string ⟨#[]⟩, .string ⟨#[]⟩, .string ⟨#[]⟩, .string ⟨#[]⟩], .bool ok, .bool bad]) ∧ o.size ≤ 1000000000 ∧
    (bad = false → o = sb (Js.ind p.data.toList i.data.toList Js.init false 0 x.data.toList) ∧ ok = true)

theorem ind_gen (x p i : ByteArray) (hx : x.size ≤ 4000) (hp : p.size ≤ 20) (hi : i.size ≤ 20) (ha : Js.acc Js.init x.data.toList = true) (W : World) : Calls Tryz.prog 11 #[.string x, .string p, .string i] W (IndGen x p i W) := by
  refine (iindent_any x p i hx hp hi W).mono ?_
  rintro e w' ⟨hb, h | ⟨_, h⟩ | ⟨h, _⟩⟩
  · exact ⟨hb, _, false, true, h, Nat.zero_le _, fun h => nomatch (h : true = false)⟩
  · refine ⟨hb, _, true, false, h, ?_, fun _ => ⟨rfl, rfl⟩⟩
    have hlen := Js.ind_len (l := x.data.toList) (p := p.data.toList) (i := i.data.toList) (by simpa using hp) (by simpa using hi) (by simpa using hx) ha
    have hxz : x.data.toList.length = x.size := by simp
    show (sb _).size ≤ _
    rw [sb_size]
    omega
  · exact nomatch (ha.symm.trans h : true = false)

end Go.Proofs.YtlmhpmbgalmpgaaGreatDoor
