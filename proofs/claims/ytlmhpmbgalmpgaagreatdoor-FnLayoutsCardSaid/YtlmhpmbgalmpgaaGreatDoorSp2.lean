/-
  The reference's readers of strings, numbers and words.
-/
import Derived.Test.YtlmhpmbgalmpgaaGreatDoorSp1
namespace Go.Proofs.YtlmhpmbgalmpgaaGreatDoor
open Go.RowKit

theorem beq_or' (a b : Int) : (a == b) = true ∨ (a == b) = false := by cases (a == b) <;> simp

/-- So many hexadecimal digits. -/
def hexN : Nat → List UInt8 → Option (List UInt8)
  | 0, l => some l
  | _ + 1, [] => none
  | n + 1, c :: l => if Js.hex c.toNat then hexN n l else none

/-- What follows behind a backslash: the place of its last byte. -/
def escOf : List UInt8 → Option (List UInt8)
  | [] => none
  | d :: l =>
    if (d.toNat : Int) == 98 || (d.toNat : Int) == 102 || (d.toNat : Int) == 110 || (d.toNat : Int) == 114 || (d.toNat : Int) == 116 || (d.toNat : Int) == 92 || (d.toNat : Int) == 47 || (d.toNat : Int) == 34 then some l
    else if (d.toNat : Int) == 117 then hexN 4 l
    else none

theorem hexN4 (l : List UInt8) : hexN 4 l = match l with
    | a :: b :: c :: e :: r => if Js.hex a.toNat && Js.hex b.toNat && Js.hex c.toNat && Js.hex e.toNat then some r else none
    | _ => none := by
  rcases l with _ | ⟨a, _ | ⟨b, _ | ⟨c, _ | ⟨d, r⟩⟩⟩⟩
  · rfl
  · simp [hexN]
  · simp [hexN]
  · simp [hexN]
  · simp only [hexN]
    cases Js.hex a.toNat <;> cases Js.hex b.toNat <;> cases Js.hex c.toNat <;> cases Js.hex d.toNat <;> rfl

theorem bn (d : UInt8) (k : Nat) : (d.toNat == k) = ((d.toNat : Int) == (k : Int)) := by
  have := tn (c := (d.toNat : Int)) (by omega) k
  rw [Int.toNat_natCast] at this
  exact this

/-- A string's reader, by what stands behind a backslash. -/
theorem pStr_cons (c : UInt8) (l : List UInt8) : Js.pStr (c :: l) =
    if (c.toNat : Int) == 34 then some l else if (c.toNat : Int) < 32 then none else if (c.toNat : Int) == 92 then (escOf l).bind Js.pStr else Js.pStr l := by
  rw [Js.pStr.eq_def]
  simp only [bn]
  by_cases h1 : ((c.toNat : Int) == 34) = true
  · rw [if_pos h1]; exact if_pos h1
  · rw [if_neg h1]
    refine (if_neg h1).trans ?_
    by_cases h2 : (c.toNat : Int) < 32
    · rw [if_pos h2, if_pos (by omega)]
    · rw [if_neg h2, if_neg (by omega)]
      by_cases h3 : ((c.toNat : Int) == 92) = true
      · rw [if_pos h3]
        refine (if_pos h3).trans ?_
        cases l with
        | nil => rfl
        | cons d l' =>
          simp only [escOf]
          by_cases h4 : ((d.toNat : Int) == 98 || (d.toNat : Int) == 102 || (d.toNat : Int) == 110 || (d.toNat : Int) == 114 || (d.toNat : Int) == 116 || (d.toNat : Int) == 92 || (d.toNat : Int) == 47 || (d.toNat : Int) == 34) = true
          · rw [if_pos h4]
            exact if_pos h4
          · rw [if_neg h4]
            refine (if_neg h4).trans ?_
            by_cases h5 : ((d.toNat : Int) == 117) = true
            · rw [if_pos h5]
              refine (if_pos h5).trans ?_
              rw [hexN4]
              rcases l' with _ | ⟨a, _ | ⟨b, _ | ⟨c, _ | ⟨d, r⟩⟩⟩⟩ <;> try rfl
              dsimp only
              split <;> rfl
            · rw [if_neg h5]
              exact if_neg h5
      · rw [if_neg h3]; exact if_neg h3

/-- An escape: its last byte's place. -/
def EscOk (s : ByteArray) (g : Nat) (w : World) (rest : List UInt8) (e : Ending) (w' : World) : Prop :=
  ∃ n : Nat, e = .returned (.int .i64 (n : Int)) ∧ n < s.size ∧ At s (n + 1) = rest ∧ Rs w' g s (-1) ∧ Only g w w'
def EscRd (s : ByteArray) (g : Nat) (w : World) (o : Option (List UInt8)) (e : Ending) (w' : World) : Prop :=
  match o with
  | some rest => EscOk s g w rest e w'
  | none => No s g w e w'

set_option maxRecDepth 100000 in
set_option maxHeartbeats 1000000 in
theorem escape_end (s : ByteArray) (_hs : s.size ≤ 1000000) (g : Nat) (a : Int) (k : Nat) (ha : a = (k : Int)) (hk : k = s.size) (w : World) (h : Rs w g s (-1)) :
    Calls Tryz.prog 51 #[.pointer (some ⟨g, 0, none⟩), .int .i64 a] w (No s g w) := by
  subst ha hk
  obtain ⟨c0, c1, f0, f1⟩ := h.cells
  have HR := Lib.hid h
  clear h c1 f0 f1
  go_enter Tryz.func51, Tryz.ntmps51
  go_wp2_with (go_at_call 21; refine (fail_any s g _ s.size rfl (Nat.le_refl _) _ HR.out).mono ?_; rintro e w' ⟨n, b, rfl, hn, hr, ho⟩)
  go_ret
  exact ⟨n, b, rfl, hn, hr, ho⟩


set_option maxRecDepth 100000 in
set_option maxHeartbeats 1000000 in
theorem escape_98 (s : ByteArray) (_hs : s.size ≤ 1000000) (g : Nat) (k : Nat) (hk : k < s.size) (h98 : ((s[k].toNat : Int) == 98) = true) (w : World) (h : Rs w g s (-1)) :
    Calls Tryz.prog 51 #[.pointer (some ⟨g, 0, none⟩), .int .i64 (k : Int)] w (EscRd s g w (escOf (At s k))) := by
  have HE : Hid (escOf (At s k) = some (At s (k + 1))) := by
    show escOf (At s k) = some (At s (k + 1))
    rw [At_cons s k hk]
    unfold escOf
    simp only [h98]
    rfl
  obtain ⟨c0, c1, f0, f1⟩ := h.cells
  have HR := Lib.hid h
  clear h c1 f0 f1
  go_enter Tryz.func51, Tryz.ntmps51
  go_wp2_with fail
  go_ret
  rw [HE.out]
  exact ⟨k, rfl, hk, rfl, HR.out, Only.refl _ _⟩

set_option maxRecDepth 100000 in
set_option maxHeartbeats 1000000 in
theorem escape_102 (s : ByteArray) (_hs : s.size ≤ 1000000) (g : Nat) (k : Nat) (hk : k < s.size) (h98 : ((s[k].toNat : Int) == 98) = false) (h102 : ((s[k].toNat : Int) == 102) = true) (w : World) (h : Rs w g s (-1)) :
    Calls Tryz.prog 51 #[.pointer (some ⟨g, 0, none⟩), .int .i64 (k : Int)] w (EscRd s g w (escOf (At s k))) := by
  have HE : Hid (escOf (At s k) = some (At s (k + 1))) := by
    show escOf (At s k) = some (At s (k + 1))
    rw [At_cons s k hk]
    unfold escOf
    simp only [h98, h102]
    rfl
  obtain ⟨c0, c1, f0, f1⟩ := h.cells
  have HR := Lib.hid h
  clear h c1 f0 f1
  go_enter Tryz.func51, Tryz.ntmps51
  go_wp2_with fail
  go_ret
  rw [HE.out]
  exact ⟨k, rfl, hk, rfl, HR.out, Only.refl _ _⟩

set_option maxRecDepth 100000 in
set_option maxHeartbeats 1000000 in
theorem escape_110 (s : ByteArray) (_hs : s.size ≤ 1000000) (g : Nat) (k : Nat) (hk : k < s.size) (h98 : ((s[k].toNat : Int) == 98) = false) (h102 : ((s[k].toNat : Int) == 102) = false) (h110 : ((s[k].toNat : Int) == 110) = true) (w : World) (h : Rs w g s (-1)) :
    Calls Tryz.prog 51 #[.pointer (some ⟨g, 0, none⟩), .int .i64 (k : Int)] w (EscRd s g w (escOf (At s k))) := by
  have HE : Hid (escOf (At s k) = some (At s (k + 1))) := by
    show escOf (At s k) = some (At s (k + 1))
    rw [At_cons s k hk]
    unfold escOf
    simp only [h98, h102, h110]
    rfl
  obtain ⟨c0, c1, f0, f1⟩ := h.cells
  have HR := Lib.hid h
  clear h c1 f0 f1
  go_enter Tryz.func51, Tryz.ntmps51
  go_wp2_with fail
  go_ret
  rw [HE.out]
  exact ⟨k, rfl, hk, rfl, HR.out, Only.refl _ _⟩

set_option maxRecDepth 100000 in
set_option maxHeartbeats 1000000 in
theorem escape_114 (s : ByteArray) (_hs : s.size ≤ 1000000) (g : Nat) (k : Nat) (hk : k < s.size) (h98 : ((s[k].toNat : Int) == 98) = false) (h102 : ((s[k].toNat : Int) == 102) = false) (h110 : ((s[k].toNat : Int) == 110) = false) (h114 : ((s[k].toNat : Int) == 114) = true) (w : World) (h : Rs w g s (-1)) :
    Calls Tryz.prog 51 #[.pointer (some ⟨g, 0, none⟩), .int .i64 (k : Int)] w (EscRd s g w (escOf (At s k))) := by
  have HE : Hid (escOf (At s k) = some (At s (k + 1))) := by
    show escOf (At s k) = some (At s (k + 1))
    rw [At_cons s k hk]
    unfold escOf
    simp only [h98, h102, h110, h114]
    rfl
  obtain ⟨c0, c1, f0, f1⟩ := h.cells
  have HR := Lib.hid h
  clear h c1 f0 f1
  go_enter Tryz.func51, Tryz.ntmps51
  go_wp2_with fail
  go_ret
  rw [HE.out]
  exact ⟨k, rfl, hk, rfl, HR.out, Only.refl _ _⟩

set_option maxRecDepth 100000 in
set_option maxHeartbeats 1000000 in
theorem escape_116 (s : ByteArray) (_hs : s.size ≤ 1000000) (g : Nat) (k : Nat) (hk : k < s.size) (h98 : ((s[k].toNat : Int) == 98) = false) (h102 : ((s[k].toNat : Int) == 102) = false) (h110 : ((s[k].toNat : Int) == 110) = false) (h114 : ((s[k].toNat : Int) == 114) = false) (h116 : ((s[k].toNat : Int) == 116) = true) (w : World) (h : Rs w g s (-1)) :
    Calls Tryz.prog 51 #[.pointer (some ⟨g, 0, none⟩), .int .i64 (k : Int)] w (EscRd s g w (escOf (At s k))) := by
  have HE : Hid (escOf (At s k) = some (At s (k + 1))) := by
    show escOf (At s k) = some (At s (k + 1))
    rw [At_cons s k hk]
    unfold escOf
    simp only [h98, h102, h110, h114, h116]
    rfl
  obtain ⟨c0, c1, f0, f1⟩ := h.cells
  have HR := Lib.hid h
  clear h c1 f0 f1
  go_enter Tryz.func51, Tryz.ntmps51
  go_wp2_with fail
  go_ret
  rw [HE.out]
  exact ⟨k, rfl, hk, rfl, HR.out, Only.refl _ _⟩

set_option maxRecDepth 100000 in
set_option maxHeartbeats 1000000 in
theorem escape_92 (s : ByteArray) (_hs : s.size ≤ 1000000) (g : Nat) (k : Nat) (hk : k < s.size) (h98 : ((s[k].toNat : Int) == 98) = false) (h102 : ((s[k].toNat : Int) == 102) = false) (h110 : ((s[k].toNat : Int) == 110) = false) (h114 : ((s[k].toNat : Int) == 114) = false) (h116 : ((s[k].toNat : Int) == 116) = false) (h92 : ((s[k].toNat : Int) == 92) = true) (w : World) (h : Rs w g s (-1)) :
    Calls Tryz.prog 51 #[.pointer (some ⟨g, 0, none⟩), .int .i64 (k : Int)] w (EscRd s g w (escOf (At s k))) := by
  have HE : Hid (escOf (At s k) = some (At s (k + 1))) := by
    show escOf (At s k) = some (At s (k + 1))
    rw [At_cons s k hk]
    unfold escOf
    simp only [h98, h102, h110, h114, h116, h92]
    rfl
  obtain ⟨c0, c1, f0, f1⟩ := h.cells
  have HR := Lib.hid h
  clear h c1 f0 f1
  go_enter Tryz.func51, Tryz.ntmps51
  go_wp2_with fail
  go_ret
  rw [HE.out]
  exact ⟨k, rfl, hk, rfl, HR.out, Only.refl _ _⟩

set_option maxRecDepth 100000 in
set_option maxHeartbeats 1000000 in
theorem escape_47 (s : ByteArray) (_hs : s.size ≤ 1000000) (g : Nat) (k : Nat) (hk : k < s.size) (h98 : ((s[k].toNat : Int) == 98) = false) (h102 : ((s[k].toNat : Int) == 102) = false) (h110 : ((s[k].toNat : Int) == 110) = false) (h114 : ((s[k].toNat : Int) == 114) = false) (h116 : ((s[k].toNat : Int) == 116) = false) (h92 : ((s[k].toNat : Int) == 92) = false) (h47 : ((s[k].toNat : Int) == 47) = true) (w : World) (h : Rs w g s (-1)) :
    Calls Tryz.prog 51 #[.pointer (some ⟨g, 0, none⟩), .int .i64 (k : Int)] w (EscRd s g w (escOf (At s k))) := by
  have HE : Hid (escOf (At s k) = some (At s (k + 1))) := by
    show escOf (At s k) = some (At s (k + 1))
    rw [At_cons s k hk]
    unfold escOf
    simp only [h98, h102, h110, h114, h116, h92, h47]
    rfl
  obtain ⟨c0, c1, f0, f1⟩ := h.cells
  have HR := Lib.hid h
  clear h c1 f0 f1
  go_enter Tryz.func51, Tryz.ntmps51
  go_wp2_with fail
  go_ret
  rw [HE.out]
  exact ⟨k, rfl, hk, rfl, HR.out, Only.refl _ _⟩

set_option maxRecDepth 100000 in
set_option maxHeartbeats 1000000 in
theorem escape_34 (s : ByteArray) (_hs : s.size ≤ 1000000) (g : Nat) (k : Nat) (hk : k < s.size) (h98 : ((s[k].toNat : Int) == 98) = false) (h102 : ((s[k].toNat : Int) == 102) = false) (h110 : ((s[k].toNat : Int) == 110) = false) (h114 : ((s[k].toNat : Int) == 114) = false) (h116 : ((s[k].toNat : Int) == 116) = false) (h92 : ((s[k].toNat : Int) == 92) = false) (h47 : ((s[k].toNat : Int) == 47) = false) (h34 : ((s[k].toNat : Int) == 34) = true) (w : World) (h : Rs w g s (-1)) :
    Calls Tryz.prog 51 #[.pointer (some ⟨g, 0, none⟩), .int .i64 (k : Int)] w (EscRd s g w (escOf (At s k))) := by
  have HE : Hid (escOf (At s k) = some (At s (k + 1))) := by
    show escOf (At s k) = some (At s (k + 1))
    rw [At_cons s k hk]
    unfold escOf
    simp only [h98, h102, h110, h114, h116, h92, h47, h34]
    rfl
  obtain ⟨c0, c1, f0, f1⟩ := h.cells
  have HR := Lib.hid h
  clear h c1 f0 f1
  go_enter Tryz.func51, Tryz.ntmps51
  go_wp2_with fail
  go_ret
  rw [HE.out]
  exact ⟨k, rfl, hk, rfl, HR.out, Only.refl _ _⟩

set_option maxRecDepth 100000 in
set_option maxHeartbeats 1000000 in
theorem escape_no (s : ByteArray) (_hs : s.size ≤ 1000000) (g : Nat) (k : Nat) (hk : k < s.size) (h98 : ((s[k].toNat : Int) == 98) = false) (h102 : ((s[k].toNat : Int) == 102) = false) (h110 : ((s[k].toNat : Int) == 110) = false) (h114 : ((s[k].toNat : Int) == 114) = false) (h116 : ((s[k].toNat : Int) == 116) = false) (h92 : ((s[k].toNat : Int) == 92) = false) (h47 : ((s[k].toNat : Int) == 47) = false) (h34 : ((s[k].toNat : Int) == 34) = false) (h117 : ((s[k].toNat : Int) == 117) = false) (w : World) (h : Rs w g s (-1)) :
    Calls Tryz.prog 51 #[.pointer (some ⟨g, 0, none⟩), .int .i64 (k : Int)] w (EscRd s g w (escOf (At s k))) := by
  have HE : Hid (escOf (At s k) = none) := by
    show escOf (At s k) = none
    rw [At_cons s k hk]
    unfold escOf
    simp only [h98, h102, h110, h114, h116, h92, h47, h34, h117]
    rfl
  obtain ⟨c0, c1, f0, f1⟩ := h.cells
  have HR := Lib.hid h
  clear h c1 f0 f1
  go_enter Tryz.func51, Tryz.ntmps51
  go_wp2_with (go_at_call 21; refine (fail_any s g _ k rfl (Nat.le_of_lt hk) _ HR.out).mono ?_; rintro e w' ⟨n, b, rfl, hn, hr, ho⟩)
  go_ret
  rw [HE.out]
  exact ⟨n, b, rfl, hn, hr, ho⟩

set_option maxRecDepth 100000 in
set_option maxHeartbeats 2000000 in
theorem escape_117 (s : ByteArray) (hs : s.size ≤ 1000000) (g : Nat) (k : Nat) (hk : k < s.size) (h98 : ((s[k].toNat : Int) == 98) = false) (h102 : ((s[k].toNat : Int) == 102) = false) (h110 : ((s[k].toNat : Int) == 110) = false) (h114 : ((s[k].toNat : Int) == 114) = false) (h116 : ((s[k].toNat : Int) == 116) = false) (h92 : ((s[k].toNat : Int) == 92) = false) (h47 : ((s[k].toNat : Int) == 47) = false) (h34 : ((s[k].toNat : Int) == 34) = false) (h117 : ((s[k].toNat : Int) == 117) = true) (w : World) (h : Rs w g s (-1)) :
    Calls Tryz.prog 51 #[.pointer (some ⟨g, 0, none⟩), .int .i64 (k : Int)] w (EscRd s g w (escOf (At s k))) := by
  have HE : Hid (escOf (At s k) = hexN 4 (At s (k + 1))) := by
    show escOf (At s k) = hexN 4 (At s (k + 1))
    rw [At_cons s k hk]
    unfold escOf
    simp only [h98, h102, h110, h114, h116, h92, h47, h34, h117]
    rfl
  obtain ⟨c0, c1, f0, f1⟩ := h.cells
  have HR := Lib.hid h
  clear h c1 f0 f1
  have hge : decide (s.size ≤ k) = false := decide_eq_false (by omega)
  go_enter Tryz.func51, Tryz.ntmps51
  go_wp2_with fail
  go_loopg [5] 4 (fun gk i wr => wr = w ∧ ∃ j : Nat, gk + j = 5 ∧ 1 ≤ j ∧ k + j ≤ s.size ∧ i = .int .i64 j ∧ hexN 4 (At s (k + 1)) = hexN gk (At s (k + j)))
  case atStart => exact ⟨rfl, 1, by omega, by omega, by omega, rfl, rfl⟩
  case round =>
    obtain ⟨rfl, j, hgj, hj1, hjs, rfl, hhex⟩ := hrel
    have HX := Lib.hid hhex
    clear hhex h98 h102 h110 h114 h116 h92 h47 h34 h117
    have hj5 : j ≤ 5 := by omega
    have HG := Lib.hid hgj
    clear hgj
    by_cases h5 : j = 5
    · subst h5
      have hg0 : gk = 0 := by have := HG.out; omega
      have HG0 := Lib.hid hg0
      clear hg0
      go_wp2_with fail
      go_ret
      rw [HE.out, HX.out, HG0.out]
      exact ⟨k + 4, rfl, by omega, rfl, HR.out, Only.refl _ _⟩
    · obtain ⟨n, hn⟩ : ∃ n, gk = n + 1 := ⟨gk - 1, by have := HG.out; omega⟩
      have HN := Lib.hid hn
      clear hn
      by_cases hlt : k + j < s.size
      · have HC := Lib.hid (At_cons s (k + j) hlt)
        have h50 : (0 : Int) ≤ (s[k + j].toNat : Int) := by omega
        have h51 : (s[k + j].toNat : Int) ≤ 255 := by have := s[k + j].toNat_lt; omega
        have HB := Lib.hid (hxI_hex (s[k + j].toNat : Int) h50)
        cases hh : hxI (s[k + j].toNat : Int) with
        | true =>
          have HH := Lib.hid hh
          clear hh
          go_wp2_with (first | (go_at_call 60; refine (hexDigit_any _ h50 h51 _).mono ?_; rintro e w' ⟨v, rfl, hv, rfl⟩; rw [HH.out, if_pos rfl] at hv))
          go_roundg n
          case measure => have := HN.out; omega
          case rel => exact ⟨rfl, j + 1, by have := HN.out; have := HG.out; omega, by omega, by omega, by go_num, by rw [HX.out, HN.out, HC.out, hexN, show Js.hex s[k + j].toNat = true from HB.out.trans HH.out]; rfl⟩
        | false =>
          have HH := Lib.hid hh
          clear hh
          go_wp2_with (first | (go_at_call 60; refine (hexDigit_any _ h50 h51 _).mono ?_; rintro e w' ⟨v, rfl, hv, rfl⟩; rw [HH.out, if_neg (by decide)] at hv; subst hv) | (go_at_call 21; refine (fail_any s g _ (k + j) (by omega) (by omega) _ HR.out).mono ?_; rintro e w' ⟨n, b, rfl, hn, hr, ho⟩))
          go_ret
          rw [HE.out, HX.out, HN.out, HC.out, hexN, show Js.hex s[k + j].toNat = false from HB.out.trans HH.out]
          exact ⟨n, b, rfl, hn, hr, ho⟩
      · have HC := Lib.hid (At_end s (k + j) (by omega))
        go_wp2_with (first | (go_at_call 21; refine (fail_any s g _ s.size rfl (Nat.le_refl _) _ HR.out).mono ?_; rintro e w' ⟨n, b, rfl, hn, hr, ho⟩))
        go_ret
        rw [HE.out, HX.out, HN.out, HC.out]
        exact ⟨n, b, rfl, hn, hr, ho⟩

theorem escape_any (s : ByteArray) (hs : s.size ≤ 1000000) (g : Nat) (a : Int) (k : Nat) (ha : a = (k : Int)) (hk : k ≤ s.size) (w : World) (h : Rs w g s (-1)) :
    Calls Tryz.prog 51 #[.pointer (some ⟨g, 0, none⟩), .int .i64 a] w (EscRd s g w (escOf (At s k))) := by
  subst ha
  by_cases hlt : k < s.size
  · rcases beq_or' (s[k].toNat : Int) 98 with h98 | h98
    · exact escape_98 s hs g k hlt h98 w h
    rcases beq_or' (s[k].toNat : Int) 102 with h102 | h102
    · exact escape_102 s hs g k hlt h98 h102 w h
    rcases beq_or' (s[k].toNat : Int) 110 with h110 | h110
    · exact escape_110 s hs g k hlt h98 h102 h110 w h
    rcases beq_or' (s[k].toNat : Int) 114 with h114 | h114
    · exact escape_114 s hs g k hlt h98 h102 h110 h114 w h
    rcases beq_or' (s[k].toNat : Int) 116 with h116 | h116
    · exact escape_116 s hs g k hlt h98 h102 h110 h114 h116 w h
    rcases beq_or' (s[k].toNat : Int) 92 with h92 | h92
    · exact escape_92 s hs g k hlt h98 h102 h110 h114 h116 h92 w h
    rcases beq_or' (s[k].toNat : Int) 47 with h47 | h47
    · exact escape_47 s hs g k hlt h98 h102 h110 h114 h116 h92 h47 w h
    rcases beq_or' (s[k].toNat : Int) 34 with h34 | h34
    · exact escape_34 s hs g k hlt h98 h102 h110 h114 h116 h92 h47 h34 w h
    rcases beq_or' (s[k].toNat : Int) 117 with h117 | h117
    · exact escape_117 s hs g k hlt h98 h102 h110 h114 h116 h92 h47 h34 h117 w h
    · exact escape_no s hs g k hlt h98 h102 h110 h114 h116 h92 h47 h34 h117 w h
  · rw [At_end s k (by omega)]
    exact escape_end s hs g _ k rfl (by omega) w h

end Go.Proofs.YtlmhpmbgalmpgaaGreatDoor
