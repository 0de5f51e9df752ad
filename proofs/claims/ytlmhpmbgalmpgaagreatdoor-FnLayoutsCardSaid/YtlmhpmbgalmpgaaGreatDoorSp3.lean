/-
  The reference's readers of strings and digits.
-/
import Derived.Test.YtlmhpmbgalmpgaaGreatDoorSp2
namespace Go.Proofs.YtlmhpmbgalmpgaaGreatDoor
open Go.RowKit

theorem hexN_len (n : Nat) : ∀ (l r : List UInt8), hexN n l = some r → r.length ≤ l.length := by
  induction n with
  | zero => intro l r h; simp [hexN] at h; subst h; exact Nat.le_refl _
  | succ n ih =>
    intro l r h
    cases l with
    | nil => simp [hexN] at h
    | cons c l =>
      simp only [hexN] at h
      split at h
      · have := ih _ _ h; simp; omega
      · cases h

theorem escOf_lt (l r : List UInt8) (h : escOf l = some r) : r.length < l.length := by
  cases l with
  | nil => simp [escOf] at h
  | cons d l =>
    simp only [escOf] at h
    split at h
    · simp at h; subst h; simp
    · split at h
      · have := hexN_len _ _ _ h; simp; omega
      · cases h

set_option maxRecDepth 100000 in
set_option maxHeartbeats 2000000 in
theorem text_any (s : ByteArray) (hs : s.size ≤ 1000000) (g : Nat) (a : Int) (k : Nat) (ha : a = (k : Int)) (hk : k < s.size) (w : World) (h : Rs w g s (-1)) :
    Calls Tryz.prog 37 #[.pointer (some ⟨g, 0, none⟩), .int .i64 a] w (Rd s g w (Js.pStr (At s (k + 1)))) := by
  subst ha
  have HR0 := Lib.hid h
  clear h
  go_enter Tryz.func37, Tryz.ntmps37
  go_wp2_with fail
  go_loopg [5] (s.size - (k + 1)) (fun gk i wr => ∃ j : Nat, gk + j = s.size ∧ k + 1 ≤ j ∧ i = .int .i64 j ∧ Js.pStr (At s (k + 1)) = Js.pStr (At s j) ∧ Rs wr g s (-1) ∧ Only g w wr)
  case atStart => exact ⟨k + 1, by omega, by omega, by go_num, rfl, HR0.out, Only.refl _ _⟩
  case round =>
    obtain ⟨j, hgj, hj1, rfl, hps, hr0, ho0⟩ := hrel
    have hjs : j ≤ s.size := by omega
    have HG := Lib.hid hgj
    have HX := Lib.hid hps
    have HR := Lib.hid hr0
    have HO := Lib.hid ho0
    obtain ⟨c0, c1, f0, f1⟩ := hr0.cells
    clear hgj hps hr0 ho0 f0 f1
    by_cases hlt : j < s.size
    · have HC := Lib.hid (At_cons s j hlt)
      rcases beq_or' (s[j].toNat : Int) 34 with h34 | h34
      · have HP : Hid (Js.pStr (At s j) = some (At s (j + 1))) := by
          show Js.pStr (At s j) = some (At s (j + 1))
          rw [HC.out, pStr_cons, if_pos h34]
        go_wp2_with fail
        go_ret
        rw [HX.out, HP.out]
        exact ⟨j + 1, by go_num, by omega, rfl, HR.out, HO.out⟩
      · by_cases h32 : (s[j].toNat : Int) < 32
        · have HP : Hid (Js.pStr (At s j) = none) := by
            show Js.pStr (At s j) = none
            rw [HC.out, pStr_cons, if_neg (by rw [h34]; decide), if_pos h32]
          go_wp2_with (first | (go_at_call 21; refine (fail_any s g _ j (by omega) (by omega) _ HR.out).mono ?_; rintro e w' ⟨n, b, rfl, hn, hr, ho⟩))
          go_ret
          rw [HX.out, HP.out]
          exact ⟨n, b, rfl, hn, hr, HO.out.trans ho⟩
        · rcases beq_or' (s[j].toNat : Int) 92 with h92 | h92
          · cases he : escOf (At s (j + 1)) with
            | none =>
              have HP : Hid (Js.pStr (At s j) = none) := by
                show Js.pStr (At s j) = none
                rw [HC.out, pStr_cons, if_neg (by rw [h34]; decide), if_neg h32, if_pos h92, he]
                rfl
              have HEE := Lib.hid he
              clear he
              have hesc := escape_any s hs g ((j : Int) + 1) (j + 1) (by omega) (by omega) wr HR.out
              rw [HEE.out] at hesc
              have HESC := Lib.hid hesc
              clear hesc
              go_wp2_with (first | (go_at_call 51; refine HESC.out.mono ?_; rintro e w' ⟨n, b, rfl, hn, hr, ho⟩; obtain ⟨x0, x1, _, _⟩ := hr.cells))
              go_ret
              rw [HX.out, HP.out]
              exact ⟨n, b, rfl, hn, hr, HO.out.trans ho⟩
            | some r =>
              have HP : Hid (Js.pStr (At s j) = Js.pStr r) := by
                show Js.pStr (At s j) = Js.pStr r
                rw [HC.out, pStr_cons, if_neg (by rw [h34]; decide), if_neg h32, if_pos h92, he]
                rfl
              have hlen := escOf_lt _ _ he
              rw [At_length] at hlen
              have HEE := Lib.hid he
              clear he
              have hesc := escape_any s hs g ((j : Int) + 1) (j + 1) (by omega) (by omega) wr HR.out
              rw [HEE.out] at hesc
              have HESC := Lib.hid hesc
              clear hesc
              go_wp2_with (first | (go_at_call 51; refine HESC.out.mono ?_; rintro e w' ⟨n, rfl, hn, hat, hr, ho⟩; obtain ⟨x0, x1, _, _⟩ := hr.cells))
              have hat' : At s (n + 1) = r := hat
              have hl2 := congrArg List.length hat'
              rw [At_length] at hl2
              go_roundg (s.size - (n + 1))
              case measure => have := HG.out; omega
              case rel => exact ⟨n + 1, by omega, by omega, by go_num, by rw [HX.out, HP.out, hat'], hr, HO.out.trans ho⟩
          · have HP : Hid (Js.pStr (At s j) = Js.pStr (At s (j + 1))) := by
              show Js.pStr (At s j) = Js.pStr (At s (j + 1))
              rw [HC.out, pStr_cons, if_neg (by rw [h34]; decide), if_neg h32, if_neg (by rw [h92]; decide)]
            go_wp2_with fail
            go_roundg (s.size - (j + 1))
            case measure => have := HG.out; omega
            case rel => exact ⟨j + 1, by omega, by omega, by go_num, by rw [HX.out, HP.out], HR.out, HO.out⟩
    · have HP : Hid (Js.pStr (At s j) = none) := by
        show Js.pStr (At s j) = none
        rw [At_end s j (by omega)]
        rfl
      go_wp2_with (first | (go_at_call 21; refine (fail_any s g _ s.size (by omega) (Nat.le_refl _) _ HR.out).mono ?_; rintro e w' ⟨n, b, rfl, hn, hr, ho⟩))
      go_ret
      rw [HX.out, HP.out]
      exact ⟨n, b, rfl, hn, hr, HO.out.trans ho⟩

set_option maxRecDepth 100000 in
set_option maxHeartbeats 2000000 in
theorem digits_no (s : ByteArray) (_hs : s.size ≤ 1000000) (g : Nat) (a : Int) (k : Nat) (ha : a = (k : Int)) (hk : k ≤ s.size) (hd : ∀ h : k < s.size, dgI (s[k].toNat : Int) = false) (w : World) (h : Rs w g s (-1)) :
    Calls Tryz.prog 52 #[.pointer (some ⟨g, 0, none⟩), .int .i64 a] w (No s g w) := by
  subst ha
  obtain ⟨c0, c1, f0, f1⟩ := h.cells
  have HR := Lib.hid h
  clear h c1 f0 f1
  by_cases hlt : k < s.size
  · have hd' := hd hlt
    clear hd
    have hge : decide (s.size ≤ k) = false := decide_eq_false (by omega)
    go_enter Tryz.func52, Tryz.ntmps52
    go_wp2_with (first | (go_at_call 39; refine (digit_any _ _).mono ?_; rintro e w' ⟨rfl, rfl⟩) | (go_at_call 21; refine (fail_any s g _ k (by omega) (by omega) _ HR.out).mono ?_; rintro e w' ⟨n, b, rfl, hn, hr, ho⟩))
    go_ret
    exact ⟨n, b, rfl, hn, hr, ho⟩
  · clear hd
    go_enter Tryz.func52, Tryz.ntmps52
    go_wp2_with (first | (go_at_call 21; refine (fail_any s g _ k (by omega) (by omega) _ HR.out).mono ?_; rintro e w' ⟨n, b, rfl, hn, hr, ho⟩))
    go_ret
    exact ⟨n, b, rfl, hn, hr, ho⟩

set_option maxRecDepth 100000 in
set_option maxHeartbeats 2000000 in
theorem digits_yes (s : ByteArray) (hs : s.size ≤ 1000000) (g : Nat) (a : Int) (k : Nat) (ha : a = (k : Int)) (hk : k < s.size) (hd : dgI (s[k].toNat : Int) = true) (w : World) (h : Rs w g s (-1)) :
    Calls Tryz.prog 52 #[.pointer (some ⟨g, 0, none⟩), .int .i64 a] w (Ok s g w (Js.pDigs (At s k))) := by
  subst ha
  obtain ⟨c0, c1, f0, f1⟩ := h.cells
  have HR := Lib.hid h
  have hge : decide (s.size ≤ k) = false := decide_eq_false (by omega)
  clear h c1 f0 f1
  go_enter Tryz.func52, Tryz.ntmps52
  go_wp2_with (first | (go_at_call 39; refine (digit_any _ _).mono ?_; rintro e w' ⟨rfl, rfl⟩))
  go_loopg [1] (s.size - k) (fun gk i wr => wr = w ∧ ∃ j : Nat, gk + j = s.size ∧ k ≤ j ∧ i = .int .i64 j ∧ Js.pDigs (At s k) = Js.pDigs (At s j))
  case atStart => exact ⟨rfl, k, by omega, by omega, rfl, rfl⟩
  case round =>
    obtain ⟨rfl, j, hgj, hj1, rfl, hps⟩ := hrel
    have hjs : j ≤ s.size := by omega
    have HG := Lib.hid hgj
    have HX := Lib.hid hps
    clear hgj hps
    by_cases hlt : j < s.size
    · have HC := Lib.hid (At_cons s j hlt)
      have HB := Lib.hid (dgI_dig (s[j].toNat : Int) (by omega))
      cases hh : dgI (s[j].toNat : Int) with
      | true =>
        have HP : Hid (Js.pDigs (At s j) = Js.pDigs (At s (j + 1))) := by
          show Js.pDigs (At s j) = _
          rw [HC.out, Js.pDigs, show Js.dig s[j].toNat = true from HB.out.trans hh]
          rfl
        go_wp2_with (first | (go_at_call 39; refine (digit_any _ _).mono ?_; rintro e w' ⟨rfl, rfl⟩))
        go_roundg (s.size - (j + 1))
        case measure => have := HG.out; omega
        case rel => exact ⟨rfl, j + 1, by omega, by omega, by go_num, by rw [HX.out, HP.out]⟩
      | false =>
        have HP : Hid (Js.pDigs (At s j) = At s j) := by
          show Js.pDigs (At s j) = _
          rw [HC.out, Js.pDigs, show Js.dig s[j].toNat = false from HB.out.trans hh]
          rfl
        go_wp2_with (first | (go_at_call 39; refine (digit_any _ _).mono ?_; rintro e w' ⟨rfl, rfl⟩))
        go_ret
        exact ⟨j, rfl, hjs, by rw [HX.out, HP.out], HR.out, Only.refl _ _⟩
    · have HP : Hid (Js.pDigs (At s j) = At s j) := by
        show Js.pDigs (At s j) = _
        rw [At_end s j (by omega)]
        rfl
      go_wp2_with (first | (go_at_call 39; refine (digit_any _ _).mono ?_; rintro e w' ⟨rfl, rfl⟩))
      go_ret
      exact ⟨j, rfl, hjs, by rw [HX.out, HP.out], HR.out, Only.refl _ _⟩

theorem digits_any (s : ByteArray) (hs : s.size ≤ 1000000) (g : Nat) (a : Int) (k : Nat) (ha : a = (k : Int)) (hk : k ≤ s.size) (w : World) (h : Rs w g s (-1)) :
    Calls Tryz.prog 52 #[.pointer (some ⟨g, 0, none⟩), .int .i64 a] w (Rd s g w (Js.pDigits (At s k))) := by
  by_cases hlt : k < s.size
  · have hB := dgI_dig (s[k].toNat : Int) (by omega)
    rw [At_cons s k hlt, Js.pDigits]
    cases hh : dgI (s[k].toNat : Int) with
    | true =>
      have h2 : Js.pDigs (At s k) = Js.pDigs (At s (k + 1)) := by
        rw [At_cons s k hlt, Js.pDigs, show Js.dig s[k].toNat = true from hB.trans hh]
        rfl
      rw [if_pos (show Js.dig s[k].toNat = true from hB.trans hh), ← h2]
      exact digits_yes s hs g a k ha hlt hh w h
    | false =>
      rw [if_neg (by rw [show Js.dig s[k].toNat = false from hB.trans hh]; decide)]
      exact digits_no s hs g a k ha hk (fun _ => hh) w h
  · rw [At_end s k (by omega)]
    exact digits_no s hs g a k ha hk (fun h => absurd h hlt) w h

end Go.Proofs.YtlmhpmbgalmpgaaGreatDoor
