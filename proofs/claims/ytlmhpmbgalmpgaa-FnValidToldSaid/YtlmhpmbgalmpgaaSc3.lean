/-
  The scanner's states that call nothing but 'error'.
-/
import Derived.Test.YtlmhpmbgalmpgaaSc2
namespace Go.Proofs.Ytlmhpmbgalmpgaa
open Go.RowKit

set_option maxHeartbeats 400000 in
theorem st_str (g : Nat) (m : Js.M) (c : Int) (h0 : 0 ≤ c) (h1 : c ≤ 255) (w : World) (h : Sc w g m) :
    Calls Try.prog 32 #[.pointer (some ⟨g, 0, none⟩), .int .u8 c] w (After g w (if c == 34 then Js.to m .ev 0 else if c == 92 then Js.to m .esc 0 else if c < 32 then Js.fail m else (m, 0))) := by
  have HS := Lib.hid h
  obtain ⟨pv, ev, b, hp⟩ := h
  obtain ⟨c0, c1, c2, c3, c4, f0, f1, f2, f3, f4⟩ := hp.blk.cells
  have HP := Lib.hid hp
  clear hp c1 c2 c3 c4 f1 f2 f3 f4
  go_enter Try.func32, Try.ntmps32
  go_wp2_with (first | (go_at_call 39; refine (error_any g _ _ _ _ b c _ h0 h1 (by decide) _ HP.out.blk).mono ?_; rintro e w' ⟨rfl, he⟩))
  all_goals
    go_ret
    first | exact after_stay HS.out _ _ rfl | exact after_to HS.out _ _ _ rfl _ rfl | exact after_fail HP.out (by assumption)

set_option maxHeartbeats 400000 in
theorem st_t (g : Nat) (m : Js.M) (c : Int) (h0 : 0 ≤ c) (h1 : c ≤ 255) (w : World) (h : Sc w g m) :
    Calls Try.prog 35 #[.pointer (some ⟨g, 0, none⟩), .int .u8 c] w (After g w (if c == 114 then Js.to m .tr 0 else Js.fail m)) := by
  have HS := Lib.hid h
  obtain ⟨pv, ev, b, hp⟩ := h
  obtain ⟨c0, c1, c2, c3, c4, f0, f1, f2, f3, f4⟩ := hp.blk.cells
  have HP := Lib.hid hp
  clear hp c1 c2 c3 c4 f1 f2 f3 f4
  go_enter Try.func35, Try.ntmps35
  go_wp2_with (first | (go_at_call 39; refine (error_any g _ _ _ _ b c _ h0 h1 (by decide) _ HP.out.blk).mono ?_; rintro e w' ⟨rfl, he⟩))
  all_goals
    go_ret
    first | exact after_stay HS.out _ _ rfl | exact after_to HS.out _ _ _ rfl _ rfl | exact after_fail HP.out (by assumption)

set_option maxHeartbeats 400000 in
theorem st_tr (g : Nat) (m : Js.M) (c : Int) (h0 : 0 ≤ c) (h1 : c ≤ 255) (w : World) (h : Sc w g m) :
    Calls Try.prog 45 #[.pointer (some ⟨g, 0, none⟩), .int .u8 c] w (After g w (if c == 117 then Js.to m .tru 0 else Js.fail m)) := by
  have HS := Lib.hid h
  obtain ⟨pv, ev, b, hp⟩ := h
  obtain ⟨c0, c1, c2, c3, c4, f0, f1, f2, f3, f4⟩ := hp.blk.cells
  have HP := Lib.hid hp
  clear hp c1 c2 c3 c4 f1 f2 f3 f4
  go_enter Try.func45, Try.ntmps45
  go_wp2_with (first | (go_at_call 39; refine (error_any g _ _ _ _ b c _ h0 h1 (by decide) _ HP.out.blk).mono ?_; rintro e w' ⟨rfl, he⟩))
  all_goals
    go_ret
    first | exact after_stay HS.out _ _ rfl | exact after_to HS.out _ _ _ rfl _ rfl | exact after_fail HP.out (by assumption)

set_option maxHeartbeats 400000 in
theorem st_tru (g : Nat) (m : Js.M) (c : Int) (h0 : 0 ≤ c) (h1 : c ≤ 255) (w : World) (h : Sc w g m) :
    Calls Try.prog 55 #[.pointer (some ⟨g, 0, none⟩), .int .u8 c] w (After g w (if c == 101 then Js.to m .ev 0 else Js.fail m)) := by
  have HS := Lib.hid h
  obtain ⟨pv, ev, b, hp⟩ := h
  obtain ⟨c0, c1, c2, c3, c4, f0, f1, f2, f3, f4⟩ := hp.blk.cells
  have HP := Lib.hid hp
  clear hp c1 c2 c3 c4 f1 f2 f3 f4
  go_enter Try.func55, Try.ntmps55
  go_wp2_with (first | (go_at_call 39; refine (error_any g _ _ _ _ b c _ h0 h1 (by decide) _ HP.out.blk).mono ?_; rintro e w' ⟨rfl, he⟩))
  all_goals
    go_ret
    first | exact after_stay HS.out _ _ rfl | exact after_to HS.out _ _ _ rfl _ rfl | exact after_fail HP.out (by assumption)

set_option maxHeartbeats 400000 in
theorem st_f (g : Nat) (m : Js.M) (c : Int) (h0 : 0 ≤ c) (h1 : c ≤ 255) (w : World) (h : Sc w g m) :
    Calls Try.prog 36 #[.pointer (some ⟨g, 0, none⟩), .int .u8 c] w (After g w (if c == 97 then Js.to m .fa 0 else Js.fail m)) := by
  have HS := Lib.hid h
  obtain ⟨pv, ev, b, hp⟩ := h
  obtain ⟨c0, c1, c2, c3, c4, f0, f1, f2, f3, f4⟩ := hp.blk.cells
  have HP := Lib.hid hp
  clear hp c1 c2 c3 c4 f1 f2 f3 f4
  go_enter Try.func36, Try.ntmps36
  go_wp2_with (first | (go_at_call 39; refine (error_any g _ _ _ _ b c _ h0 h1 (by decide) _ HP.out.blk).mono ?_; rintro e w' ⟨rfl, he⟩))
  all_goals
    go_ret
    first | exact after_stay HS.out _ _ rfl | exact after_to HS.out _ _ _ rfl _ rfl | exact after_fail HP.out (by assumption)

set_option maxHeartbeats 400000 in
theorem st_fa (g : Nat) (m : Js.M) (c : Int) (h0 : 0 ≤ c) (h1 : c ≤ 255) (w : World) (h : Sc w g m) :
    Calls Try.prog 46 #[.pointer (some ⟨g, 0, none⟩), .int .u8 c] w (After g w (if c == 108 then Js.to m .fal 0 else Js.fail m)) := by
  have HS := Lib.hid h
  obtain ⟨pv, ev, b, hp⟩ := h
  obtain ⟨c0, c1, c2, c3, c4, f0, f1, f2, f3, f4⟩ := hp.blk.cells
  have HP := Lib.hid hp
  clear hp c1 c2 c3 c4 f1 f2 f3 f4
  go_enter Try.func46, Try.ntmps46
  go_wp2_with (first | (go_at_call 39; refine (error_any g _ _ _ _ b c _ h0 h1 (by decide) _ HP.out.blk).mono ?_; rintro e w' ⟨rfl, he⟩))
  all_goals
    go_ret
    first | exact after_stay HS.out _ _ rfl | exact after_to HS.out _ _ _ rfl _ rfl | exact after_fail HP.out (by assumption)

set_option maxHeartbeats 400000 in
theorem st_fal (g : Nat) (m : Js.M) (c : Int) (h0 : 0 ≤ c) (h1 : c ≤ 255) (w : World) (h : Sc w g m) :
    Calls Try.prog 56 #[.pointer (some ⟨g, 0, none⟩), .int .u8 c] w (After g w (if c == 115 then Js.to m .fals 0 else Js.fail m)) := by
  have HS := Lib.hid h
  obtain ⟨pv, ev, b, hp⟩ := h
  obtain ⟨c0, c1, c2, c3, c4, f0, f1, f2, f3, f4⟩ := hp.blk.cells
  have HP := Lib.hid hp
  clear hp c1 c2 c3 c4 f1 f2 f3 f4
  go_enter Try.func56, Try.ntmps56
  go_wp2_with (first | (go_at_call 39; refine (error_any g _ _ _ _ b c _ h0 h1 (by decide) _ HP.out.blk).mono ?_; rintro e w' ⟨rfl, he⟩))
  all_goals
    go_ret
    first | exact after_stay HS.out _ _ rfl | exact after_to HS.out _ _ _ rfl _ rfl | exact after_fail HP.out (by assumption)

set_option maxHeartbeats 400000 in
theorem st_fals (g : Nat) (m : Js.M) (c : Int) (h0 : 0 ≤ c) (h1 : c ≤ 255) (w : World) (h : Sc w g m) :
    Calls Try.prog 60 #[.pointer (some ⟨g, 0, none⟩), .int .u8 c] w (After g w (if c == 101 then Js.to m .ev 0 else Js.fail m)) := by
  have HS := Lib.hid h
  obtain ⟨pv, ev, b, hp⟩ := h
  obtain ⟨c0, c1, c2, c3, c4, f0, f1, f2, f3, f4⟩ := hp.blk.cells
  have HP := Lib.hid hp
  clear hp c1 c2 c3 c4 f1 f2 f3 f4
  go_enter Try.func60, Try.ntmps60
  go_wp2_with (first | (go_at_call 39; refine (error_any g _ _ _ _ b c _ h0 h1 (by decide) _ HP.out.blk).mono ?_; rintro e w' ⟨rfl, he⟩))
  all_goals
    go_ret
    first | exact after_stay HS.out _ _ rfl | exact after_to HS.out _ _ _ rfl _ rfl | exact after_fail HP.out (by assumption)

set_option maxHeartbeats 400000 in
theorem st_n (g : Nat) (m : Js.M) (c : Int) (h0 : 0 ≤ c) (h1 : c ≤ 255) (w : World) (h : Sc w g m) :
    Calls Try.prog 37 #[.pointer (some ⟨g, 0, none⟩), .int .u8 c] w (After g w (if c == 117 then Js.to m .nu 0 else Js.fail m)) := by
  have HS := Lib.hid h
  obtain ⟨pv, ev, b, hp⟩ := h
  obtain ⟨c0, c1, c2, c3, c4, f0, f1, f2, f3, f4⟩ := hp.blk.cells
  have HP := Lib.hid hp
  clear hp c1 c2 c3 c4 f1 f2 f3 f4
  go_enter Try.func37, Try.ntmps37
  go_wp2_with (first | (go_at_call 39; refine (error_any g _ _ _ _ b c _ h0 h1 (by decide) _ HP.out.blk).mono ?_; rintro e w' ⟨rfl, he⟩))
  all_goals
    go_ret
    first | exact after_stay HS.out _ _ rfl | exact after_to HS.out _ _ _ rfl _ rfl | exact after_fail HP.out (by assumption)

set_option maxHeartbeats 400000 in
theorem st_nu (g : Nat) (m : Js.M) (c : Int) (h0 : 0 ≤ c) (h1 : c ≤ 255) (w : World) (h : Sc w g m) :
    Calls Try.prog 47 #[.pointer (some ⟨g, 0, none⟩), .int .u8 c] w (After g w (if c == 108 then Js.to m .nul 0 else Js.fail m)) := by
  have HS := Lib.hid h
  obtain ⟨pv, ev, b, hp⟩ := h
  obtain ⟨c0, c1, c2, c3, c4, f0, f1, f2, f3, f4⟩ := hp.blk.cells
  have HP := Lib.hid hp
  clear hp c1 c2 c3 c4 f1 f2 f3 f4
  go_enter Try.func47, Try.ntmps47
  go_wp2_with (first | (go_at_call 39; refine (error_any g _ _ _ _ b c _ h0 h1 (by decide) _ HP.out.blk).mono ?_; rintro e w' ⟨rfl, he⟩))
  all_goals
    go_ret
    first | exact after_stay HS.out _ _ rfl | exact after_to HS.out _ _ _ rfl _ rfl | exact after_fail HP.out (by assumption)

set_option maxHeartbeats 400000 in
theorem st_nul (g : Nat) (m : Js.M) (c : Int) (h0 : 0 ≤ c) (h1 : c ≤ 255) (w : World) (h : Sc w g m) :
    Calls Try.prog 57 #[.pointer (some ⟨g, 0, none⟩), .int .u8 c] w (After g w (if c == 108 then Js.to m .ev 0 else Js.fail m)) := by
  have HS := Lib.hid h
  obtain ⟨pv, ev, b, hp⟩ := h
  obtain ⟨c0, c1, c2, c3, c4, f0, f1, f2, f3, f4⟩ := hp.blk.cells
  have HP := Lib.hid hp
  clear hp c1 c2 c3 c4 f1 f2 f3 f4
  go_enter Try.func57, Try.ntmps57
  go_wp2_with (first | (go_at_call 39; refine (error_any g _ _ _ _ b c _ h0 h1 (by decide) _ HP.out.blk).mono ?_; rintro e w' ⟨rfl, he⟩))
  all_goals
    go_ret
    first | exact after_stay HS.out _ _ rfl | exact after_to HS.out _ _ _ rfl _ rfl | exact after_fail HP.out (by assumption)

set_option maxHeartbeats 400000 in
theorem st_u0 (g : Nat) (m : Js.M) (c : Int) (h0 : 0 ≤ c) (h1 : c ≤ 255) (w : World) (h : Sc w g m) :
    Calls Try.prog 52 #[.pointer (some ⟨g, 0, none⟩), .int .u8 c] w (After g w (if hxI c then Js.to m .u1 0 else Js.fail m)) := by
  have HS := Lib.hid h
  obtain ⟨pv, ev, b, hp⟩ := h
  obtain ⟨c0, c1, c2, c3, c4, f0, f1, f2, f3, f4⟩ := hp.blk.cells
  have HP := Lib.hid hp
  clear hp c1 c2 c3 c4 f1 f2 f3 f4
  rcases hxI_cases c with ⟨hd, hd1, hd2⟩ | ⟨hd, hd1, hd2⟩ | ⟨hd, hd1, hd2⟩ | ⟨hd, hd1, hd2⟩ | ⟨hd, hd1, hd2⟩ | ⟨hd, hd1, hd2⟩ | ⟨hd, hd1, hd2⟩
  all_goals
    go_enter Try.func52, Try.ntmps52
    go_wp2_with (first | (go_at_call 39; refine (error_any g _ _ _ _ b c _ h0 h1 (by decide) _ HP.out.blk).mono ?_; rintro e w' ⟨rfl, he⟩))
    all_goals
      go_ret
      first | exact after_stay HS.out _ _ rfl | exact after_to HS.out _ _ _ rfl _ rfl | exact after_fail HP.out (by assumption)

set_option maxHeartbeats 400000 in
theorem st_u1 (g : Nat) (m : Js.M) (c : Int) (h0 : 0 ≤ c) (h1 : c ≤ 255) (w : World) (h : Sc w g m) :
    Calls Try.prog 58 #[.pointer (some ⟨g, 0, none⟩), .int .u8 c] w (After g w (if hxI c then Js.to m .u2 0 else Js.fail m)) := by
  have HS := Lib.hid h
  obtain ⟨pv, ev, b, hp⟩ := h
  obtain ⟨c0, c1, c2, c3, c4, f0, f1, f2, f3, f4⟩ := hp.blk.cells
  have HP := Lib.hid hp
  clear hp c1 c2 c3 c4 f1 f2 f3 f4
  rcases hxI_cases c with ⟨hd, hd1, hd2⟩ | ⟨hd, hd1, hd2⟩ | ⟨hd, hd1, hd2⟩ | ⟨hd, hd1, hd2⟩ | ⟨hd, hd1, hd2⟩ | ⟨hd, hd1, hd2⟩ | ⟨hd, hd1, hd2⟩
  all_goals
    go_enter Try.func58, Try.ntmps58
    go_wp2_with (first | (go_at_call 39; refine (error_any g _ _ _ _ b c _ h0 h1 (by decide) _ HP.out.blk).mono ?_; rintro e w' ⟨rfl, he⟩))
    all_goals
      go_ret
      first | exact after_stay HS.out _ _ rfl | exact after_to HS.out _ _ _ rfl _ rfl | exact after_fail HP.out (by assumption)

set_option maxHeartbeats 400000 in
theorem st_u2 (g : Nat) (m : Js.M) (c : Int) (h0 : 0 ≤ c) (h1 : c ≤ 255) (w : World) (h : Sc w g m) :
    Calls Try.prog 61 #[.pointer (some ⟨g, 0, none⟩), .int .u8 c] w (After g w (if hxI c then Js.to m .u3 0 else Js.fail m)) := by
  have HS := Lib.hid h
  obtain ⟨pv, ev, b, hp⟩ := h
  obtain ⟨c0, c1, c2, c3, c4, f0, f1, f2, f3, f4⟩ := hp.blk.cells
  have HP := Lib.hid hp
  clear hp c1 c2 c3 c4 f1 f2 f3 f4
  rcases hxI_cases c with ⟨hd, hd1, hd2⟩ | ⟨hd, hd1, hd2⟩ | ⟨hd, hd1, hd2⟩ | ⟨hd, hd1, hd2⟩ | ⟨hd, hd1, hd2⟩ | ⟨hd, hd1, hd2⟩ | ⟨hd, hd1, hd2⟩
  all_goals
    go_enter Try.func61, Try.ntmps61
    go_wp2_with (first | (go_at_call 39; refine (error_any g _ _ _ _ b c _ h0 h1 (by decide) _ HP.out.blk).mono ?_; rintro e w' ⟨rfl, he⟩))
    all_goals
      go_ret
      first | exact after_stay HS.out _ _ rfl | exact after_to HS.out _ _ _ rfl _ rfl | exact after_fail HP.out (by assumption)

set_option maxHeartbeats 400000 in
theorem st_u3 (g : Nat) (m : Js.M) (c : Int) (h0 : 0 ≤ c) (h1 : c ≤ 255) (w : World) (h : Sc w g m) :
    Calls Try.prog 62 #[.pointer (some ⟨g, 0, none⟩), .int .u8 c] w (After g w (if hxI c then Js.to m .str 0 else Js.fail m)) := by
  have HS := Lib.hid h
  obtain ⟨pv, ev, b, hp⟩ := h
  obtain ⟨c0, c1, c2, c3, c4, f0, f1, f2, f3, f4⟩ := hp.blk.cells
  have HP := Lib.hid hp
  clear hp c1 c2 c3 c4 f1 f2 f3 f4
  rcases hxI_cases c with ⟨hd, hd1, hd2⟩ | ⟨hd, hd1, hd2⟩ | ⟨hd, hd1, hd2⟩ | ⟨hd, hd1, hd2⟩ | ⟨hd, hd1, hd2⟩ | ⟨hd, hd1, hd2⟩ | ⟨hd, hd1, hd2⟩
  all_goals
    go_enter Try.func62, Try.ntmps62
    go_wp2_with (first | (go_at_call 39; refine (error_any g _ _ _ _ b c _ h0 h1 (by decide) _ HP.out.blk).mono ?_; rintro e w' ⟨rfl, he⟩))
    all_goals
      go_ret
      first | exact after_stay HS.out _ _ rfl | exact after_to HS.out _ _ _ rfl _ rfl | exact after_fail HP.out (by assumption)

set_option maxHeartbeats 400000 in
theorem st_dot (g : Nat) (m : Js.M) (c : Int) (h0 : 0 ≤ c) (h1 : c ≤ 255) (w : World) (h : Sc w g m) :
    Calls Try.prog 43 #[.pointer (some ⟨g, 0, none⟩), .int .u8 c] w (After g w (if dgI c then Js.to m .dot0 0 else Js.fail m)) := by
  have HS := Lib.hid h
  obtain ⟨pv, ev, b, hp⟩ := h
  obtain ⟨c0, c1, c2, c3, c4, f0, f1, f2, f3, f4⟩ := hp.blk.cells
  have HP := Lib.hid hp
  clear hp c1 c2 c3 c4 f1 f2 f3 f4
  rcases dgI_cases c with ⟨hd, hd1, hd2⟩ | ⟨hd, hd1⟩ | ⟨hd, hd1⟩
  all_goals
    go_enter Try.func43, Try.ntmps43
    go_wp2_with (first | (go_at_call 39; refine (error_any g _ _ _ _ b c _ h0 h1 (by decide) _ HP.out.blk).mono ?_; rintro e w' ⟨rfl, he⟩))
    all_goals
      go_ret
      first | exact after_stay HS.out _ _ rfl | exact after_to HS.out _ _ _ rfl _ rfl | exact after_fail HP.out (by assumption)

set_option maxHeartbeats 400000 in
theorem st_esign (g : Nat) (m : Js.M) (c : Int) (h0 : 0 ≤ c) (h1 : c ≤ 255) (w : World) (h : Sc w g m) :
    Calls Try.prog 54 #[.pointer (some ⟨g, 0, none⟩), .int .u8 c] w (After g w (if dgI c then Js.to m .e0 0 else Js.fail m)) := by
  have HS := Lib.hid h
  obtain ⟨pv, ev, b, hp⟩ := h
  obtain ⟨c0, c1, c2, c3, c4, f0, f1, f2, f3, f4⟩ := hp.blk.cells
  have HP := Lib.hid hp
  clear hp c1 c2 c3 c4 f1 f2 f3 f4
  rcases dgI_cases c with ⟨hd, hd1, hd2⟩ | ⟨hd, hd1⟩ | ⟨hd, hd1⟩
  all_goals
    go_enter Try.func54, Try.ntmps54
    go_wp2_with (first | (go_at_call 39; refine (error_any g _ _ _ _ b c _ h0 h1 (by decide) _ HP.out.blk).mono ?_; rintro e w' ⟨rfl, he⟩))
    all_goals
      go_ret
      first | exact after_stay HS.out _ _ rfl | exact after_to HS.out _ _ _ rfl _ rfl | exact after_fail HP.out (by assumption)

set_option maxHeartbeats 400000 in
theorem st_err (g : Nat) (m : Js.M) (c : Int) (_h0 : 0 ≤ c) (_h1 : c ≤ 255) (w : World) (h : Sc w g m) :
    Calls Try.prog 48 #[.pointer (some ⟨g, 0, none⟩), .int .u8 c] w (After g w ((m, 11))) := by
  have HS := Lib.hid h
  obtain ⟨pv, ev, b, hp⟩ := h
  obtain ⟨c0, c1, c2, c3, c4, f0, f1, f2, f3, f4⟩ := hp.blk.cells
  have HP := Lib.hid hp
  clear hp c1 c2 c3 c4 f1 f2 f3 f4
  go_enter Try.func48, Try.ntmps48
  go_wp2_with (first | fail)
  all_goals
    go_ret
    first | exact after_stay HS.out _ _ rfl | exact after_to HS.out _ _ _ rfl _ rfl | exact after_fail HP.out (by assumption)

end Go.Proofs.Ytlmhpmbgalmpgaa
