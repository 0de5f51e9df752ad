/-
  The scanner's states that call nothing but 'error'.
-/
import Derived.Test.YtlmhpmbgalmpgaaGreatDoorSc2
namespace Go.Proofs.YtlmhpmbgalmpgaaGreatDoor
open Go.RowKit

set_option maxHeartbeats 400000 in
theorem st_str (g : Nat) (m : Js.M) (c : Int) (h0 : 0 ≤ c) (h1 : c ≤ 255) (w : World) (h : Sc w g m) :
    Calls Tryz.prog 69 #[.pointer (some ⟨g, 0, none⟩), .int .u8 c] w (After g w (if c == 34 then Js.to m .ev 0 else if c == 92 then Js.to m .esc 0 else if c < 32 then Js.fail m else (m, 0))) := by
  have HS := Lib.hid h
  obtain ⟨pv, ev, b, hp⟩ := h
  obtain ⟨c0, c1, c2, c3, c4, f0, f1, f2, f3, f4⟩ := hp.blk.cells
  have HP := Lib.hid hp
  clear hp c1 c2 c3 c4 f1 f2 f3 f4
  go_enter Tryz.func69, Tryz.ntmps69
  go_wp2_with (first | (go_at_call 76; refine (error_any g _ _ _ _ b c _ h0 h1 (by decide) _ HP.out.blk).mono ?_; rintro e w' ⟨rfl, he⟩))
  all_goals
    go_ret
    first | exact after_stay HS.out _ _ rfl | exact after_to HS.out _ _ _ rfl _ rfl | exact after_fail HP.out (by assumption)

set_option maxHeartbeats 400000 in
theorem st_t (g : Nat) (m : Js.M) (c : Int) (h0 : 0 ≤ c) (h1 : c ≤ 255) (w : World) (h : Sc w g m) :
    Calls Tryz.prog 72 #[.pointer (some ⟨g, 0, none⟩), .int .u8 c] w (After g w (if c == 114 then Js.to m .tr 0 else Js.fail m)) := by
  have HS := Lib.hid h
  obtain ⟨pv, ev, b, hp⟩ := h
  obtain ⟨c0, c1, c2, c3, c4, f0, f1, f2, f3, f4⟩ := hp.blk.cells
  have HP := Lib.hid hp
  clear hp c1 c2 c3 c4 f1 f2 f3 f4
  go_enter Tryz.func72, Tryz.ntmps72
  go_wp2_with (first | (go_at_call 76; refine (error_any g _ _ _ _ b c _ h0 h1 (by decide) _ HP.out.blk).mono ?_; rintro e w' ⟨rfl, he⟩))
  all_goals
    go_ret
    first | exact after_stay HS.out _ _ rfl | exact after_to HS.out _ _ _ rfl _ rfl | exact after_fail HP.out (by assumption)

set_option maxHeartbeats 400000 in
theorem st_tr (g : Nat) (m : Js.M) (c : Int) (h0 : 0 ≤ c) (h1 : c ≤ 255) (w : World) (h : Sc w g m) :
    Calls Tryz.prog 84 #[.pointer (some ⟨g, 0, none⟩), .int .u8 c] w (After g w (if c == 117 then Js.to m .tru 0 else Js.fail m)) := by
  have HS := Lib.hid h
  obtain ⟨pv, ev, b, hp⟩ := h
  obtain ⟨c0, c1, c2, c3, c4, f0, f1, f2, f3, f4⟩ := hp.blk.cells
  have HP := Lib.hid hp
  clear hp c1 c2 c3 c4 f1 f2 f3 f4
  go_enter Tryz.func84, Tryz.ntmps84
  go_wp2_with (first | (go_at_call 76; refine (error_any g _ _ _ _ b c _ h0 h1 (by decide) _ HP.out.blk).mono ?_; rintro e w' ⟨rfl, he⟩))
  all_goals
    go_ret
    first | exact after_stay HS.out _ _ rfl | exact after_to HS.out _ _ _ rfl _ rfl | exact after_fail HP.out (by assumption)

set_option maxHeartbeats 400000 in
theorem st_tru (g : Nat) (m : Js.M) (c : Int) (h0 : 0 ≤ c) (h1 : c ≤ 255) (w : World) (h : Sc w g m) :
    Calls Tryz.prog 99 #[.pointer (some ⟨g, 0, none⟩), .int .u8 c] w (After g w (if c == 101 then Js.to m .ev 0 else Js.fail m)) := by
  have HS := Lib.hid h
  obtain ⟨pv, ev, b, hp⟩ := h
  obtain ⟨c0, c1, c2, c3, c4, f0, f1, f2, f3, f4⟩ := hp.blk.cells
  have HP := Lib.hid hp
  clear hp c1 c2 c3 c4 f1 f2 f3 f4
  go_enter Tryz.func99, Tryz.ntmps99
  go_wp2_with (first | (go_at_call 76; refine (error_any g _ _ _ _ b c _ h0 h1 (by decide) _ HP.out.blk).mono ?_; rintro e w' ⟨rfl, he⟩))
  all_goals
    go_ret
    first | exact after_stay HS.out _ _ rfl | exact after_to HS.out _ _ _ rfl _ rfl | exact after_fail HP.out (by assumption)

set_option maxHeartbeats 400000 in
theorem st_f (g : Nat) (m : Js.M) (c : Int) (h0 : 0 ≤ c) (h1 : c ≤ 255) (w : World) (h : Sc w g m) :
    Calls Tryz.prog 73 #[.pointer (some ⟨g, 0, none⟩), .int .u8 c] w (After g w (if c == 97 then Js.to m .fa 0 else Js.fail m)) := by
  have HS := Lib.hid h
  obtain ⟨pv, ev, b, hp⟩ := h
  obtain ⟨c0, c1, c2, c3, c4, f0, f1, f2, f3, f4⟩ := hp.blk.cells
  have HP := Lib.hid hp
  clear hp c1 c2 c3 c4 f1 f2 f3 f4
  go_enter Tryz.func73, Tryz.ntmps73
  go_wp2_with (first | (go_at_call 76; refine (error_any g _ _ _ _ b c _ h0 h1 (by decide) _ HP.out.blk).mono ?_; rintro e w' ⟨rfl, he⟩))
  all_goals
    go_ret
    first | exact after_stay HS.out _ _ rfl | exact after_to HS.out _ _ _ rfl _ rfl | exact after_fail HP.out (by assumption)

set_option maxHeartbeats 400000 in
theorem st_fa (g : Nat) (m : Js.M) (c : Int) (h0 : 0 ≤ c) (h1 : c ≤ 255) (w : World) (h : Sc w g m) :
    Calls Tryz.prog 85 #[.pointer (some ⟨g, 0, none⟩), .int .u8 c] w (After g w (if c == 108 then Js.to m .fal 0 else Js.fail m)) := by
  have HS := Lib.hid h
  obtain ⟨pv, ev, b, hp⟩ := h
  obtain ⟨c0, c1, c2, c3, c4, f0, f1, f2, f3, f4⟩ := hp.blk.cells
  have HP := Lib.hid hp
  clear hp c1 c2 c3 c4 f1 f2 f3 f4
  go_enter Tryz.func85, Tryz.ntmps85
  go_wp2_with (first | (go_at_call 76; refine (error_any g _ _ _ _ b c _ h0 h1 (by decide) _ HP.out.blk).mono ?_; rintro e w' ⟨rfl, he⟩))
  all_goals
    go_ret
    first | exact after_stay HS.out _ _ rfl | exact after_to HS.out _ _ _ rfl _ rfl | exact after_fail HP.out (by assumption)

set_option maxHeartbeats 400000 in
theorem st_fal (g : Nat) (m : Js.M) (c : Int) (h0 : 0 ≤ c) (h1 : c ≤ 255) (w : World) (h : Sc w g m) :
    Calls Tryz.prog 100 #[.pointer (some ⟨g, 0, none⟩), .int .u8 c] w (After g w (if c == 115 then Js.to m .fals 0 else Js.fail m)) := by
  have HS := Lib.hid h
  obtain ⟨pv, ev, b, hp⟩ := h
  obtain ⟨c0, c1, c2, c3, c4, f0, f1, f2, f3, f4⟩ := hp.blk.cells
  have HP := Lib.hid hp
  clear hp c1 c2 c3 c4 f1 f2 f3 f4
  go_enter Tryz.func100, Tryz.ntmps100
  go_wp2_with (first | (go_at_call 76; refine (error_any g _ _ _ _ b c _ h0 h1 (by decide) _ HP.out.blk).mono ?_; rintro e w' ⟨rfl, he⟩))
  all_goals
    go_ret
    first | exact after_stay HS.out _ _ rfl | exact after_to HS.out _ _ _ rfl _ rfl | exact after_fail HP.out (by assumption)

set_option maxHeartbeats 400000 in
theorem st_fals (g : Nat) (m : Js.M) (c : Int) (h0 : 0 ≤ c) (h1 : c ≤ 255) (w : World) (h : Sc w g m) :
    Calls Tryz.prog 107 #[.pointer (some ⟨g, 0, none⟩), .int .u8 c] w (After g w (if c == 101 then Js.to m .ev 0 else Js.fail m)) := by
  have HS := Lib.hid h
  obtain ⟨pv, ev, b, hp⟩ := h
  obtain ⟨c0, c1, c2, c3, c4, f0, f1, f2, f3, f4⟩ := hp.blk.cells
  have HP := Lib.hid hp
  clear hp c1 c2 c3 c4 f1 f2 f3 f4
  go_enter Tryz.func107, Tryz.ntmps107
  go_wp2_with (first | (go_at_call 76; refine (error_any g _ _ _ _ b c _ h0 h1 (by decide) _ HP.out.blk).mono ?_; rintro e w' ⟨rfl, he⟩))
  all_goals
    go_ret
    first | exact after_stay HS.out _ _ rfl | exact after_to HS.out _ _ _ rfl _ rfl | exact after_fail HP.out (by assumption)

set_option maxHeartbeats 400000 in
theorem st_n (g : Nat) (m : Js.M) (c : Int) (h0 : 0 ≤ c) (h1 : c ≤ 255) (w : World) (h : Sc w g m) :
    Calls Tryz.prog 74 #[.pointer (some ⟨g, 0, none⟩), .int .u8 c] w (After g w (if c == 117 then Js.to m .nu 0 else Js.fail m)) := by
  have HS := Lib.hid h
  obtain ⟨pv, ev, b, hp⟩ := h
  obtain ⟨c0, c1, c2, c3, c4, f0, f1, f2, f3, f4⟩ := hp.blk.cells
  have HP := Lib.hid hp
  clear hp c1 c2 c3 c4 f1 f2 f3 f4
  go_enter Tryz.func74, Tryz.ntmps74
  go_wp2_with (first | (go_at_call 76; refine (error_any g _ _ _ _ b c _ h0 h1 (by decide) _ HP.out.blk).mono ?_; rintro e w' ⟨rfl, he⟩))
  all_goals
    go_ret
    first | exact after_stay HS.out _ _ rfl | exact after_to HS.out _ _ _ rfl _ rfl | exact after_fail HP.out (by assumption)

set_option maxHeartbeats 400000 in
theorem st_nu (g : Nat) (m : Js.M) (c : Int) (h0 : 0 ≤ c) (h1 : c ≤ 255) (w : World) (h : Sc w g m) :
    Calls Tryz.prog 86 #[.pointer (some ⟨g, 0, none⟩), .int .u8 c] w (After g w (if c == 108 then Js.to m .nul 0 else Js.fail m)) := by
  have HS := Lib.hid h
  obtain ⟨pv, ev, b, hp⟩ := h
  obtain ⟨c0, c1, c2, c3, c4, f0, f1, f2, f3, f4⟩ := hp.blk.cells
  have HP := Lib.hid hp
  clear hp c1 c2 c3 c4 f1 f2 f3 f4
  go_enter Tryz.func86, Tryz.ntmps86
  go_wp2_with (first | (go_at_call 76; refine (error_any g _ _ _ _ b c _ h0 h1 (by decide) _ HP.out.blk).mono ?_; rintro e w' ⟨rfl, he⟩))
  all_goals
    go_ret
    first | exact after_stay HS.out _ _ rfl | exact after_to HS.out _ _ _ rfl _ rfl | exact after_fail HP.out (by assumption)

set_option maxHeartbeats 400000 in
theorem st_nul (g : Nat) (m : Js.M) (c : Int) (h0 : 0 ≤ c) (h1 : c ≤ 255) (w : World) (h : Sc w g m) :
    Calls Tryz.prog 101 #[.pointer (some ⟨g, 0, none⟩), .int .u8 c] w (After g w (if c == 108 then Js.to m .ev 0 else Js.fail m)) := by
  have HS := Lib.hid h
  obtain ⟨pv, ev, b, hp⟩ := h
  obtain ⟨c0, c1, c2, c3, c4, f0, f1, f2, f3, f4⟩ := hp.blk.cells
  have HP := Lib.hid hp
  clear hp c1 c2 c3 c4 f1 f2 f3 f4
  go_enter Tryz.func101, Tryz.ntmps101
  go_wp2_with (first | (go_at_call 76; refine (error_any g _ _ _ _ b c _ h0 h1 (by decide) _ HP.out.blk).mono ?_; rintro e w' ⟨rfl, he⟩))
  all_goals
    go_ret
    first | exact after_stay HS.out _ _ rfl | exact after_to HS.out _ _ _ rfl _ rfl | exact after_fail HP.out (by assumption)

set_option maxHeartbeats 400000 in
theorem st_u0 (g : Nat) (m : Js.M) (c : Int) (h0 : 0 ≤ c) (h1 : c ≤ 255) (w : World) (h : Sc w g m) :
    Calls Tryz.prog 96 #[.pointer (some ⟨g, 0, none⟩), .int .u8 c] w (After g w (if hxI c then Js.to m .u1 0 else Js.fail m)) := by
  have HS := Lib.hid h
  obtain ⟨pv, ev, b, hp⟩ := h
  obtain ⟨c0, c1, c2, c3, c4, f0, f1, f2, f3, f4⟩ := hp.blk.cells
  have HP := Lib.hid hp
  clear hp c1 c2 c3 c4 f1 f2 f3 f4
  rcases hxI_cases c with ⟨hd, hd1, hd2⟩ | ⟨hd, hd1, hd2⟩ | ⟨hd, hd1, hd2⟩ | ⟨hd, hd1, hd2⟩ | ⟨hd, hd1, hd2⟩ | ⟨hd, hd1, hd2⟩ | ⟨hd, hd1, hd2⟩
  all_goals
    go_enter Tryz.func96, Tryz.ntmps96
    go_wp2_with (first | (go_at_call 76; refine (error_any g _ _ _ _ b c _ h0 h1 (by decide) _ HP.out.blk).mono ?_; rintro e w' ⟨rfl, he⟩))
    all_goals
      go_ret
      first | exact after_stay HS.out _ _ rfl | exact after_to HS.out _ _ _ rfl _ rfl | exact after_fail HP.out (by assumption)

set_option maxHeartbeats 400000 in
theorem st_u1 (g : Nat) (m : Js.M) (c : Int) (h0 : 0 ≤ c) (h1 : c ≤ 255) (w : World) (h : Sc w g m) :
    Calls Tryz.prog 105 #[.pointer (some ⟨g, 0, none⟩), .int .u8 c] w (After g w (if hxI c then Js.to m .u2 0 else Js.fail m)) := by
  have HS := Lib.hid h
  obtain ⟨pv, ev, b, hp⟩ := h
  obtain ⟨c0, c1, c2, c3, c4, f0, f1, f2, f3, f4⟩ := hp.blk.cells
  have HP := Lib.hid hp
  clear hp c1 c2 c3 c4 f1 f2 f3 f4
  rcases hxI_cases c with ⟨hd, hd1, hd2⟩ | ⟨hd, hd1, hd2⟩ | ⟨hd, hd1, hd2⟩ | ⟨hd, hd1, hd2⟩ | ⟨hd, hd1, hd2⟩ | ⟨hd, hd1, hd2⟩ | ⟨hd, hd1, hd2⟩
  all_goals
    go_enter Tryz.func105, Tryz.ntmps105
    go_wp2_with (first | (go_at_call 76; refine (error_any g _ _ _ _ b c _ h0 h1 (by decide) _ HP.out.blk).mono ?_; rintro e w' ⟨rfl, he⟩))
    all_goals
      go_ret
      first | exact after_stay HS.out _ _ rfl | exact after_to HS.out _ _ _ rfl _ rfl | exact after_fail HP.out (by assumption)

set_option maxHeartbeats 400000 in
theorem st_u2 (g : Nat) (m : Js.M) (c : Int) (h0 : 0 ≤ c) (h1 : c ≤ 255) (w : World) (h : Sc w g m) :
    Calls Tryz.prog 108 #[.pointer (some ⟨g, 0, none⟩), .int .u8 c] w (After g w (if hxI c then Js.to m .u3 0 else Js.fail m)) := by
  have HS := Lib.hid h
  obtain ⟨pv, ev, b, hp⟩ := h
  obtain ⟨c0, c1, c2, c3, c4, f0, f1, f2, f3, f4⟩ := hp.blk.cells
  have HP := Lib.hid hp
  clear hp c1 c2 c3 c4 f1 f2 f3 f4
  rcases hxI_cases c with ⟨hd, hd1, hd2⟩ | ⟨hd, hd1, hd2⟩ | ⟨hd, hd1, hd2⟩ | ⟨hd, hd1, hd2⟩ | ⟨hd, hd1, hd2⟩ | ⟨hd, hd1, hd2⟩ | ⟨hd, hd1, hd2⟩
  all_goals
    go_enter Tryz.func108, Tryz.ntmps108
    go_wp2_with (first | (go_at_call 76; refine (error_any g _ _ _ _ b c _ h0 h1 (by decide) _ HP.out.blk).mono ?_; rintro e w' ⟨rfl, he⟩))
    all_goals
      go_ret
      first | exact after_stay HS.out _ _ rfl | exact after_to HS.out _ _ _ rfl _ rfl | exact after_fail HP.out (by assumption)

set_option maxHeartbeats 400000 in
theorem st_u3 (g : Nat) (m : Js.M) (c : Int) (h0 : 0 ≤ c) (h1 : c ≤ 255) (w : World) (h : Sc w g m) :
    Calls Tryz.prog 109 #[.pointer (some ⟨g, 0, none⟩), .int .u8 c] w (After g w (if hxI c then Js.to m .str 0 else Js.fail m)) := by
  have HS := Lib.hid h
  obtain ⟨pv, ev, b, hp⟩ := h
  obtain ⟨c0, c1, c2, c3, c4, f0, f1, f2, f3, f4⟩ := hp.blk.cells
  have HP := Lib.hid hp
  clear hp c1 c2 c3 c4 f1 f2 f3 f4
  rcases hxI_cases c with ⟨hd, hd1, hd2⟩ | ⟨hd, hd1, hd2⟩ | ⟨hd, hd1, hd2⟩ | ⟨hd, hd1, hd2⟩ | ⟨hd, hd1, hd2⟩ | ⟨hd, hd1, hd2⟩ | ⟨hd, hd1, hd2⟩
  all_goals
    go_enter Tryz.func109, Tryz.ntmps109
    go_wp2_with (first | (go_at_call 76; refine (error_any g _ _ _ _ b c _ h0 h1 (by decide) _ HP.out.blk).mono ?_; rintro e w' ⟨rfl, he⟩))
    all_goals
      go_ret
      first | exact after_stay HS.out _ _ rfl | exact after_to HS.out _ _ _ rfl _ rfl | exact after_fail HP.out (by assumption)

set_option maxHeartbeats 400000 in
theorem st_dot (g : Nat) (m : Js.M) (c : Int) (h0 : 0 ≤ c) (h1 : c ≤ 255) (w : World) (h : Sc w g m) :
    Calls Tryz.prog 82 #[.pointer (some ⟨g, 0, none⟩), .int .u8 c] w (After g w (if dgI c then Js.to m .dot0 0 else Js.fail m)) := by
  have HS := Lib.hid h
  obtain ⟨pv, ev, b, hp⟩ := h
  obtain ⟨c0, c1, c2, c3, c4, f0, f1, f2, f3, f4⟩ := hp.blk.cells
  have HP := Lib.hid hp
  clear hp c1 c2 c3 c4 f1 f2 f3 f4
  rcases dgI_cases c with ⟨hd, hd1, hd2⟩ | ⟨hd, hd1⟩ | ⟨hd, hd1⟩
  all_goals
    go_enter Tryz.func82, Tryz.ntmps82
    go_wp2_with (first | (go_at_call 76; refine (error_any g _ _ _ _ b c _ h0 h1 (by decide) _ HP.out.blk).mono ?_; rintro e w' ⟨rfl, he⟩))
    all_goals
      go_ret
      first | exact after_stay HS.out _ _ rfl | exact after_to HS.out _ _ _ rfl _ rfl | exact after_fail HP.out (by assumption)

set_option maxHeartbeats 400000 in
theorem st_esign (g : Nat) (m : Js.M) (c : Int) (h0 : 0 ≤ c) (h1 : c ≤ 255) (w : World) (h : Sc w g m) :
    Calls Tryz.prog 98 #[.pointer (some ⟨g, 0, none⟩), .int .u8 c] w (After g w (if dgI c then Js.to m .e0 0 else Js.fail m)) := by
  have HS := Lib.hid h
  obtain ⟨pv, ev, b, hp⟩ := h
  obtain ⟨c0, c1, c2, c3, c4, f0, f1, f2, f3, f4⟩ := hp.blk.cells
  have HP := Lib.hid hp
  clear hp c1 c2 c3 c4 f1 f2 f3 f4
  rcases dgI_cases c with ⟨hd, hd1, hd2⟩ | ⟨hd, hd1⟩ | ⟨hd, hd1⟩
  all_goals
    go_enter Tryz.func98, Tryz.ntmps98
    go_wp2_with (first | (go_at_call 76; refine (error_any g _ _ _ _ b c _ h0 h1 (by decide) _ HP.out.blk).mono ?_; rintro e w' ⟨rfl, he⟩))
    all_goals
      go_ret
      first | exact after_stay HS.out _ _ rfl | exact after_to HS.out _ _ _ rfl _ rfl | exact after_fail HP.out (by assumption)

set_option maxHeartbeats 400000 in
theorem st_err (g : Nat) (m : Js.M) (c : Int) (_h0 : 0 ≤ c) (_h1 : c ≤ 255) (w : World) (h : Sc w g m) :
    Calls Tryz.prog 87 #[.pointer (some ⟨g, 0, none⟩), .int .u8 c] w (After g w ((m, 11))) := by
  have HS := Lib.hid h
  obtain ⟨pv, ev, b, hp⟩ := h
  obtain ⟨c0, c1, c2, c3, c4, f0, f1, f2, f3, f4⟩ := hp.blk.cells
  have HP := Lib.hid hp
  clear hp c1 c2 c3 c4 f1 f2 f3 f4
  go_enter Tryz.func87, Tryz.ntmps87
  go_wp2_with (first | fail)
  all_goals
    go_ret
    first | exact after_stay HS.out _ _ rfl | exact after_to HS.out _ _ _ rfl _ rfl | exact after_fail HP.out (by assumption)

end Go.Proofs.YtlmhpmbgalmpgaaGreatDoor
