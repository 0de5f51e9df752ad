/-
  The scanner's states behind a value.
-/
import Derived.Test.YtlmhpmbgalmpgaaGreatDoorSc4
namespace Go.Proofs.YtlmhpmbgalmpgaaGreatDoor
open Go.RowKit

set_option maxHeartbeats 400000 in
theorem st_et (g : Nat) (m : Js.M) (c : Int) (h0 : 0 ≤ c) (h1 : c ≤ 255) (w : World) (h : Sc w g m) :
    Calls Tryz.prog 94 #[.pointer (some ⟨g, 0, none⟩), .int .u8 c] w (After g w (Js.stEt m c.toNat)) := by
  have HS := Lib.hid h
  obtain ⟨pv, ev, b, hp⟩ := h
  have HP := Lib.hid hp
  clear hp
  by_cases hs : spI c = true
  · have HE : Hid (Js.stEt m c.toNat = (m, 10)) := by show Js.stEt m c.toNat = (m, 10); unfold Js.stEt; rw [spI_sp c h0, if_pos hs]
    go_enter Tryz.func94, Tryz.ntmps94
    go_wp2_with (first | (go_at_call 65; refine (space_any c _).mono ?_; rintro e w' ⟨rfl, rfl⟩) | fail)
    go_ret
    rw [HE.out]
    exact after_stay HS.out _ _ rfl
  · have hs' : spI c = false := by simpa using hs
    clear hs
    have HE : Hid (Js.stEt m c.toNat = ((Js.fail m).1, 10)) := by show Js.stEt m c.toNat = ((Js.fail m).1, 10); unfold Js.stEt; rw [spI_sp c h0, hs']; rfl
    go_enter Tryz.func94, Tryz.ntmps94
    go_wp2_with (first | (go_at_call 65; refine (space_any c _).mono ?_; rintro e w' ⟨rfl, rfl⟩) | (go_at_call 76; refine (error_any g _ _ _ _ b c _ h0 h1 (by decide) _ HP.out.blk).mono ?_; rintro e w' ⟨rfl, he⟩))
    go_ret
    rw [HE.out]
    have he := after_fail HP.out (by assumption)
    exact ⟨rfl, he.2.1, he.2.2⟩

set_option maxRecDepth 100000 in
set_option maxHeartbeats 400000 in
theorem st_ev_nil (g : Nat) (m : Js.M) (hS : m.stk = []) (c : Int) (h0 : 0 ≤ c) (h1 : c ≤ 255) (w : World) (h : Sc w g m) :
    Calls Tryz.prog 79 #[.pointer (some ⟨g, 0, none⟩), .int .u8 c] w (After g w (Js.stEv m c.toNat)) := by
  obtain ⟨pv, ev, b, hp⟩ := h
  have ho := hp.own
  have hlen : ∃ a cap, pv = .slice a 0 cap := by
    rw [hS] at ho
    rcases ho.2 with ⟨hv, _⟩ | ⟨q, cap, cur, hv, _⟩
    · exact ⟨_, _, hv⟩
    · exact ⟨_, _, hv⟩
  obtain ⟨a, cap, hv⟩ := hlen
  have HE : Hid (Js.stEv m c.toNat = Js.stEt { m with st := .et, top := true } c.toNat) := by show Js.stEv m c.toNat = _; unfold Js.stEv; rw [hS]
  have h1' : ScP (w.setCell ⟨g, 0, none⟩ (.func (.func 94) #[] #[])) g { m with st := .et } (.slice a 0 cap) ev b := hv ▸ hp.set0 .et
  have h2' := h1'.set1 true
  obtain ⟨c0, c1, c2, c3, c4, f0, f1, f2, f3, f4⟩ := hp.blk.cells
  obtain ⟨d0, d1, d2, d3, d4, e0, e1, e2, e3, e4⟩ := h1'.blk.cells
  subst hv
  have H2 := Lib.hid h2'
  clear hS ho hp h1' h2' c3 c4 f2 f3 f4 d0 d2 d3 d4 e0 e2 e3 e4
  go_enter Tryz.func79, Tryz.ntmps79
  go_wp2_with (first | (go_at_call 94; refine (st_et g _ c h0 h1 _ ⟨_, _, _, H2.out⟩).mono ?_; rintro e w' ⟨rfl, hsc, hkp⟩) | fail)
  go_ret
  rw [HE.out]
  exact After.from ((kp_set (i := 0) (by decide) _).trans (kp_set (i := 1) (by decide) _)) ⟨rfl, hsc, hkp⟩

/-- What the states behind a value see of the scanner. -/
theorem ScP.look {w : World} {g : Nat} {m : Js.M} {pv ev : Value} {b : Int} (h : ScP w g m pv ev b) {p : Js.Ps} {S : List Js.Ps} (hS : m.stk = p :: S) :
    ∃ q cap n, n = S.length ∧ pv = .slice (some ⟨q, 0, none⟩) (n + 1) cap ∧ g + 1 ≤ q ∧ n + 1 ≤ cap ∧ cap ≤ 9223372036854775807 ∧ w.cell? ⟨q, n, none⟩ = some (.int .i64 (psI p)) ∧ w.frozen? ⟨q, n, none⟩ = false := by
  obtain ⟨q, cap, hv, hg, hc, hm, hcell, hf, _⟩ := h.peek hS
  exact ⟨q, cap, S.length, rfl, hv, hg, hc, hm, hcell, hf⟩

set_option maxRecDepth 100000 in
set_option maxHeartbeats 600000 in
theorem st_ev_key_sp (g : Nat) (m : Js.M) (S : List Js.Ps) (hS : m.stk = .key :: S) (c : Int) (h0 : 0 ≤ c) (_h1 : c ≤ 255) (hs : spI c = true) (w : World) (h : Sc w g m) :
    Calls Tryz.prog 79 #[.pointer (some ⟨g, 0, none⟩), .int .u8 c] w (After g w (Js.stEv m c.toNat)) := by
  have HSC := Lib.hid h
  obtain ⟨pv, ev, b, hp⟩ := h
  obtain ⟨q, cap, n, hn, hv, hg, hcap, hcm, hcell, hfr⟩ := hp.look hS
  simp only [psI] at hcell
  have HE : Hid (Js.stEv m c.toNat = ({ m with st := .ev }, 9)) := by
    show Js.stEv m c.toNat = ({ m with st := .ev }, 9)
    unfold Js.stEv
    rw [hS]
    simp only [spI_sp c h0, hs, reduceIte]
  have HM := Lib.hid hS
  obtain ⟨c0, c1, c2, c3, c4, f0, f1, f2, f3, f4⟩ := hp.blk.cells
  have HP := Lib.hid hp
  have HN := Lib.hid hn
  subst hv
  clear hS hp hn c1 c3 c4 f1 f2 f3 f4
  go_enter Tryz.func79, Tryz.ntmps79
  go_wp2_with (first | (go_at_call 65; refine (space_any c _).mono ?_; rintro e w' ⟨rfl, rfl⟩))
  go_ret
  rw [HE.out]
  exact after_to HSC.out .ev 9 _ rfl _ rfl

set_option maxRecDepth 100000 in
set_option maxHeartbeats 600000 in
theorem st_ev_val_sp (g : Nat) (m : Js.M) (S : List Js.Ps) (hS : m.stk = .val :: S) (c : Int) (h0 : 0 ≤ c) (_h1 : c ≤ 255) (hs : spI c = true) (w : World) (h : Sc w g m) :
    Calls Tryz.prog 79 #[.pointer (some ⟨g, 0, none⟩), .int .u8 c] w (After g w (Js.stEv m c.toNat)) := by
  have HSC := Lib.hid h
  obtain ⟨pv, ev, b, hp⟩ := h
  obtain ⟨q, cap, n, hn, hv, hg, hcap, hcm, hcell, hfr⟩ := hp.look hS
  simp only [psI] at hcell
  have HE : Hid (Js.stEv m c.toNat = ({ m with st := .ev }, 9)) := by
    show Js.stEv m c.toNat = ({ m with st := .ev }, 9)
    unfold Js.stEv
    rw [hS]
    simp only [spI_sp c h0, hs, reduceIte]
  have HM := Lib.hid hS
  obtain ⟨c0, c1, c2, c3, c4, f0, f1, f2, f3, f4⟩ := hp.blk.cells
  have HP := Lib.hid hp
  have HN := Lib.hid hn
  subst hv
  clear hS hp hn c1 c3 c4 f1 f2 f3 f4
  go_enter Tryz.func79, Tryz.ntmps79
  go_wp2_with (first | (go_at_call 65; refine (space_any c _).mono ?_; rintro e w' ⟨rfl, rfl⟩))
  go_ret
  rw [HE.out]
  exact after_to HSC.out .ev 9 _ rfl _ rfl

set_option maxRecDepth 100000 in
set_option maxHeartbeats 600000 in
theorem st_ev_arr_sp (g : Nat) (m : Js.M) (S : List Js.Ps) (hS : m.stk = .arr :: S) (c : Int) (h0 : 0 ≤ c) (_h1 : c ≤ 255) (hs : spI c = true) (w : World) (h : Sc w g m) :
    Calls Tryz.prog 79 #[.pointer (some ⟨g, 0, none⟩), .int .u8 c] w (After g w (Js.stEv m c.toNat)) := by
  have HSC := Lib.hid h
  obtain ⟨pv, ev, b, hp⟩ := h
  obtain ⟨q, cap, n, hn, hv, hg, hcap, hcm, hcell, hfr⟩ := hp.look hS
  simp only [psI] at hcell
  have HE : Hid (Js.stEv m c.toNat = ({ m with st := .ev }, 9)) := by
    show Js.stEv m c.toNat = ({ m with st := .ev }, 9)
    unfold Js.stEv
    rw [hS]
    simp only [spI_sp c h0, hs, reduceIte]
  have HM := Lib.hid hS
  obtain ⟨c0, c1, c2, c3, c4, f0, f1, f2, f3, f4⟩ := hp.blk.cells
  have HP := Lib.hid hp
  have HN := Lib.hid hn
  subst hv
  clear hS hp hn c1 c3 c4 f1 f2 f3 f4
  go_enter Tryz.func79, Tryz.ntmps79
  go_wp2_with (first | (go_at_call 65; refine (space_any c _).mono ?_; rintro e w' ⟨rfl, rfl⟩))
  go_ret
  rw [HE.out]
  exact after_to HSC.out .ev 9 _ rfl _ rfl

set_option maxRecDepth 100000 in
set_option maxHeartbeats 600000 in
theorem st_ev_key_no (g : Nat) (m : Js.M) (S : List Js.Ps) (hS : m.stk = .key :: S) (c : Int) (h0 : 0 ≤ c) (h1 : c ≤ 255) (hs : spI c = false) (h58 : (c == 58) = false) (w : World) (h : Sc w g m) :
    Calls Tryz.prog 79 #[.pointer (some ⟨g, 0, none⟩), .int .u8 c] w (After g w (Js.stEv m c.toNat)) := by
  have HSC := Lib.hid h
  obtain ⟨pv, ev, b, hp⟩ := h
  obtain ⟨q, cap, n, hn, hv, hg, hcap, hcm, hcell, hfr⟩ := hp.look hS
  simp only [psI] at hcell
  have HE : Hid (Js.stEv m c.toNat = Js.fail m) := by
    show Js.stEv m c.toNat = Js.fail m
    unfold Js.stEv
    rw [hS]
    simp only [spI_sp c h0, hs, show (c.toNat == 58) = (c == 58) from tn h0 58, h58, reduceIte, Bool.false_eq_true]
  have HM := Lib.hid hS
  obtain ⟨c0, c1, c2, c3, c4, f0, f1, f2, f3, f4⟩ := hp.blk.cells
  have HP := Lib.hid hp
  have HN := Lib.hid hn
  subst hv
  clear hS hp hn c1 c3 c4 f1 f2 f3 f4
  go_enter Tryz.func79, Tryz.ntmps79
  go_wp2_with (first | (go_at_call 65; refine (space_any c _).mono ?_; rintro e w' ⟨rfl, rfl⟩) | (go_at_call 76; refine (error_any g _ _ _ _ b c _ h0 h1 (by decide) _ HP.out.blk).mono ?_; rintro e w' ⟨rfl, he⟩))
  go_ret
  rw [HE.out]
  exact after_fail HP.out (by assumption)

set_option maxRecDepth 100000 in
set_option maxHeartbeats 600000 in
theorem st_ev_val_no (g : Nat) (m : Js.M) (S : List Js.Ps) (hS : m.stk = .val :: S) (c : Int) (h0 : 0 ≤ c) (h1 : c ≤ 255) (hs : spI c = false) (h44 : (c == 44) = false) (h125 : (c == 125) = false) (w : World) (h : Sc w g m) :
    Calls Tryz.prog 79 #[.pointer (some ⟨g, 0, none⟩), .int .u8 c] w (After g w (Js.stEv m c.toNat)) := by
  have HSC := Lib.hid h
  obtain ⟨pv, ev, b, hp⟩ := h
  obtain ⟨q, cap, n, hn, hv, hg, hcap, hcm, hcell, hfr⟩ := hp.look hS
  simp only [psI] at hcell
  have HE : Hid (Js.stEv m c.toNat = Js.fail m) := by
    show Js.stEv m c.toNat = Js.fail m
    unfold Js.stEv
    rw [hS]
    simp only [spI_sp c h0, hs, show (c.toNat == 44) = (c == 44) from tn h0 44, h44, show (c.toNat == 125) = (c == 125) from tn h0 125, h125, reduceIte, Bool.false_eq_true]
  have HM := Lib.hid hS
  obtain ⟨c0, c1, c2, c3, c4, f0, f1, f2, f3, f4⟩ := hp.blk.cells
  have HP := Lib.hid hp
  have HN := Lib.hid hn
  subst hv
  clear hS hp hn c1 c3 c4 f1 f2 f3 f4
  go_enter Tryz.func79, Tryz.ntmps79
  go_wp2_with (first | (go_at_call 65; refine (space_any c _).mono ?_; rintro e w' ⟨rfl, rfl⟩) | (go_at_call 76; refine (error_any g _ _ _ _ b c _ h0 h1 (by decide) _ HP.out.blk).mono ?_; rintro e w' ⟨rfl, he⟩))
  go_ret
  rw [HE.out]
  exact after_fail HP.out (by assumption)

set_option maxRecDepth 100000 in
set_option maxHeartbeats 600000 in
theorem st_ev_arr_no (g : Nat) (m : Js.M) (S : List Js.Ps) (hS : m.stk = .arr :: S) (c : Int) (h0 : 0 ≤ c) (h1 : c ≤ 255) (hs : spI c = false) (h44 : (c == 44) = false) (h93 : (c == 93) = false) (w : World) (h : Sc w g m) :
    Calls Tryz.prog 79 #[.pointer (some ⟨g, 0, none⟩), .int .u8 c] w (After g w (Js.stEv m c.toNat)) := by
  have HSC := Lib.hid h
  obtain ⟨pv, ev, b, hp⟩ := h
  obtain ⟨q, cap, n, hn, hv, hg, hcap, hcm, hcell, hfr⟩ := hp.look hS
  simp only [psI] at hcell
  have HE : Hid (Js.stEv m c.toNat = Js.fail m) := by
    show Js.stEv m c.toNat = Js.fail m
    unfold Js.stEv
    rw [hS]
    simp only [spI_sp c h0, hs, show (c.toNat == 44) = (c == 44) from tn h0 44, h44, show (c.toNat == 93) = (c == 93) from tn h0 93, h93, reduceIte, Bool.false_eq_true]
  have HM := Lib.hid hS
  obtain ⟨c0, c1, c2, c3, c4, f0, f1, f2, f3, f4⟩ := hp.blk.cells
  have HP := Lib.hid hp
  have HN := Lib.hid hn
  subst hv
  clear hS hp hn c1 c3 c4 f1 f2 f3 f4
  go_enter Tryz.func79, Tryz.ntmps79
  go_wp2_with (first | (go_at_call 65; refine (space_any c _).mono ?_; rintro e w' ⟨rfl, rfl⟩) | (go_at_call 76; refine (error_any g _ _ _ _ b c _ h0 h1 (by decide) _ HP.out.blk).mono ?_; rintro e w' ⟨rfl, he⟩))
  go_ret
  rw [HE.out]
  exact after_fail HP.out (by assumption)

set_option maxRecDepth 100000 in
set_option maxHeartbeats 600000 in
theorem st_ev_key_58 (g : Nat) (m : Js.M) (S : List Js.Ps) (hS : m.stk = .key :: S) (c : Int) (h0 : 0 ≤ c) (_h1 : c ≤ 255) (hs : spI c = false) (h58 : (c == 58) = true) (w : World) (h : Sc w g m) :
    Calls Tryz.prog 79 #[.pointer (some ⟨g, 0, none⟩), .int .u8 c] w (After g w (Js.stEv m c.toNat)) := by
  have HSC := Lib.hid h
  obtain ⟨pv, ev, b, hp⟩ := h
  obtain ⟨q, cap, n, hn, hv, hg, hcap, hcm, hcell, hfr⟩ := hp.look hS
  simp only [psI] at hcell
  have HE : Hid (Js.stEv m c.toNat = ({ m with st := .bv, stk := .val :: S }, 3)) := by
    show Js.stEv m c.toNat = ({ m with st := .bv, stk := .val :: S }, 3)
    unfold Js.stEv
    rw [hS]
    simp only [spI_sp c h0, hs, show (c.toNat == 58) = (c == 58) from tn h0 58, h58, reduceIte, Bool.false_eq_true]
  have HM := Lib.hid hS
  have hk := hp.poke hS .val (q := q) (cap := cap) (by rw [hv, hn])
  simp only [psI, ← hn] at hk
  have HK := Lib.hid hk
  obtain ⟨k0, _, _, _, _, l0, _, _, _, _⟩ := hk.1.blk.cells
  clear hk
  obtain ⟨c0, c1, c2, c3, c4, f0, f1, f2, f3, f4⟩ := hp.blk.cells
  have HP := Lib.hid hp
  have HN := Lib.hid hn
  subst hv
  clear hS hp hn c1 c3 c4 f1 f2 f3 f4
  go_enter Tryz.func79, Tryz.ntmps79
  go_wp2_with (first | (go_at_call 65; refine (space_any c _).mono ?_; rintro e w' ⟨rfl, rfl⟩))
  go_ret
  rw [HE.out]
  exact ⟨rfl, ⟨_, _, _, HK.out.1.set0 .bv⟩, HK.out.2.trans (kp_set (i := 0) (by decide) _)⟩

set_option maxRecDepth 100000 in
set_option maxHeartbeats 600000 in
theorem st_ev_val_44 (g : Nat) (m : Js.M) (S : List Js.Ps) (hS : m.stk = .val :: S) (c : Int) (h0 : 0 ≤ c) (_h1 : c ≤ 255) (hs : spI c = false) (h44 : (c == 44) = true) (w : World) (h : Sc w g m) :
    Calls Tryz.prog 79 #[.pointer (some ⟨g, 0, none⟩), .int .u8 c] w (After g w (Js.stEv m c.toNat)) := by
  have HSC := Lib.hid h
  obtain ⟨pv, ev, b, hp⟩ := h
  obtain ⟨q, cap, n, hn, hv, hg, hcap, hcm, hcell, hfr⟩ := hp.look hS
  simp only [psI] at hcell
  have HE : Hid (Js.stEv m c.toNat = ({ m with st := .bs, stk := .key :: S }, 4)) := by
    show Js.stEv m c.toNat = ({ m with st := .bs, stk := .key :: S }, 4)
    unfold Js.stEv
    rw [hS]
    simp only [spI_sp c h0, hs, show (c.toNat == 44) = (c == 44) from tn h0 44, h44, reduceIte, Bool.false_eq_true]
  have HM := Lib.hid hS
  have hk := hp.poke hS .key (q := q) (cap := cap) (by rw [hv, hn])
  simp only [psI, ← hn] at hk
  have HK := Lib.hid hk
  obtain ⟨k0, _, _, _, _, l0, _, _, _, _⟩ := hk.1.blk.cells
  clear hk
  obtain ⟨c0, c1, c2, c3, c4, f0, f1, f2, f3, f4⟩ := hp.blk.cells
  have HP := Lib.hid hp
  have HN := Lib.hid hn
  subst hv
  clear hS hp hn c1 c3 c4 f1 f2 f3 f4
  go_enter Tryz.func79, Tryz.ntmps79
  go_wp2_with (first | (go_at_call 65; refine (space_any c _).mono ?_; rintro e w' ⟨rfl, rfl⟩))
  go_ret
  rw [HE.out]
  exact ⟨rfl, ⟨_, _, _, HK.out.1.set0 .bs⟩, HK.out.2.trans (kp_set (i := 0) (by decide) _)⟩

set_option maxRecDepth 100000 in
set_option maxHeartbeats 600000 in
theorem st_ev_arr_44 (g : Nat) (m : Js.M) (S : List Js.Ps) (hS : m.stk = .arr :: S) (c : Int) (h0 : 0 ≤ c) (_h1 : c ≤ 255) (hs : spI c = false) (h44 : (c == 44) = true) (w : World) (h : Sc w g m) :
    Calls Tryz.prog 79 #[.pointer (some ⟨g, 0, none⟩), .int .u8 c] w (After g w (Js.stEv m c.toNat)) := by
  have HSC := Lib.hid h
  obtain ⟨pv, ev, b, hp⟩ := h
  obtain ⟨q, cap, n, hn, hv, hg, hcap, hcm, hcell, hfr⟩ := hp.look hS
  simp only [psI] at hcell
  have HE : Hid (Js.stEv m c.toNat = ({ m with st := .bv }, 7)) := by
    show Js.stEv m c.toNat = ({ m with st := .bv }, 7)
    unfold Js.stEv
    rw [hS]
    simp only [spI_sp c h0, hs, show (c.toNat == 44) = (c == 44) from tn h0 44, h44, reduceIte, Bool.false_eq_true]
  have HM := Lib.hid hS
  obtain ⟨c0, c1, c2, c3, c4, f0, f1, f2, f3, f4⟩ := hp.blk.cells
  have HP := Lib.hid hp
  have HN := Lib.hid hn
  subst hv
  clear hS hp hn c1 c3 c4 f1 f2 f3 f4
  go_enter Tryz.func79, Tryz.ntmps79
  go_wp2_with (first | (go_at_call 65; refine (space_any c _).mono ?_; rintro e w' ⟨rfl, rfl⟩))
  go_ret
  rw [HE.out]
  exact after_to HSC.out .bv 7 _ rfl _ rfl

set_option maxRecDepth 100000 in
set_option maxHeartbeats 600000 in
theorem st_ev_val_125 (g : Nat) (m : Js.M) (S : List Js.Ps) (hS : m.stk = .val :: S) (c : Int) (h0 : 0 ≤ c) (_h1 : c ≤ 255) (hs : spI c = false) (h44 : (c == 44) = false) (h125 : (c == 125) = true) (w : World) (h : Sc w g m) :
    Calls Tryz.prog 79 #[.pointer (some ⟨g, 0, none⟩), .int .u8 c] w (After g w (Js.stEv m c.toNat)) := by
  have HSC := Lib.hid h
  obtain ⟨pv, ev, b, hp⟩ := h
  obtain ⟨q, cap, n, hn, hv, hg, hcap, hcm, hcell, hfr⟩ := hp.look hS
  simp only [psI] at hcell
  have HE : Hid (Js.stEv m c.toNat = (Js.pop m, 5)) := by
    show Js.stEv m c.toNat = (Js.pop m, 5)
    unfold Js.stEv
    rw [hS]
    simp only [spI_sp c h0, hs, show (c.toNat == 44) = (c == 44) from tn h0 44, h44, show (c.toNat == 125) = (c == 125) from tn h0 125, h125, reduceIte, Bool.false_eq_true]
  have HM := Lib.hid hS
  obtain ⟨c0, c1, c2, c3, c4, f0, f1, f2, f3, f4⟩ := hp.blk.cells
  have HP := Lib.hid hp
  have HN := Lib.hid hn
  subst hv
  clear hS hp hn c1 c3 c4 f1 f2 f3 f4
  go_enter Tryz.func79, Tryz.ntmps79
  go_wp2_with (first | (go_at_call 65; refine (space_any c _).mono ?_; rintro e w' ⟨rfl, rfl⟩) | (go_at_call 95; refine (pop_any g m _ S HM.out _ HSC.out).mono ?_; rintro e w' ⟨rfl, hsc, hkp⟩))
  go_ret
  rw [HE.out]
  exact ⟨rfl, hsc, hkp⟩

set_option maxRecDepth 100000 in
set_option maxHeartbeats 600000 in
theorem st_ev_arr_93 (g : Nat) (m : Js.M) (S : List Js.Ps) (hS : m.stk = .arr :: S) (c : Int) (h0 : 0 ≤ c) (_h1 : c ≤ 255) (hs : spI c = false) (h44 : (c == 44) = false) (h93 : (c == 93) = true) (w : World) (h : Sc w g m) :
    Calls Tryz.prog 79 #[.pointer (some ⟨g, 0, none⟩), .int .u8 c] w (After g w (Js.stEv m c.toNat)) := by
  have HSC := Lib.hid h
  obtain ⟨pv, ev, b, hp⟩ := h
  obtain ⟨q, cap, n, hn, hv, hg, hcap, hcm, hcell, hfr⟩ := hp.look hS
  simp only [psI] at hcell
  have HE : Hid (Js.stEv m c.toNat = (Js.pop m, 8)) := by
    show Js.stEv m c.toNat = (Js.pop m, 8)
    unfold Js.stEv
    rw [hS]
    simp only [spI_sp c h0, hs, show (c.toNat == 44) = (c == 44) from tn h0 44, h44, show (c.toNat == 93) = (c == 93) from tn h0 93, h93, reduceIte, Bool.false_eq_true]
  have HM := Lib.hid hS
  obtain ⟨c0, c1, c2, c3, c4, f0, f1, f2, f3, f4⟩ := hp.blk.cells
  have HP := Lib.hid hp
  have HN := Lib.hid hn
  subst hv
  clear hS hp hn c1 c3 c4 f1 f2 f3 f4
  go_enter Tryz.func79, Tryz.ntmps79
  go_wp2_with (first | (go_at_call 65; refine (space_any c _).mono ?_; rintro e w' ⟨rfl, rfl⟩) | (go_at_call 95; refine (pop_any g m _ S HM.out _ HSC.out).mono ?_; rintro e w' ⟨rfl, hsc, hkp⟩))
  go_ret
  rw [HE.out]
  exact ⟨rfl, hsc, hkp⟩

theorem beq_or (a b : Int) : (a == b) = true ∨ (a == b) = false := by cases (a == b) <;> simp

theorem st_ev (g : Nat) (m : Js.M) (c : Int) (h0 : 0 ≤ c) (h1 : c ≤ 255) (w : World) (h : Sc w g m) :
    Calls Tryz.prog 79 #[.pointer (some ⟨g, 0, none⟩), .int .u8 c] w (After g w (Js.stEv m c.toNat)) := by
  cases hS : m.stk with
  | nil => exact st_ev_nil g m hS c h0 h1 w h
  | cons p S =>
    cases hs : spI c with
    | true =>
      cases p with
      | key => exact st_ev_key_sp g m S hS c h0 h1 hs w h
      | val => exact st_ev_val_sp g m S hS c h0 h1 hs w h
      | arr => exact st_ev_arr_sp g m S hS c h0 h1 hs w h
    | false =>
      cases p with
      | key =>
        rcases beq_or c 58 with h2 | h2
        · exact st_ev_key_58 g m S hS c h0 h1 hs h2 w h
        · exact st_ev_key_no g m S hS c h0 h1 hs h2 w h
      | val =>
        rcases beq_or c 44 with h2 | h2
        · exact st_ev_val_44 g m S hS c h0 h1 hs h2 w h
        · rcases beq_or c 125 with h3 | h3
          · exact st_ev_val_125 g m S hS c h0 h1 hs h2 h3 w h
          · exact st_ev_val_no g m S hS c h0 h1 hs h2 h3 w h
      | arr =>
        rcases beq_or c 44 with h2 | h2
        · exact st_ev_arr_44 g m S hS c h0 h1 hs h2 w h
        · rcases beq_or c 93 with h3 | h3
          · exact st_ev_arr_93 g m S hS c h0 h1 hs h2 h3 w h
          · exact st_ev_arr_no g m S hS c h0 h1 hs h2 h3 w h

end Go.Proofs.YtlmhpmbgalmpgaaGreatDoor
