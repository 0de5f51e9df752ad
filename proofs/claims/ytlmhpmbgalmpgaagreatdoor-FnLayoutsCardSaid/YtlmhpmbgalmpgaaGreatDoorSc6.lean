/-
  The scanner's states at the beginning of a value, and within numbers.
-/
import Derived.Test.YtlmhpmbgalmpgaaGreatDoorSc5
namespace Go.Proofs.YtlmhpmbgalmpgaaGreatDoor
open Go.RowKit

theorem dg1_cases (c : Int) : (c == 48) = true ∨ (c == 48) = false ∧ dgI c = true ∧ 49 ≤ c ∧ c ≤ 57 ∨ (c == 48) = false ∧ dgI c = false ∧ c < 49 ∧ c < 48 ∨ (c == 48) = false ∧ dgI c = false ∧ 57 < c ∧ 57 < c := by
  rcases beq_or c 48 with h | h
  · exact .inl h
  · have h' : ¬ c = 48 := by simpa using h
    rcases dgI_cases c with ⟨hd, h1, h2⟩ | ⟨hd, h1⟩ | ⟨hd, h1⟩
    · exact .inr (.inl ⟨h, hd, by omega, h2⟩)
    · exact .inr (.inr (.inl ⟨h, hd, by omega, h1⟩))
    · exact .inr (.inr (.inr ⟨h, hd, h1, h1⟩))

theorem push_st (m : Js.M) (s : Js.St) (p : Js.Ps) (st : Js.St) (n : Nat) : Js.push { m with st := s } p st n = Js.push m p st n := by
  unfold Js.push Js.fail
  rfl

def escP (m : Js.M) (c : Int) : Js.M × Nat := if c == 98 || c == 102 || c == 110 || c == 114 || c == 116 || c == 92 || c == 47 || c == 34 then Js.to m .str 0 else if c == 117 then Js.to m .u0 0 else Js.fail m
def negP (m : Js.M) (c : Int) : Js.M × Nat := if c == 48 then Js.to m .n0 0 else if dgI c then Js.to m .n1 0 else Js.fail m
def n0P (m : Js.M) (c : Int) : Js.M × Nat := if c == 46 then Js.to m .dot 0 else if c == 101 || c == 69 then Js.to m .e 0 else Js.stEv m c.toNat
def n1P (m : Js.M) (c : Int) : Js.M × Nat := if dgI c then Js.to m .n1 0 else n0P m c
def dot0P (m : Js.M) (c : Int) : Js.M × Nat := if dgI c then (m, 0) else if c == 101 || c == 69 then Js.to m .e 0 else Js.stEv m c.toNat
def esP (m : Js.M) (c : Int) : Js.M × Nat := if dgI c then Js.to m .e0 0 else Js.fail m
def eP (m : Js.M) (c : Int) : Js.M × Nat := if c == 43 || c == 45 then Js.to m .esign 0 else esP m c
def e0P (m : Js.M) (c : Int) : Js.M × Nat := if dgI c then (m, 0) else Js.stEv m c.toNat
def bsP (m : Js.M) (c : Int) : Js.M × Nat := if spI c then (m, 9) else if c == 34 then Js.to m .str 1 else Js.fail m
def bvP (m : Js.M) (c : Int) : Js.M × Nat :=
  if spI c then (m, 9) else if c == 123 then Js.push m .key .bsoe 2 else if c == 91 then Js.push m .arr .bvoe 6 else if c == 34 then Js.to m .str 1
  else if c == 45 then Js.to m .neg 1 else if c == 48 then Js.to m .n0 1 else if c == 116 then Js.to m .t 1 else if c == 102 then Js.to m .f 1
  else if c == 110 then Js.to m .n 1 else if dgI c then Js.to m .n1 1 else Js.fail m
def bvoeP (m : Js.M) (c : Int) : Js.M × Nat := if spI c then (m, 9) else if c == 93 then Js.stEv m c.toNat else bvP m c
def bsoeP (m : Js.M) (c : Int) : Js.M × Nat := if spI c then (m, 9) else if c == 125 then Js.stEv (Js.setVal m) c.toNat else bsP m c

set_option maxRecDepth 100000 in
set_option maxHeartbeats 2000000 in
theorem st_esc (g : Nat) (m : Js.M) (c : Int) (h0 : 0 ≤ c) (h1 : c ≤ 255) (w : World) (h : Sc w g m) :
    Calls Tryz.prog 81 #[.pointer (some ⟨g, 0, none⟩), .int .u8 c] w (After g w (escP m c)) := by
  have HS := Lib.hid h
  obtain ⟨pv, ev, b, hp⟩ := h
  obtain ⟨c0, c1, c2, c3, c4, f0, f1, f2, f3, f4⟩ := hp.blk.cells
  have HP := Lib.hid hp
  clear hp c1 c2 c3 c4 f1 f2 f3 f4
  have key : ((c == 98) = true) ∨ ((c == 98) = false ∧ (c == 102) = true) ∨ ((c == 98) = false ∧ (c == 102) = false ∧ (c == 110) = true) ∨ ((c == 98) = false ∧ (c == 102) = false ∧ (c == 110) = false ∧ (c == 114) = true) ∨ ((c == 98) = false ∧ (c == 102) = false ∧ (c == 110) = false ∧ (c == 114) = false ∧ (c == 116) = true) ∨ ((c == 98) = false ∧ (c == 102) = false ∧ (c == 110) = false ∧ (c == 114) = false ∧ (c == 116) = false ∧ (c == 92) = true) ∨ ((c == 98) = false ∧ (c == 102) = false ∧ (c == 110) = false ∧ (c == 114) = false ∧ (c == 116) = false ∧ (c == 92) = false ∧ (c == 47) = true) ∨ ((c == 98) = false ∧ (c == 102) = false ∧ (c == 110) = false ∧ (c == 114) = false ∧ (c == 116) = false ∧ (c == 92) = false ∧ (c == 47) = false ∧ (c == 34) = true) ∨ ((c == 98) = false ∧ (c == 102) = false ∧ (c == 110) = false ∧ (c == 114) = false ∧ (c == 116) = false ∧ (c == 92) = false ∧ (c == 47) = false ∧ (c == 34) = false ∧ (c == 117) = true) ∨ ((c == 98) = false ∧ (c == 102) = false ∧ (c == 110) = false ∧ (c == 114) = false ∧ (c == 116) = false ∧ (c == 92) = false ∧ (c == 47) = false ∧ (c == 34) = false ∧ (c == 117) = false) := by
    cases q98 : (c == 98) with
    | true => simp
    | false =>
      cases q102 : (c == 102) with
      | true => simp
      | false =>
        cases q110 : (c == 110) with
        | true => simp
        | false =>
          cases q114 : (c == 114) with
          | true => simp
          | false =>
            cases q116 : (c == 116) with
            | true => simp
            | false =>
              cases q92 : (c == 92) with
              | true => simp
              | false =>
                cases q47 : (c == 47) with
                | true => simp
                | false =>
                  cases q34 : (c == 34) with
                  | true => simp
                  | false =>
                    cases q117 : (c == 117) with
                    | true => simp
                    | false =>
                      simp
  rcases key with h98 | ⟨h98, h102⟩ | ⟨h98, h102, h110⟩ | ⟨h98, h102, h110, h114⟩ | ⟨h98, h102, h110, h114, h116⟩ | ⟨h98, h102, h110, h114, h116, h92⟩ | ⟨h98, h102, h110, h114, h116, h92, h47⟩ | ⟨h98, h102, h110, h114, h116, h92, h47, h34⟩ | ⟨h98, h102, h110, h114, h116, h92, h47, h34, h117⟩ | ⟨h98, h102, h110, h114, h116, h92, h47, h34, h117⟩
  · have HE : Hid (escP m c = Js.to m .str 0) := by
      show escP m c = Js.to m .str 0
      unfold escP
      simp only [h98]
      rfl
    go_enter Tryz.func81, Tryz.ntmps81
    go_wp2_with (first | (go_at_call 76; refine (error_any g _ _ _ _ b c _ h0 h1 (by decide) _ HP.out.blk).mono ?_; rintro e w' ⟨rfl, he⟩))
    go_ret
    rw [HE.out]
    exact after_to HS.out .str _ _ rfl _ rfl
  · have HE : Hid (escP m c = Js.to m .str 0) := by
      show escP m c = Js.to m .str 0
      unfold escP
      simp only [h98, h102]
      rfl
    go_enter Tryz.func81, Tryz.ntmps81
    go_wp2_with (first | (go_at_call 76; refine (error_any g _ _ _ _ b c _ h0 h1 (by decide) _ HP.out.blk).mono ?_; rintro e w' ⟨rfl, he⟩))
    go_ret
    rw [HE.out]
    exact after_to HS.out .str _ _ rfl _ rfl
  · have HE : Hid (escP m c = Js.to m .str 0) := by
      show escP m c = Js.to m .str 0
      unfold escP
      simp only [h98, h102, h110]
      rfl
    go_enter Tryz.func81, Tryz.ntmps81
    go_wp2_with (first | (go_at_call 76; refine (error_any g _ _ _ _ b c _ h0 h1 (by decide) _ HP.out.blk).mono ?_; rintro e w' ⟨rfl, he⟩))
    go_ret
    rw [HE.out]
    exact after_to HS.out .str _ _ rfl _ rfl
  · have HE : Hid (escP m c = Js.to m .str 0) := by
      show escP m c = Js.to m .str 0
      unfold escP
      simp only [h98, h102, h110, h114]
      rfl
    go_enter Tryz.func81, Tryz.ntmps81
    go_wp2_with (first | (go_at_call 76; refine (error_any g _ _ _ _ b c _ h0 h1 (by decide) _ HP.out.blk).mono ?_; rintro e w' ⟨rfl, he⟩))
    go_ret
    rw [HE.out]
    exact after_to HS.out .str _ _ rfl _ rfl
  · have HE : Hid (escP m c = Js.to m .str 0) := by
      show escP m c = Js.to m .str 0
      unfold escP
      simp only [h98, h102, h110, h114, h116]
      rfl
    go_enter Tryz.func81, Tryz.ntmps81
    go_wp2_with (first | (go_at_call 76; refine (error_any g _ _ _ _ b c _ h0 h1 (by decide) _ HP.out.blk).mono ?_; rintro e w' ⟨rfl, he⟩))
    go_ret
    rw [HE.out]
    exact after_to HS.out .str _ _ rfl _ rfl
  · have HE : Hid (escP m c = Js.to m .str 0) := by
      show escP m c = Js.to m .str 0
      unfold escP
      simp only [h98, h102, h110, h114, h116, h92]
      rfl
    go_enter Tryz.func81, Tryz.ntmps81
    go_wp2_with (first | (go_at_call 76; refine (error_any g _ _ _ _ b c _ h0 h1 (by decide) _ HP.out.blk).mono ?_; rintro e w' ⟨rfl, he⟩))
    go_ret
    rw [HE.out]
    exact after_to HS.out .str _ _ rfl _ rfl
  · have HE : Hid (escP m c = Js.to m .str 0) := by
      show escP m c = Js.to m .str 0
      unfold escP
      simp only [h98, h102, h110, h114, h116, h92, h47]
      rfl
    go_enter Tryz.func81, Tryz.ntmps81
    go_wp2_with (first | (go_at_call 76; refine (error_any g _ _ _ _ b c _ h0 h1 (by decide) _ HP.out.blk).mono ?_; rintro e w' ⟨rfl, he⟩))
    go_ret
    rw [HE.out]
    exact after_to HS.out .str _ _ rfl _ rfl
  · have HE : Hid (escP m c = Js.to m .str 0) := by
      show escP m c = Js.to m .str 0
      unfold escP
      simp only [h98, h102, h110, h114, h116, h92, h47, h34]
      rfl
    go_enter Tryz.func81, Tryz.ntmps81
    go_wp2_with (first | (go_at_call 76; refine (error_any g _ _ _ _ b c _ h0 h1 (by decide) _ HP.out.blk).mono ?_; rintro e w' ⟨rfl, he⟩))
    go_ret
    rw [HE.out]
    exact after_to HS.out .str _ _ rfl _ rfl
  · have HE : Hid (escP m c = Js.to m .u0 0) := by
      show escP m c = Js.to m .u0 0
      unfold escP
      simp only [h98, h102, h110, h114, h116, h92, h47, h34, h117]
      rfl
    go_enter Tryz.func81, Tryz.ntmps81
    go_wp2_with (first | (go_at_call 76; refine (error_any g _ _ _ _ b c _ h0 h1 (by decide) _ HP.out.blk).mono ?_; rintro e w' ⟨rfl, he⟩))
    go_ret
    rw [HE.out]
    exact after_to HS.out .u0 _ _ rfl _ rfl
  · have HE : Hid (escP m c = Js.fail m) := by
      show escP m c = Js.fail m
      unfold escP
      simp only [h98, h102, h110, h114, h116, h92, h47, h34, h117]
      rfl
    go_enter Tryz.func81, Tryz.ntmps81
    go_wp2_with (first | (go_at_call 76; refine (error_any g _ _ _ _ b c _ h0 h1 (by decide) _ HP.out.blk).mono ?_; rintro e w' ⟨rfl, he⟩))
    go_ret
    rw [HE.out]
    exact after_fail HP.out he

set_option maxRecDepth 100000 in
set_option maxHeartbeats 2000000 in
theorem st_neg (g : Nat) (m : Js.M) (c : Int) (h0 : 0 ≤ c) (h1 : c ≤ 255) (w : World) (h : Sc w g m) :
    Calls Tryz.prog 70 #[.pointer (some ⟨g, 0, none⟩), .int .u8 c] w (After g w (negP m c)) := by
  have HS := Lib.hid h
  obtain ⟨pv, ev, b, hp⟩ := h
  obtain ⟨c0, c1, c2, c3, c4, f0, f1, f2, f3, f4⟩ := hp.blk.cells
  have HP := Lib.hid hp
  clear hp c1 c2 c3 c4 f1 f2 f3 f4
  rcases dg1_cases c with hz | ⟨hz, hd, hd1, hd2⟩ | ⟨hz, hd, hd1, hd2⟩ | ⟨hz, hd, hd1, hd2⟩
  · have HE : Hid (negP m c = Js.to m .n0 0) := by
      show negP m c = Js.to m .n0 0
      unfold negP
      simp only [hz]
      rfl
    go_enter Tryz.func70, Tryz.ntmps70
    go_wp2_with (first | (go_at_call 76; refine (error_any g _ _ _ _ b c _ h0 h1 (by decide) _ HP.out.blk).mono ?_; rintro e w' ⟨rfl, he⟩))
    go_ret
    rw [HE.out]
    exact after_to HS.out .n0 _ _ rfl _ rfl
  · have HE : Hid (negP m c = Js.to m .n1 0) := by
      show negP m c = Js.to m .n1 0
      unfold negP
      simp only [hz, hd]
      rfl
    go_enter Tryz.func70, Tryz.ntmps70
    go_wp2_with (first | (go_at_call 76; refine (error_any g _ _ _ _ b c _ h0 h1 (by decide) _ HP.out.blk).mono ?_; rintro e w' ⟨rfl, he⟩))
    go_ret
    rw [HE.out]
    exact after_to HS.out .n1 _ _ rfl _ rfl
  · have HE : Hid (negP m c = Js.fail m) := by
      show negP m c = Js.fail m
      unfold negP
      simp only [hz, hd]
      rfl
    go_enter Tryz.func70, Tryz.ntmps70
    go_wp2_with (first | (go_at_call 76; refine (error_any g _ _ _ _ b c _ h0 h1 (by decide) _ HP.out.blk).mono ?_; rintro e w' ⟨rfl, he⟩))
    go_ret
    rw [HE.out]
    exact after_fail HP.out he
  · have HE : Hid (negP m c = Js.fail m) := by
      show negP m c = Js.fail m
      unfold negP
      simp only [hz, hd]
      rfl
    go_enter Tryz.func70, Tryz.ntmps70
    go_wp2_with (first | (go_at_call 76; refine (error_any g _ _ _ _ b c _ h0 h1 (by decide) _ HP.out.blk).mono ?_; rintro e w' ⟨rfl, he⟩))
    go_ret
    rw [HE.out]
    exact after_fail HP.out he

set_option maxRecDepth 100000 in
set_option maxHeartbeats 2000000 in
theorem st_n0 (g : Nat) (m : Js.M) (c : Int) (h0 : 0 ≤ c) (h1 : c ≤ 255) (w : World) (h : Sc w g m) :
    Calls Tryz.prog 71 #[.pointer (some ⟨g, 0, none⟩), .int .u8 c] w (After g w (n0P m c)) := by
  have HS := Lib.hid h
  obtain ⟨pv, ev, b, hp⟩ := h
  obtain ⟨c0, c1, c2, c3, c4, f0, f1, f2, f3, f4⟩ := hp.blk.cells
  have HP := Lib.hid hp
  clear hp c1 c2 c3 c4 f1 f2 f3 f4
  have key : ((c == 46) = true) ∨ ((c == 46) = false ∧ (c == 101) = true) ∨ ((c == 46) = false ∧ (c == 101) = false ∧ (c == 69) = true) ∨ ((c == 46) = false ∧ (c == 101) = false ∧ (c == 69) = false) := by
    cases q46 : (c == 46) with
    | true => simp
    | false =>
      cases q101 : (c == 101) with
      | true => simp
      | false =>
        cases q69 : (c == 69) with
        | true => simp
        | false =>
          simp
  rcases key with h46 | ⟨h46, h101⟩ | ⟨h46, h101, h69⟩ | ⟨h46, h101, h69⟩
  · have HE : Hid (n0P m c = Js.to m .dot 0) := by
      show n0P m c = Js.to m .dot 0
      unfold n0P
      simp only [h46]
      rfl
    go_enter Tryz.func71, Tryz.ntmps71
    go_wp2_with (first | (go_at_call 79; refine (st_ev g m c h0 h1 _ HS.out).mono ?_; rintro e w' ⟨rfl, hsc, hkp⟩))
    go_ret
    rw [HE.out]
    exact after_to HS.out .dot _ _ rfl _ rfl
  · have HE : Hid (n0P m c = Js.to m .e 0) := by
      show n0P m c = Js.to m .e 0
      unfold n0P
      simp only [h46, h101]
      rfl
    go_enter Tryz.func71, Tryz.ntmps71
    go_wp2_with (first | (go_at_call 79; refine (st_ev g m c h0 h1 _ HS.out).mono ?_; rintro e w' ⟨rfl, hsc, hkp⟩))
    go_ret
    rw [HE.out]
    exact after_to HS.out .e _ _ rfl _ rfl
  · have HE : Hid (n0P m c = Js.to m .e 0) := by
      show n0P m c = Js.to m .e 0
      unfold n0P
      simp only [h46, h101, h69]
      rfl
    go_enter Tryz.func71, Tryz.ntmps71
    go_wp2_with (first | (go_at_call 79; refine (st_ev g m c h0 h1 _ HS.out).mono ?_; rintro e w' ⟨rfl, hsc, hkp⟩))
    go_ret
    rw [HE.out]
    exact after_to HS.out .e _ _ rfl _ rfl
  · have HE : Hid (n0P m c = Js.stEv m c.toNat) := by
      show n0P m c = Js.stEv m c.toNat
      unfold n0P
      simp only [h46, h101, h69]
      rfl
    go_enter Tryz.func71, Tryz.ntmps71
    go_wp2_with (first | (go_at_call 79; refine (st_ev g m c h0 h1 _ HS.out).mono ?_; rintro e w' ⟨rfl, hsc, hkp⟩))
    go_ret
    rw [HE.out]
    exact ⟨rfl, hsc, hkp⟩

set_option maxRecDepth 100000 in
set_option maxHeartbeats 2000000 in
theorem st_n1 (g : Nat) (m : Js.M) (c : Int) (h0 : 0 ≤ c) (h1 : c ≤ 255) (w : World) (h : Sc w g m) :
    Calls Tryz.prog 75 #[.pointer (some ⟨g, 0, none⟩), .int .u8 c] w (After g w (n1P m c)) := by
  have HS := Lib.hid h
  obtain ⟨pv, ev, b, hp⟩ := h
  obtain ⟨c0, c1, c2, c3, c4, f0, f1, f2, f3, f4⟩ := hp.blk.cells
  have HP := Lib.hid hp
  clear hp c1 c2 c3 c4 f1 f2 f3 f4
  rcases dgI_cases c with ⟨hd, hd1, hd2⟩ | ⟨hd, hd1⟩ | ⟨hd, hd1⟩
  · have HE : Hid (n1P m c = Js.to m .n1 0) := by
      show n1P m c = Js.to m .n1 0
      unfold n1P
      simp only [hd]
      rfl
    go_enter Tryz.func75, Tryz.ntmps75
    go_wp2_with (first | (go_at_call 71; refine (st_n0 g m c h0 h1 _ HS.out).mono ?_; rintro e w' ⟨rfl, hsc, hkp⟩))
    go_ret
    rw [HE.out]
    exact after_to HS.out .n1 _ _ rfl _ rfl
  · have HE : Hid (n1P m c = n0P m c) := by
      show n1P m c = n0P m c
      unfold n1P
      simp only [hd]
      rfl
    go_enter Tryz.func75, Tryz.ntmps75
    go_wp2_with (first | (go_at_call 71; refine (st_n0 g m c h0 h1 _ HS.out).mono ?_; rintro e w' ⟨rfl, hsc, hkp⟩))
    go_ret
    rw [HE.out]
    exact ⟨rfl, hsc, hkp⟩
  · have HE : Hid (n1P m c = n0P m c) := by
      show n1P m c = n0P m c
      unfold n1P
      simp only [hd]
      rfl
    go_enter Tryz.func75, Tryz.ntmps75
    go_wp2_with (first | (go_at_call 71; refine (st_n0 g m c h0 h1 _ HS.out).mono ?_; rintro e w' ⟨rfl, hsc, hkp⟩))
    go_ret
    rw [HE.out]
    exact ⟨rfl, hsc, hkp⟩

set_option maxRecDepth 100000 in
set_option maxHeartbeats 2000000 in
theorem st_dot0d (g : Nat) (m : Js.M) (c : Int) (_h0 : 0 ≤ c) (_h1 : c ≤ 255) (hd : dgI c = true) (hd1 : 48 ≤ c) (hd2 : c ≤ 57) (w : World) (h : Sc w g m) :
    Calls Tryz.prog 97 #[.pointer (some ⟨g, 0, none⟩), .int .u8 c] w (After g w (dot0P m c)) := by
  have HS := Lib.hid h
  obtain ⟨pv, ev, b, hp⟩ := h
  obtain ⟨c0, c1, c2, c3, c4, f0, f1, f2, f3, f4⟩ := hp.blk.cells
  have HP := Lib.hid hp
  clear hp c1 c2 c3 c4 f1 f2 f3 f4
  · have HE : Hid (dot0P m c = (m, 0)) := by
      show dot0P m c = (m, 0)
      unfold dot0P
      simp only [hd]
      rfl
    go_enter Tryz.func97, Tryz.ntmps97
    go_wp2_with (first | (go_at_call 79; refine (st_ev g m c h0 h1 _ HS.out).mono ?_; rintro e w' ⟨rfl, hsc, hkp⟩))
    go_ret
    rw [HE.out]
    exact after_stay HS.out _ _ rfl

set_option maxRecDepth 100000 in
set_option maxHeartbeats 2000000 in
theorem st_dot0lo (g : Nat) (m : Js.M) (c : Int) (h0 : 0 ≤ c) (h1 : c ≤ 255) (hd : dgI c = false) (hd1 : c < 48) (w : World) (h : Sc w g m) :
    Calls Tryz.prog 97 #[.pointer (some ⟨g, 0, none⟩), .int .u8 c] w (After g w (dot0P m c)) := by
  have HS := Lib.hid h
  obtain ⟨pv, ev, b, hp⟩ := h
  obtain ⟨c0, c1, c2, c3, c4, f0, f1, f2, f3, f4⟩ := hp.blk.cells
  have HP := Lib.hid hp
  clear hp c1 c2 c3 c4 f1 f2 f3 f4
  have key : ((c == 101) = true) ∨ ((c == 101) = false ∧ (c == 69) = true) ∨ ((c == 101) = false ∧ (c == 69) = false) := by
    cases q101 : (c == 101) with
    | true => simp
    | false =>
      cases q69 : (c == 69) with
      | true => simp
      | false =>
        simp
  rcases key with h101 | ⟨h101, h69⟩ | ⟨h101, h69⟩
  · have HE : Hid (dot0P m c = Js.to m .e 0) := by
      show dot0P m c = Js.to m .e 0
      unfold dot0P
      simp only [hd, h101]
      rfl
    go_enter Tryz.func97, Tryz.ntmps97
    go_wp2_with (first | (go_at_call 79; refine (st_ev g m c h0 h1 _ HS.out).mono ?_; rintro e w' ⟨rfl, hsc, hkp⟩))
    go_ret
    rw [HE.out]
    exact after_to HS.out .e _ _ rfl _ rfl
  · have HE : Hid (dot0P m c = Js.to m .e 0) := by
      show dot0P m c = Js.to m .e 0
      unfold dot0P
      simp only [hd, h101, h69]
      rfl
    go_enter Tryz.func97, Tryz.ntmps97
    go_wp2_with (first | (go_at_call 79; refine (st_ev g m c h0 h1 _ HS.out).mono ?_; rintro e w' ⟨rfl, hsc, hkp⟩))
    go_ret
    rw [HE.out]
    exact after_to HS.out .e _ _ rfl _ rfl
  · have HE : Hid (dot0P m c = Js.stEv m c.toNat) := by
      show dot0P m c = Js.stEv m c.toNat
      unfold dot0P
      simp only [hd, h101, h69]
      rfl
    go_enter Tryz.func97, Tryz.ntmps97
    go_wp2_with (first | (go_at_call 79; refine (st_ev g m c h0 h1 _ HS.out).mono ?_; rintro e w' ⟨rfl, hsc, hkp⟩))
    go_ret
    rw [HE.out]
    exact ⟨rfl, hsc, hkp⟩

set_option maxRecDepth 100000 in
set_option maxHeartbeats 2000000 in
theorem st_dot0hi (g : Nat) (m : Js.M) (c : Int) (h0 : 0 ≤ c) (h1 : c ≤ 255) (hd : dgI c = false) (hd1 : 57 < c) (w : World) (h : Sc w g m) :
    Calls Tryz.prog 97 #[.pointer (some ⟨g, 0, none⟩), .int .u8 c] w (After g w (dot0P m c)) := by
  have HS := Lib.hid h
  obtain ⟨pv, ev, b, hp⟩ := h
  obtain ⟨c0, c1, c2, c3, c4, f0, f1, f2, f3, f4⟩ := hp.blk.cells
  have HP := Lib.hid hp
  clear hp c1 c2 c3 c4 f1 f2 f3 f4
  have key : ((c == 101) = true) ∨ ((c == 101) = false ∧ (c == 69) = true) ∨ ((c == 101) = false ∧ (c == 69) = false) := by
    cases q101 : (c == 101) with
    | true => simp
    | false =>
      cases q69 : (c == 69) with
      | true => simp
      | false =>
        simp
  rcases key with h101 | ⟨h101, h69⟩ | ⟨h101, h69⟩
  · have HE : Hid (dot0P m c = Js.to m .e 0) := by
      show dot0P m c = Js.to m .e 0
      unfold dot0P
      simp only [hd, h101]
      rfl
    go_enter Tryz.func97, Tryz.ntmps97
    go_wp2_with (first | (go_at_call 79; refine (st_ev g m c h0 h1 _ HS.out).mono ?_; rintro e w' ⟨rfl, hsc, hkp⟩))
    go_ret
    rw [HE.out]
    exact after_to HS.out .e _ _ rfl _ rfl
  · have HE : Hid (dot0P m c = Js.to m .e 0) := by
      show dot0P m c = Js.to m .e 0
      unfold dot0P
      simp only [hd, h101, h69]
      rfl
    go_enter Tryz.func97, Tryz.ntmps97
    go_wp2_with (first | (go_at_call 79; refine (st_ev g m c h0 h1 _ HS.out).mono ?_; rintro e w' ⟨rfl, hsc, hkp⟩))
    go_ret
    rw [HE.out]
    exact after_to HS.out .e _ _ rfl _ rfl
  · have HE : Hid (dot0P m c = Js.stEv m c.toNat) := by
      show dot0P m c = Js.stEv m c.toNat
      unfold dot0P
      simp only [hd, h101, h69]
      rfl
    go_enter Tryz.func97, Tryz.ntmps97
    go_wp2_with (first | (go_at_call 79; refine (st_ev g m c h0 h1 _ HS.out).mono ?_; rintro e w' ⟨rfl, hsc, hkp⟩))
    go_ret
    rw [HE.out]
    exact ⟨rfl, hsc, hkp⟩

theorem st_dot0 (g : Nat) (m : Js.M) (c : Int) (h0 : 0 ≤ c) (h1 : c ≤ 255) (w : World) (h : Sc w g m) :
    Calls Tryz.prog 97 #[.pointer (some ⟨g, 0, none⟩), .int .u8 c] w (After g w (dot0P m c)) := by
  rcases dgI_cases c with ⟨hd, hd1, hd2⟩ | ⟨hd, hd1⟩ | ⟨hd, hd1⟩
  · exact st_dot0d g m c h0 h1 hd hd1 hd2 w h
  · exact st_dot0lo g m c h0 h1 hd hd1 w h
  · exact st_dot0hi g m c h0 h1 hd hd1 w h

theorem st_esign_p (g : Nat) (m : Js.M) (c : Int) (h0 : 0 ≤ c) (h1 : c ≤ 255) (w : World) (h : Sc w g m) :
    Calls Tryz.prog 98 #[.pointer (some ⟨g, 0, none⟩), .int .u8 c] w (After g w (esP m c)) := st_esign g m c h0 h1 w h

set_option maxRecDepth 100000 in
set_option maxHeartbeats 2000000 in
theorem st_e (g : Nat) (m : Js.M) (c : Int) (h0 : 0 ≤ c) (h1 : c ≤ 255) (w : World) (h : Sc w g m) :
    Calls Tryz.prog 83 #[.pointer (some ⟨g, 0, none⟩), .int .u8 c] w (After g w (eP m c)) := by
  have HS := Lib.hid h
  obtain ⟨pv, ev, b, hp⟩ := h
  obtain ⟨c0, c1, c2, c3, c4, f0, f1, f2, f3, f4⟩ := hp.blk.cells
  have HP := Lib.hid hp
  clear hp c1 c2 c3 c4 f1 f2 f3 f4
  have key : ((c == 43) = true) ∨ ((c == 43) = false ∧ (c == 45) = true) ∨ ((c == 43) = false ∧ (c == 45) = false) := by
    cases q43 : (c == 43) with
    | true => simp
    | false =>
      cases q45 : (c == 45) with
      | true => simp
      | false =>
        simp
  rcases key with h43 | ⟨h43, h45⟩ | ⟨h43, h45⟩
  · have HE : Hid (eP m c = Js.to m .esign 0) := by
      show eP m c = Js.to m .esign 0
      unfold eP
      simp only [h43]
      rfl
    go_enter Tryz.func83, Tryz.ntmps83
    go_wp2_with (first | (go_at_call 98; refine (st_esign_p g m c h0 h1 _ HS.out).mono ?_; rintro e w' ⟨rfl, hsc, hkp⟩))
    go_ret
    rw [HE.out]
    exact after_to HS.out .esign _ _ rfl _ rfl
  · have HE : Hid (eP m c = Js.to m .esign 0) := by
      show eP m c = Js.to m .esign 0
      unfold eP
      simp only [h43, h45]
      rfl
    go_enter Tryz.func83, Tryz.ntmps83
    go_wp2_with (first | (go_at_call 98; refine (st_esign_p g m c h0 h1 _ HS.out).mono ?_; rintro e w' ⟨rfl, hsc, hkp⟩))
    go_ret
    rw [HE.out]
    exact after_to HS.out .esign _ _ rfl _ rfl
  · have HE : Hid (eP m c = esP m c) := by
      show eP m c = esP m c
      unfold eP
      simp only [h43, h45]
      rfl
    go_enter Tryz.func83, Tryz.ntmps83
    go_wp2_with (first | (go_at_call 98; refine (st_esign_p g m c h0 h1 _ HS.out).mono ?_; rintro e w' ⟨rfl, hsc, hkp⟩))
    go_ret
    rw [HE.out]
    exact ⟨rfl, hsc, hkp⟩

set_option maxRecDepth 100000 in
set_option maxHeartbeats 2000000 in
theorem st_e0 (g : Nat) (m : Js.M) (c : Int) (h0 : 0 ≤ c) (h1 : c ≤ 255) (w : World) (h : Sc w g m) :
    Calls Tryz.prog 106 #[.pointer (some ⟨g, 0, none⟩), .int .u8 c] w (After g w (e0P m c)) := by
  have HS := Lib.hid h
  obtain ⟨pv, ev, b, hp⟩ := h
  obtain ⟨c0, c1, c2, c3, c4, f0, f1, f2, f3, f4⟩ := hp.blk.cells
  have HP := Lib.hid hp
  clear hp c1 c2 c3 c4 f1 f2 f3 f4
  rcases dgI_cases c with ⟨hd, hd1, hd2⟩ | ⟨hd, hd1⟩ | ⟨hd, hd1⟩
  · have HE : Hid (e0P m c = (m, 0)) := by
      show e0P m c = (m, 0)
      unfold e0P
      simp only [hd]
      rfl
    go_enter Tryz.func106, Tryz.ntmps106
    go_wp2_with (first | (go_at_call 79; refine (st_ev g m c h0 h1 _ HS.out).mono ?_; rintro e w' ⟨rfl, hsc, hkp⟩))
    go_ret
    rw [HE.out]
    exact after_stay HS.out _ _ rfl
  · have HE : Hid (e0P m c = Js.stEv m c.toNat) := by
      show e0P m c = Js.stEv m c.toNat
      unfold e0P
      simp only [hd]
      rfl
    go_enter Tryz.func106, Tryz.ntmps106
    go_wp2_with (first | (go_at_call 79; refine (st_ev g m c h0 h1 _ HS.out).mono ?_; rintro e w' ⟨rfl, hsc, hkp⟩))
    go_ret
    rw [HE.out]
    exact ⟨rfl, hsc, hkp⟩
  · have HE : Hid (e0P m c = Js.stEv m c.toNat) := by
      show e0P m c = Js.stEv m c.toNat
      unfold e0P
      simp only [hd]
      rfl
    go_enter Tryz.func106, Tryz.ntmps106
    go_wp2_with (first | (go_at_call 79; refine (st_ev g m c h0 h1 _ HS.out).mono ?_; rintro e w' ⟨rfl, hsc, hkp⟩))
    go_ret
    rw [HE.out]
    exact ⟨rfl, hsc, hkp⟩

set_option maxRecDepth 100000 in
set_option maxHeartbeats 2000000 in
theorem st_bs_sp (g : Nat) (m : Js.M) (c : Int) (_h0 : 0 ≤ c) (_h1 : c ≤ 255) (hs : spI c = true) (w : World) (h : Sc w g m) :
    Calls Tryz.prog 80 #[.pointer (some ⟨g, 0, none⟩), .int .u8 c] w (After g w (bsP m c)) := by
  have HS := Lib.hid h
  obtain ⟨pv, ev, b, hp⟩ := h
  obtain ⟨c0, c1, c2, c3, c4, f0, f1, f2, f3, f4⟩ := hp.blk.cells
  have HP := Lib.hid hp
  clear hp c1 c2 c3 c4 f1 f2 f3 f4
  · have HE : Hid (bsP m c = (m, 9)) := by
      show bsP m c = (m, 9)
      unfold bsP
      simp only [hs]
      rfl
    go_enter Tryz.func80, Tryz.ntmps80
    go_wp2_with (first | (go_at_call 65; refine (space_any c _).mono ?_; rintro e w' ⟨rfl, rfl⟩))
    go_ret
    rw [HE.out]
    exact after_stay HS.out _ _ rfl

set_option maxRecDepth 100000 in
set_option maxHeartbeats 2000000 in
theorem st_bs_ns (g : Nat) (m : Js.M) (c : Int) (h0 : 0 ≤ c) (h1 : c ≤ 255) (hs : spI c = false) (w : World) (h : Sc w g m) :
    Calls Tryz.prog 80 #[.pointer (some ⟨g, 0, none⟩), .int .u8 c] w (After g w (bsP m c)) := by
  have HS := Lib.hid h
  obtain ⟨pv, ev, b, hp⟩ := h
  obtain ⟨c0, c1, c2, c3, c4, f0, f1, f2, f3, f4⟩ := hp.blk.cells
  have HP := Lib.hid hp
  clear hp c1 c2 c3 c4 f1 f2 f3 f4
  rcases beq_or c 34 with h34 | h34
  · have HE : Hid (bsP m c = Js.to m .str 1) := by
      show bsP m c = Js.to m .str 1
      unfold bsP
      simp only [hs, h34]
      rfl
    go_enter Tryz.func80, Tryz.ntmps80
    go_wp2_with (first | (go_at_call 65; refine (space_any c _).mono ?_; rintro e w' ⟨rfl, rfl⟩) | (go_at_call 76; refine (error_any g _ _ _ _ b c _ h0 h1 (by decide) _ HP.out.blk).mono ?_; rintro e w' ⟨rfl, he⟩))
    go_ret
    rw [HE.out]
    exact after_to HS.out .str _ _ rfl _ rfl
  · have HE : Hid (bsP m c = Js.fail m) := by
      show bsP m c = Js.fail m
      unfold bsP
      simp only [hs, h34]
      rfl
    go_enter Tryz.func80, Tryz.ntmps80
    go_wp2_with (first | (go_at_call 65; refine (space_any c _).mono ?_; rintro e w' ⟨rfl, rfl⟩) | (go_at_call 76; refine (error_any g _ _ _ _ b c _ h0 h1 (by decide) _ HP.out.blk).mono ?_; rintro e w' ⟨rfl, he⟩))
    go_ret
    rw [HE.out]
    exact after_fail HP.out he

theorem st_bs (g : Nat) (m : Js.M) (c : Int) (h0 : 0 ≤ c) (h1 : c ≤ 255) (w : World) (h : Sc w g m) :
    Calls Tryz.prog 80 #[.pointer (some ⟨g, 0, none⟩), .int .u8 c] w (After g w (bsP m c)) := by
  cases hs : spI c with
  | true => exact st_bs_sp g m c h0 h1 hs w h
  | false => exact st_bs_ns g m c h0 h1 hs w h

theorem st_bsoe_sp (g : Nat) (m : Js.M) (c : Int) (hs : spI c = true) (w : World) (h : Sc w g m) :
    Calls Tryz.prog 66 #[.pointer (some ⟨g, 0, none⟩), .int .u8 c] w (After g w (bsoeP m c)) := by
  have HS := Lib.hid h
  have HE : Hid (bsoeP m c = (m, 9)) := by
    show bsoeP m c = (m, 9)
    unfold bsoeP
    simp only [hs]
    rfl
  clear h
  go_enter Tryz.func66, Tryz.ntmps66
  go_wp2_with (first | (go_at_call 65; refine (space_any c _).mono ?_; rintro e w' ⟨rfl, rfl⟩))
  go_ret
  rw [HE.out]
  exact after_stay HS.out _ _ rfl

set_option maxRecDepth 100000 in
set_option maxHeartbeats 2000000 in
theorem st_bsoe_ns (g : Nat) (m : Js.M) (p : Js.Ps) (S : List Js.Ps) (hS : m.stk = p :: S) (c : Int) (h0 : 0 ≤ c) (h1 : c ≤ 255) (hs : spI c = false) (h125 : (c == 125) = false) (w : World) (h : Sc w g m) :
    Calls Tryz.prog 66 #[.pointer (some ⟨g, 0, none⟩), .int .u8 c] w (After g w (bsoeP m c)) := by
  have HS := Lib.hid h
  have HM := Lib.hid hS
  have HE : Hid (bsoeP m c = bsP m c) := by
    show bsoeP m c = bsP m c
    unfold bsoeP
    simp only [hs, h125]
    rfl
  clear h hS
  go_enter Tryz.func66, Tryz.ntmps66
  go_wp2_with (first | (go_at_call 65; refine (space_any c _).mono ?_; rintro e w' ⟨rfl, rfl⟩) | (go_at_call 80; refine (st_bs g m c h0 h1 _ HS.out).mono ?_; rintro e w' ⟨rfl, hsc, hkp⟩))
  go_ret
  rw [HE.out]
  exact ⟨rfl, hsc, hkp⟩

set_option maxRecDepth 100000 in
set_option maxHeartbeats 2000000 in
theorem st_bsoe_125 (g : Nat) (m : Js.M) (p : Js.Ps) (S : List Js.Ps) (hS : m.stk = p :: S) (c : Int) (h0 : 0 ≤ c) (h1 : c ≤ 255) (hs : spI c = false) (h125 : (c == 125) = true) (w : World) (h : Sc w g m) :
    Calls Tryz.prog 66 #[.pointer (some ⟨g, 0, none⟩), .int .u8 c] w (After g w (bsoeP m c)) := by
  have HE : Hid (bsoeP m c = Js.stEv { m with stk := .val :: S } c.toNat) := by
    show bsoeP m c = Js.stEv { m with stk := .val :: S } c.toNat
    unfold bsoeP Js.setVal
    rw [hS]
    simp only [hs, h125]
    rfl
  obtain ⟨pv, ev, b, hp⟩ := h
  obtain ⟨q, cap, n, hn, hv, hg, hcap, hcm, hcell, hfr⟩ := hp.look hS
  have hk := hp.poke hS .val (q := q) (cap := cap) (by rw [hv, hn])
  simp only [psI, ← hn] at hk
  have HK := Lib.hid hk
  obtain ⟨c0, c1, c2, c3, c4, f0, f1, f2, f3, f4⟩ := hp.blk.cells
  subst hv
  have HN := Lib.hid hn
  clear hk hS hp hn c0 c1 c3 c4 f0 f1 f2 f3 f4
  go_enter Tryz.func66, Tryz.ntmps66
  go_wp2_with (first | (go_at_call 65; refine (space_any c _).mono ?_; rintro e w' ⟨rfl, rfl⟩) | (go_at_call 79; refine (st_ev g _ c h0 h1 _ ⟨_, _, _, HK.out.1⟩).mono ?_; rintro e w' ⟨rfl, hsc, hkp⟩))
  go_ret
  rw [HE.out]
  exact After.from HK.out.2 ⟨rfl, hsc, hkp⟩

theorem st_bsoe (g : Nat) (m : Js.M) (hne : m.stk ≠ []) (c : Int) (h0 : 0 ≤ c) (h1 : c ≤ 255) (w : World) (h : Sc w g m) :
    Calls Tryz.prog 66 #[.pointer (some ⟨g, 0, none⟩), .int .u8 c] w (After g w (bsoeP m c)) := by
  cases hS : m.stk with
  | nil => exact absurd hS hne
  | cons p S =>
    cases hs : spI c with
    | true => exact st_bsoe_sp g m c hs w h
    | false =>
      rcases beq_or c 125 with h2 | h2
      · exact st_bsoe_125 g m p S hS c h0 h1 hs h2 w h
      · exact st_bsoe_ns g m p S hS c h0 h1 hs h2 w h

set_option maxRecDepth 100000 in
set_option maxHeartbeats 2000000 in
theorem st_bv_sp (g : Nat) (m : Js.M) (c : Int) (_h0 : 0 ≤ c) (_h1 : c ≤ 255) (hs : spI c = true) (w : World) (h : Sc w g m) :
    Calls Tryz.prog 61 #[.pointer (some ⟨g, 0, none⟩), .int .u8 c] w (After g w (bvP m c)) := by
  have HS := Lib.hid h
  obtain ⟨pv, ev, b, hp⟩ := h
  obtain ⟨c0, c1, c2, c3, c4, f0, f1, f2, f3, f4⟩ := hp.blk.cells
  have HP := Lib.hid hp
  clear hp c1 c2 c3 c4 f1 f2 f3 f4
  · have HE : Hid (bvP m c = (m, 9)) := by
      show bvP m c = (m, 9)
      unfold bvP
      simp only [hs]
      rfl
    go_enter Tryz.func61, Tryz.ntmps61
    go_wp2_with (first | (go_at_call 65; refine (space_any c _).mono ?_; rintro e w' ⟨rfl, rfl⟩))
    go_ret
    rw [HE.out]
    exact after_stay HS.out _ _ rfl

set_option maxRecDepth 100000 in
set_option maxHeartbeats 2000000 in
theorem st_bv_123 (g : Nat) (m : Js.M) (c : Int) (h0 : 0 ≤ c) (h1 : c ≤ 255) (hs : spI c = false) (hb : m.bad = false) (h123 : (c == 123) = true) (w : World) (h : Sc w g m) :
    Calls Tryz.prog 61 #[.pointer (some ⟨g, 0, none⟩), .int .u8 c] w (After g w (bvP m c)) := by
  have HS := Lib.hid h
  obtain ⟨pv, ev, b, hp⟩ := h
  have HB := Lib.hid hb
  clear hb
  obtain ⟨c0, c1, c2, c3, c4, f0, f1, f2, f3, f4⟩ := hp.blk.cells
  have HP := Lib.hid hp
  clear hp c1 c2 c3 c4 f1 f2 f3 f4
  · have HE : Hid (bvP m c = Js.push { m with st := .bsoe } .key .bsoe 2) := by
      show bvP m c = Js.push { m with st := .bsoe } .key .bsoe 2
      unfold bvP
      simp only [hs, h123]
      exact (push_st m _ _ _ _).symm
    go_enter Tryz.func61, Tryz.ntmps61
    go_wp2_with (first | (go_at_call 65; refine (space_any c _).mono ?_; rintro e w' ⟨rfl, rfl⟩) | (go_at_call 67; refine (push_any g { m with st := .bsoe } c .key 2 2 rfl _ rfl h0 h1 HB.out _ ⟨_, _, _, HP.out.set0 .bsoe⟩).mono ?_; rintro e w' ⟨rfl, hsc, hkp⟩))
    go_ret
    rw [HE.out]
    exact After.from (kp_set (i := 0) (by decide) _) ⟨rfl, hsc, hkp⟩

set_option maxRecDepth 100000 in
set_option maxHeartbeats 2000000 in
theorem st_bv_91 (g : Nat) (m : Js.M) (c : Int) (h0 : 0 ≤ c) (h1 : c ≤ 255) (hs : spI c = false) (hb : m.bad = false) (h123 : (c == 123) = false) (h91 : (c == 91) = true) (w : World) (h : Sc w g m) :
    Calls Tryz.prog 61 #[.pointer (some ⟨g, 0, none⟩), .int .u8 c] w (After g w (bvP m c)) := by
  have HS := Lib.hid h
  obtain ⟨pv, ev, b, hp⟩ := h
  have HB := Lib.hid hb
  clear hb
  obtain ⟨c0, c1, c2, c3, c4, f0, f1, f2, f3, f4⟩ := hp.blk.cells
  have HP := Lib.hid hp
  clear hp c1 c2 c3 c4 f1 f2 f3 f4
  · have HE : Hid (bvP m c = Js.push { m with st := .bvoe } .arr .bvoe 6) := by
      show bvP m c = Js.push { m with st := .bvoe } .arr .bvoe 6
      unfold bvP
      simp only [hs, h123, h91]
      exact (push_st m _ _ _ _).symm
    go_enter Tryz.func61, Tryz.ntmps61
    go_wp2_with (first | (go_at_call 65; refine (space_any c _).mono ?_; rintro e w' ⟨rfl, rfl⟩) | (go_at_call 67; refine (push_any g { m with st := .bvoe } c .arr 6 6 rfl _ rfl h0 h1 HB.out _ ⟨_, _, _, HP.out.set0 .bvoe⟩).mono ?_; rintro e w' ⟨rfl, hsc, hkp⟩))
    go_ret
    rw [HE.out]
    exact After.from (kp_set (i := 0) (by decide) _) ⟨rfl, hsc, hkp⟩

set_option maxRecDepth 100000 in
set_option maxHeartbeats 2000000 in
theorem st_bv_34 (g : Nat) (m : Js.M) (c : Int) (_h0 : 0 ≤ c) (_h1 : c ≤ 255) (hs : spI c = false) (h123 : (c == 123) = false) (h91 : (c == 91) = false) (h34 : (c == 34) = true) (w : World) (h : Sc w g m) :
    Calls Tryz.prog 61 #[.pointer (some ⟨g, 0, none⟩), .int .u8 c] w (After g w (bvP m c)) := by
  have HS := Lib.hid h
  obtain ⟨pv, ev, b, hp⟩ := h
  obtain ⟨c0, c1, c2, c3, c4, f0, f1, f2, f3, f4⟩ := hp.blk.cells
  have HP := Lib.hid hp
  clear hp c1 c2 c3 c4 f1 f2 f3 f4
  · have HE : Hid (bvP m c = Js.to m .str 1) := by
      show bvP m c = Js.to m .str 1
      unfold bvP
      simp only [hs, h123, h91, h34]
      rfl
    go_enter Tryz.func61, Tryz.ntmps61
    go_wp2_with (first | (go_at_call 65; refine (space_any c _).mono ?_; rintro e w' ⟨rfl, rfl⟩) | (go_at_call 76; refine (error_any g _ _ _ _ b c _ h0 h1 (by decide) _ HP.out.blk).mono ?_; rintro e w' ⟨rfl, he⟩))
    go_ret
    rw [HE.out]
    exact after_to HS.out .str _ _ rfl _ rfl

set_option maxRecDepth 100000 in
set_option maxHeartbeats 2000000 in
theorem st_bv_45 (g : Nat) (m : Js.M) (c : Int) (_h0 : 0 ≤ c) (_h1 : c ≤ 255) (hs : spI c = false) (h123 : (c == 123) = false) (h91 : (c == 91) = false) (h34 : (c == 34) = false) (h45 : (c == 45) = true) (w : World) (h : Sc w g m) :
    Calls Tryz.prog 61 #[.pointer (some ⟨g, 0, none⟩), .int .u8 c] w (After g w (bvP m c)) := by
  have HS := Lib.hid h
  obtain ⟨pv, ev, b, hp⟩ := h
  obtain ⟨c0, c1, c2, c3, c4, f0, f1, f2, f3, f4⟩ := hp.blk.cells
  have HP := Lib.hid hp
  clear hp c1 c2 c3 c4 f1 f2 f3 f4
  · have HE : Hid (bvP m c = Js.to m .neg 1) := by
      show bvP m c = Js.to m .neg 1
      unfold bvP
      simp only [hs, h123, h91, h34, h45]
      rfl
    go_enter Tryz.func61, Tryz.ntmps61
    go_wp2_with (first | (go_at_call 65; refine (space_any c _).mono ?_; rintro e w' ⟨rfl, rfl⟩) | (go_at_call 76; refine (error_any g _ _ _ _ b c _ h0 h1 (by decide) _ HP.out.blk).mono ?_; rintro e w' ⟨rfl, he⟩))
    go_ret
    rw [HE.out]
    exact after_to HS.out .neg _ _ rfl _ rfl

set_option maxRecDepth 100000 in
set_option maxHeartbeats 2000000 in
theorem st_bv_48 (g : Nat) (m : Js.M) (c : Int) (_h0 : 0 ≤ c) (_h1 : c ≤ 255) (hs : spI c = false) (h123 : (c == 123) = false) (h91 : (c == 91) = false) (h34 : (c == 34) = false) (h45 : (c == 45) = false) (h48 : (c == 48) = true) (w : World) (h : Sc w g m) :
    Calls Tryz.prog 61 #[.pointer (some ⟨g, 0, none⟩), .int .u8 c] w (After g w (bvP m c)) := by
  have HS := Lib.hid h
  obtain ⟨pv, ev, b, hp⟩ := h
  obtain ⟨c0, c1, c2, c3, c4, f0, f1, f2, f3, f4⟩ := hp.blk.cells
  have HP := Lib.hid hp
  clear hp c1 c2 c3 c4 f1 f2 f3 f4
  · have HE : Hid (bvP m c = Js.to m .n0 1) := by
      show bvP m c = Js.to m .n0 1
      unfold bvP
      simp only [hs, h123, h91, h34, h45, h48]
      rfl
    go_enter Tryz.func61, Tryz.ntmps61
    go_wp2_with (first | (go_at_call 65; refine (space_any c _).mono ?_; rintro e w' ⟨rfl, rfl⟩) | (go_at_call 76; refine (error_any g _ _ _ _ b c _ h0 h1 (by decide) _ HP.out.blk).mono ?_; rintro e w' ⟨rfl, he⟩))
    go_ret
    rw [HE.out]
    exact after_to HS.out .n0 _ _ rfl _ rfl

set_option maxRecDepth 100000 in
set_option maxHeartbeats 2000000 in
theorem st_bv_116 (g : Nat) (m : Js.M) (c : Int) (_h0 : 0 ≤ c) (_h1 : c ≤ 255) (hs : spI c = false) (h123 : (c == 123) = false) (h91 : (c == 91) = false) (h34 : (c == 34) = false) (h45 : (c == 45) = false) (h48 : (c == 48) = false) (h116 : (c == 116) = true) (w : World) (h : Sc w g m) :
    Calls Tryz.prog 61 #[.pointer (some ⟨g, 0, none⟩), .int .u8 c] w (After g w (bvP m c)) := by
  have HS := Lib.hid h
  obtain ⟨pv, ev, b, hp⟩ := h
  obtain ⟨c0, c1, c2, c3, c4, f0, f1, f2, f3, f4⟩ := hp.blk.cells
  have HP := Lib.hid hp
  clear hp c1 c2 c3 c4 f1 f2 f3 f4
  · have HE : Hid (bvP m c = Js.to m .t 1) := by
      show bvP m c = Js.to m .t 1
      unfold bvP
      simp only [hs, h123, h91, h34, h45, h48, h116]
      rfl
    go_enter Tryz.func61, Tryz.ntmps61
    go_wp2_with (first | (go_at_call 65; refine (space_any c _).mono ?_; rintro e w' ⟨rfl, rfl⟩) | (go_at_call 76; refine (error_any g _ _ _ _ b c _ h0 h1 (by decide) _ HP.out.blk).mono ?_; rintro e w' ⟨rfl, he⟩))
    go_ret
    rw [HE.out]
    exact after_to HS.out .t _ _ rfl _ rfl

set_option maxRecDepth 100000 in
set_option maxHeartbeats 2000000 in
theorem st_bv_102 (g : Nat) (m : Js.M) (c : Int) (_h0 : 0 ≤ c) (_h1 : c ≤ 255) (hs : spI c = false) (h123 : (c == 123) = false) (h91 : (c == 91) = false) (h34 : (c == 34) = false) (h45 : (c == 45) = false) (h48 : (c == 48) = false) (h116 : (c == 116) = false) (h102 : (c == 102) = true) (w : World) (h : Sc w g m) :
    Calls Tryz.prog 61 #[.pointer (some ⟨g, 0, none⟩), .int .u8 c] w (After g w (bvP m c)) := by
  have HS := Lib.hid h
  obtain ⟨pv, ev, b, hp⟩ := h
  obtain ⟨c0, c1, c2, c3, c4, f0, f1, f2, f3, f4⟩ := hp.blk.cells
  have HP := Lib.hid hp
  clear hp c1 c2 c3 c4 f1 f2 f3 f4
  · have HE : Hid (bvP m c = Js.to m .f 1) := by
      show bvP m c = Js.to m .f 1
      unfold bvP
      simp only [hs, h123, h91, h34, h45, h48, h116, h102]
      rfl
    go_enter Tryz.func61, Tryz.ntmps61
    go_wp2_with (first | (go_at_call 65; refine (space_any c _).mono ?_; rintro e w' ⟨rfl, rfl⟩) | (go_at_call 76; refine (error_any g _ _ _ _ b c _ h0 h1 (by decide) _ HP.out.blk).mono ?_; rintro e w' ⟨rfl, he⟩))
    go_ret
    rw [HE.out]
    exact after_to HS.out .f _ _ rfl _ rfl

set_option maxRecDepth 100000 in
set_option maxHeartbeats 2000000 in
theorem st_bv_110 (g : Nat) (m : Js.M) (c : Int) (_h0 : 0 ≤ c) (_h1 : c ≤ 255) (hs : spI c = false) (h123 : (c == 123) = false) (h91 : (c == 91) = false) (h34 : (c == 34) = false) (h45 : (c == 45) = false) (h48 : (c == 48) = false) (h116 : (c == 116) = false) (h102 : (c == 102) = false) (h110 : (c == 110) = true) (w : World) (h : Sc w g m) :
    Calls Tryz.prog 61 #[.pointer (some ⟨g, 0, none⟩), .int .u8 c] w (After g w (bvP m c)) := by
  have HS := Lib.hid h
  obtain ⟨pv, ev, b, hp⟩ := h
  obtain ⟨c0, c1, c2, c3, c4, f0, f1, f2, f3, f4⟩ := hp.blk.cells
  have HP := Lib.hid hp
  clear hp c1 c2 c3 c4 f1 f2 f3 f4
  · have HE : Hid (bvP m c = Js.to m .n 1) := by
      show bvP m c = Js.to m .n 1
      unfold bvP
      simp only [hs, h123, h91, h34, h45, h48, h116, h102, h110]
      rfl
    go_enter Tryz.func61, Tryz.ntmps61
    go_wp2_with (first | (go_at_call 65; refine (space_any c _).mono ?_; rintro e w' ⟨rfl, rfl⟩) | (go_at_call 76; refine (error_any g _ _ _ _ b c _ h0 h1 (by decide) _ HP.out.blk).mono ?_; rintro e w' ⟨rfl, he⟩))
    go_ret
    rw [HE.out]
    exact after_to HS.out .n _ _ rfl _ rfl

set_option maxRecDepth 100000 in
set_option maxHeartbeats 2000000 in
theorem st_bv_dg (g : Nat) (m : Js.M) (c : Int) (_h0 : 0 ≤ c) (_h1 : c ≤ 255) (hs : spI c = false) (h123 : (c == 123) = false) (h91 : (c == 91) = false) (h34 : (c == 34) = false) (h45 : (c == 45) = false) (h48 : (c == 48) = false) (h116 : (c == 116) = false) (h102 : (c == 102) = false) (h110 : (c == 110) = false) (hd : dgI c = true) (hd1 : 49 ≤ c) (hd2 : c ≤ 57) (w : World) (h : Sc w g m) :
    Calls Tryz.prog 61 #[.pointer (some ⟨g, 0, none⟩), .int .u8 c] w (After g w (bvP m c)) := by
  have HS := Lib.hid h
  obtain ⟨pv, ev, b, hp⟩ := h
  obtain ⟨c0, c1, c2, c3, c4, f0, f1, f2, f3, f4⟩ := hp.blk.cells
  have HP := Lib.hid hp
  clear hp c1 c2 c3 c4 f1 f2 f3 f4
  · have HE : Hid (bvP m c = Js.to m .n1 1) := by
      show bvP m c = Js.to m .n1 1
      unfold bvP
      simp only [hs, h123, h91, h34, h45, h48, h116, h102, h110, hd]
      rfl
    go_enter Tryz.func61, Tryz.ntmps61
    go_wp2_with (first | (go_at_call 65; refine (space_any c _).mono ?_; rintro e w' ⟨rfl, rfl⟩) | (go_at_call 76; refine (error_any g _ _ _ _ b c _ h0 h1 (by decide) _ HP.out.blk).mono ?_; rintro e w' ⟨rfl, he⟩))
    go_ret
    rw [HE.out]
    exact after_to HS.out .n1 _ _ rfl _ rfl

set_option maxRecDepth 100000 in
set_option maxHeartbeats 2000000 in
theorem st_bv_lo (g : Nat) (m : Js.M) (c : Int) (h0 : 0 ≤ c) (h1 : c ≤ 255) (hs : spI c = false) (h123 : (c == 123) = false) (h91 : (c == 91) = false) (h34 : (c == 34) = false) (h45 : (c == 45) = false) (h48 : (c == 48) = false) (h116 : (c == 116) = false) (h102 : (c == 102) = false) (h110 : (c == 110) = false) (hd : dgI c = false) (hd1 : c < 49) (w : World) (h : Sc w g m) :
    Calls Tryz.prog 61 #[.pointer (some ⟨g, 0, none⟩), .int .u8 c] w (After g w (bvP m c)) := by
  have HS := Lib.hid h
  obtain ⟨pv, ev, b, hp⟩ := h
  obtain ⟨c0, c1, c2, c3, c4, f0, f1, f2, f3, f4⟩ := hp.blk.cells
  have HP := Lib.hid hp
  clear hp c1 c2 c3 c4 f1 f2 f3 f4
  · have HE : Hid (bvP m c = Js.fail m) := by
      show bvP m c = Js.fail m
      unfold bvP
      simp only [hs, h123, h91, h34, h45, h48, h116, h102, h110, hd]
      rfl
    go_enter Tryz.func61, Tryz.ntmps61
    go_wp2_with (first | (go_at_call 65; refine (space_any c _).mono ?_; rintro e w' ⟨rfl, rfl⟩) | (go_at_call 76; refine (error_any g _ _ _ _ b c _ h0 h1 (by decide) _ HP.out.blk).mono ?_; rintro e w' ⟨rfl, he⟩))
    go_ret
    rw [HE.out]
    exact after_fail HP.out he

set_option maxRecDepth 100000 in
set_option maxHeartbeats 2000000 in
theorem st_bv_hi (g : Nat) (m : Js.M) (c : Int) (h0 : 0 ≤ c) (h1 : c ≤ 255) (hs : spI c = false) (h123 : (c == 123) = false) (h91 : (c == 91) = false) (h34 : (c == 34) = false) (h45 : (c == 45) = false) (h48 : (c == 48) = false) (h116 : (c == 116) = false) (h102 : (c == 102) = false) (h110 : (c == 110) = false) (hd : dgI c = false) (hd1 : 57 < c) (w : World) (h : Sc w g m) :
    Calls Tryz.prog 61 #[.pointer (some ⟨g, 0, none⟩), .int .u8 c] w (After g w (bvP m c)) := by
  have HS := Lib.hid h
  obtain ⟨pv, ev, b, hp⟩ := h
  obtain ⟨c0, c1, c2, c3, c4, f0, f1, f2, f3, f4⟩ := hp.blk.cells
  have HP := Lib.hid hp
  clear hp c1 c2 c3 c4 f1 f2 f3 f4
  · have HE : Hid (bvP m c = Js.fail m) := by
      show bvP m c = Js.fail m
      unfold bvP
      simp only [hs, h123, h91, h34, h45, h48, h116, h102, h110, hd]
      rfl
    go_enter Tryz.func61, Tryz.ntmps61
    go_wp2_with (first | (go_at_call 65; refine (space_any c _).mono ?_; rintro e w' ⟨rfl, rfl⟩) | (go_at_call 76; refine (error_any g _ _ _ _ b c _ h0 h1 (by decide) _ HP.out.blk).mono ?_; rintro e w' ⟨rfl, he⟩))
    go_ret
    rw [HE.out]
    exact after_fail HP.out he

theorem st_bv (g : Nat) (m : Js.M) (c : Int) (h0 : 0 ≤ c) (h1 : c ≤ 255) (hb : m.bad = false) (w : World) (h : Sc w g m) :
    Calls Tryz.prog 61 #[.pointer (some ⟨g, 0, none⟩), .int .u8 c] w (After g w (bvP m c)) := by
  cases hs : spI c with
  | true => exact st_bv_sp g m c h0 h1 hs w h
  | false =>
    rcases beq_or c 123 with h123 | h123
    · exact st_bv_123 g m c h0 h1 hs hb h123 w h
    rcases beq_or c 91 with h91 | h91
    · exact st_bv_91 g m c h0 h1 hs hb h123 h91 w h
    rcases beq_or c 34 with h34 | h34
    · exact st_bv_34 g m c h0 h1 hs h123 h91 h34 w h
    rcases beq_or c 45 with h45 | h45
    · exact st_bv_45 g m c h0 h1 hs h123 h91 h34 h45 w h
    rcases beq_or c 48 with h48 | h48
    · exact st_bv_48 g m c h0 h1 hs h123 h91 h34 h45 h48 w h
    rcases beq_or c 116 with h116 | h116
    · exact st_bv_116 g m c h0 h1 hs h123 h91 h34 h45 h48 h116 w h
    rcases beq_or c 102 with h102 | h102
    · exact st_bv_102 g m c h0 h1 hs h123 h91 h34 h45 h48 h116 h102 w h
    rcases beq_or c 110 with h110 | h110
    · exact st_bv_110 g m c h0 h1 hs h123 h91 h34 h45 h48 h116 h102 h110 w h
    rcases dg1_cases c with hz | ⟨hz, hd, hd1, hd2⟩ | ⟨hz, hd, hd1, hd2⟩ | ⟨hz, hd, hd1, hd2⟩
    · rw [hz] at h48; cases h48
    · exact st_bv_dg g m c h0 h1 hs h123 h91 h34 h45 h48 h116 h102 h110 hd hd1 hd2 w h
    · exact st_bv_lo g m c h0 h1 hs h123 h91 h34 h45 h48 h116 h102 h110 hd hd1 w h
    · exact st_bv_hi g m c h0 h1 hs h123 h91 h34 h45 h48 h116 h102 h110 hd hd1 w h

set_option maxRecDepth 100000 in
set_option maxHeartbeats 2000000 in
theorem st_bvoe_sp (g : Nat) (m : Js.M) (c : Int) (_h0 : 0 ≤ c) (_h1 : c ≤ 255) (hs : spI c = true) (w : World) (h : Sc w g m) :
    Calls Tryz.prog 68 #[.pointer (some ⟨g, 0, none⟩), .int .u8 c] w (After g w (bvoeP m c)) := by
  have HS := Lib.hid h
  obtain ⟨pv, ev, b, hp⟩ := h
  obtain ⟨c0, c1, c2, c3, c4, f0, f1, f2, f3, f4⟩ := hp.blk.cells
  have HP := Lib.hid hp
  clear hp c1 c2 c3 c4 f1 f2 f3 f4
  · have HE : Hid (bvoeP m c = (m, 9)) := by
      show bvoeP m c = (m, 9)
      unfold bvoeP
      simp only [hs]
      rfl
    go_enter Tryz.func68, Tryz.ntmps68
    go_wp2_with (first | (go_at_call 65; refine (space_any c _).mono ?_; rintro e w' ⟨rfl, rfl⟩))
    go_ret
    rw [HE.out]
    exact after_stay HS.out _ _ rfl

set_option maxRecDepth 100000 in
set_option maxHeartbeats 2000000 in
theorem st_bvoe_ns (g : Nat) (m : Js.M) (c : Int) (h0 : 0 ≤ c) (h1 : c ≤ 255) (hs : spI c = false) (hb : m.bad = false) (w : World) (h : Sc w g m) :
    Calls Tryz.prog 68 #[.pointer (some ⟨g, 0, none⟩), .int .u8 c] w (After g w (bvoeP m c)) := by
  have HS := Lib.hid h
  obtain ⟨pv, ev, b, hp⟩ := h
  obtain ⟨c0, c1, c2, c3, c4, f0, f1, f2, f3, f4⟩ := hp.blk.cells
  have HP := Lib.hid hp
  clear hp c1 c2 c3 c4 f1 f2 f3 f4
  have HB := Lib.hid hb
  clear hb
  rcases beq_or c 93 with h93 | h93
  · have HE : Hid (bvoeP m c = Js.stEv m c.toNat) := by
      show bvoeP m c = Js.stEv m c.toNat
      unfold bvoeP
      simp only [hs, h93]
      rfl
    go_enter Tryz.func68, Tryz.ntmps68
    go_wp2_with (first | (go_at_call 65; refine (space_any c _).mono ?_; rintro e w' ⟨rfl, rfl⟩) | (go_at_call 79; refine (st_ev g m c h0 h1 _ HS.out).mono ?_; rintro e w' ⟨rfl, hsc, hkp⟩))
    go_ret
    rw [HE.out]
    exact ⟨rfl, hsc, hkp⟩
  · have HE : Hid (bvoeP m c = bvP m c) := by
      show bvoeP m c = bvP m c
      unfold bvoeP
      simp only [hs, h93]
      rfl
    go_enter Tryz.func68, Tryz.ntmps68
    go_wp2_with (first | (go_at_call 65; refine (space_any c _).mono ?_; rintro e w' ⟨rfl, rfl⟩) | (go_at_call 61; refine (st_bv g m c h0 h1 HB.out _ HS.out).mono ?_; rintro e w' ⟨rfl, hsc, hkp⟩))
    go_ret
    rw [HE.out]
    exact ⟨rfl, hsc, hkp⟩

theorem st_bvoe (g : Nat) (m : Js.M) (c : Int) (h0 : 0 ≤ c) (h1 : c ≤ 255) (hb : m.bad = false) (w : World) (h : Sc w g m) :
    Calls Tryz.prog 68 #[.pointer (some ⟨g, 0, none⟩), .int .u8 c] w (After g w (bvoeP m c)) := by
  cases hs : spI c with
  | true => exact st_bvoe_sp g m c h0 h1 hs w h
  | false => exact st_bvoe_ns g m c h0 h1 hs hb w h

end Go.Proofs.YtlmhpmbgalmpgaaGreatDoor
