/-
  The reference's readers of arrays.
-/
import Derived.Test.YtlmhpmbgalmpgaaGreatDoorSp5
namespace Go.Proofs.YtlmhpmbgalmpgaaGreatDoor
open Go.RowKit

theorem At_inj {s : ByteArray} {n : Nat} {c : UInt8} {r : List UInt8} (h : At s n = c :: r) : ∃ hlt : n < s.size, s[n] = c ∧ At s (n + 1) = r := by
  by_cases hlt : n < s.size
  · rw [At_cons s n hlt] at h
    injection h with h1 h2
    exact ⟨hlt, h1, h2⟩
  · rw [At_end s n (by omega)] at h; cases h
theorem At_nil {s : ByteArray} {n : Nat} (hn : n ≤ s.size) (h : At s n = []) : n = s.size := by
  have := congrArg List.length h
  rw [At_length] at this
  simp at this
  omega

/-- What stands behind a part of an array or an object. -/
def BhOk (s : ByteArray) (g : Nat) (w : World) (l : List UInt8) (e : Ending) (w' : World) : Prop :=
  ∃ n : Nat, e = .returned (.int .i64 (n : Int)) ∧ n < s.size ∧ At s n = l ∧ Rs w' g s (-1) ∧ Only g w w'
def okBh (l : List UInt8) (ec : Int) : Bool := match l with | [] => false | c :: _ => (c.toNat : Int) == 44 || (c.toNat : Int) == ec

set_option maxRecDepth 100000 in
set_option maxHeartbeats 4000000 in
theorem behind_yes (s : ByteArray) (hs : s.size ≤ 1000000) (g : Nat) (a : Int) (k : Nat) (ha : a = (k : Int)) (hk : k ≤ s.size) (ec : Int) (hy : okBh (Js.skip (At s k)) ec = true) (w : World) (h : Rs w g s (-1)) :
    Calls Tryz.prog 50 #[.pointer (some ⟨g, 0, none⟩), .int .i64 a, .int .u8 ec] w (BhOk s g w (Js.skip (At s k))) := by
  subst ha
  obtain ⟨c0, c1, f0, f1⟩ := h.cells
  have HR := Lib.hid h
  have HY := Lib.hid hy
  clear h c1 f0 f1 hy
  go_enter Tryz.func50, Tryz.ntmps50
  go_wp2_with fail
  refine (blankEnd_any s hs _ k rfl hk w).mono ?_
  rintro e w' ⟨n, rfl, hn, hat, rfl⟩
  have hy := HY.out
  rw [← hat] at hy
  by_cases hlt : n < s.size
  · rw [At_cons s n hlt] at hy
    have hy2 : ((s[n].toNat : Int) == 44 || (s[n].toNat : Int) == ec) = true := hy
    have HAT := Lib.hid hat
    clear hy hat
    rcases beq_or' (s[n].toNat : Int) 44 with h44 | h44
    · have h44' : ((s[n].toNat : Int) != 44) = false := by rw [bne, h44]; rfl
      clear hy2
      go_wp2_with fail
      go_ret
      exact ⟨n, rfl, hlt, HAT.out, HR.out, Only.refl _ _⟩
    · have h44' : ((s[n].toNat : Int) != 44) = true := by rw [bne, h44]; rfl
      rw [h44] at hy2
      have hec : ((s[n].toNat : Int) == ec) = true := hy2
      have hec' : ((s[n].toNat : Int) != ec) = false := by rw [bne, hec]; rfl
      clear hy2
      go_wp2_with fail
      go_ret
      exact ⟨n, rfl, hlt, HAT.out, HR.out, Only.refl _ _⟩
  · rw [At_end s n (by omega)] at hy
    cases hy

set_option maxRecDepth 100000 in
set_option maxHeartbeats 4000000 in
theorem behind_no (s : ByteArray) (hs : s.size ≤ 1000000) (g : Nat) (a : Int) (k : Nat) (ha : a = (k : Int)) (hk : k ≤ s.size) (ec : Int) (hy : okBh (Js.skip (At s k)) ec = false) (w : World) (h : Rs w g s (-1)) :
    Calls Tryz.prog 50 #[.pointer (some ⟨g, 0, none⟩), .int .i64 a, .int .u8 ec] w (No s g w) := by
  subst ha
  obtain ⟨c0, c1, f0, f1⟩ := h.cells
  have HR := Lib.hid h
  have HY := Lib.hid hy
  clear h c1 f0 f1 hy
  go_enter Tryz.func50, Tryz.ntmps50
  go_wp2_with fail
  refine (blankEnd_any s hs _ k rfl hk w).mono ?_
  rintro e w' ⟨n, rfl, hn, hat, rfl⟩
  have hy := HY.out
  rw [← hat] at hy
  by_cases hlt : n < s.size
  · rw [At_cons s n hlt] at hy
    have hy2 : ((s[n].toNat : Int) == 44 || (s[n].toNat : Int) == ec) = false := hy
    clear hy hat
    rw [Bool.or_eq_false_iff] at hy2
    obtain ⟨h44, hec⟩ := hy2
    have h44' : ((s[n].toNat : Int) != 44) = true := by rw [bne, h44]; rfl
    have hec' : ((s[n].toNat : Int) != ec) = true := by rw [bne, hec]; rfl
    go_wp2_with (first | (go_at_call 21; refine (fail_any s g _ n rfl hn _ HR.out).mono ?_; rintro e w' ⟨m, b, rfl, hm, hr, ho⟩))
    go_ret
    exact ⟨m, b, rfl, hm, hr, ho⟩
  · clear hy hat
    go_wp2_with (first | (go_at_call 21; refine (fail_any s g _ n rfl hn _ HR.out).mono ?_; rintro e w' ⟨m, b, rfl, hm, hr, ho⟩))
    go_ret
    exact ⟨m, b, rfl, hm, hr, ho⟩

/-- The contract of 'value', at so much fuel. -/
def Vc (s : ByteArray) (g : Nat) (f : Nat) : Prop :=
  ∀ (a d : Int) (k deep : Nat), a = (k : Int) → d = (deep : Int) → k ≤ s.size → deep ≤ 10000 → 2 * (s.size - k) + 2 ≤ f → ∀ w, Rs w g s (-1) →
    Calls Tryz.prog 20 #[.pointer (some ⟨g, 0, none⟩), .int .i64 a, .int .i64 d] w (Rd s g w (Js.pVal f deep (At s k)))

/-- An array from behind its bracket on. -/
def arrOf (f deep : Nat) (l : List UInt8) : Option (List UInt8) := match Js.skip l with | [] => Js.pArr f deep l | d :: l' => if d.toNat == 93 then some l' else Js.pArr f deep l

/-- The loop over the elements, at its head. -/
def ArrAt (s : ByteArray) (g : Nat) (w : World) (F deep k : Nat) (gk : Nat) (i : Value) (wr : World) : Prop :=
  ∃ n : Nat, i = .int .i64 (n : Int) ∧ n ≤ s.size ∧ Only g w wr ∧
    ((n < s.size ∧ Rs wr g s (-1) ∧ ∃ f, gk = f + 1 ∧ f ≤ F ∧ 2 * (s.size - (n + 1)) + 3 ≤ f ∧ Js.pArr F deep (At s (k + 1)) = Js.pArr f deep (At s (n + 1))) ∨
     (∃ b : Nat, gk = 0 ∧ Rs wr g s (b : Int) ∧ Js.pArr F deep (At s (k + 1)) = none))

set_option maxRecDepth 100000 in
set_option maxHeartbeats 8000000 in
theorem array_any (s : ByteArray) (hs : s.size ≤ 1000000) (g : Nat) (F : Nat) (hV : ∀ f, f < F → Vc s g f) (a d : Int) (k deep : Nat) (ha : a = (k : Int)) (hd : d = (deep : Int)) (hk : k < s.size) (hdeep : deep ≤ 10000)
    (hF : 2 * (s.size - (k + 1)) + 3 ≤ F) (w : World) (h : Rs w g s (-1)) :
    Calls Tryz.prog 35 #[.pointer (some ⟨g, 0, none⟩), .int .i64 a, .int .i64 d] w (Rd s g w (arrOf F deep (At s (k + 1)))) := by
  subst ha hd
  obtain ⟨c0, c1, f0, f1⟩ := h.cells
  have HR0 := Lib.hid h
  have HV := Lib.hid hV
  clear h f0 f1 hV
  go_enter Tryz.func35, Tryz.ntmps35
  go_wp2_with fail
  refine (blankEnd_any s hs ((k : Int) + 1) (k + 1) (by omega) (by omega) w).mono ?_
  rintro e w' ⟨n0, rfl, hn0, hat, rfl⟩
  cases h93 : isAt s n0 93 with
  | true =>
    have hlt := isAt_lt h93
    have h93' : ((s[n0].toNat : Int) == 93) = true := (isAt_yes hlt).symm.trans h93
    have HE : Hid (arrOf F deep (At s (k + 1)) = some (At s (n0 + 1))) := by
      show arrOf F deep (At s (k + 1)) = some (At s (n0 + 1))
      unfold arrOf
      rw [← hat, At_cons s n0 hlt]
      simp only [bn]
      exact if_pos h93'
    clear hat
    go_wp2_with fail
    go_ret
    rw [HE.out]
    exact ⟨n0 + 1, by go_num, by omega, rfl, HR0.out, Only.refl _ _⟩
  | false =>
    have HE : Hid (arrOf F deep (At s (k + 1)) = Js.pArr F deep (At s (k + 1))) := by
      show arrOf F deep (At s (k + 1)) = Js.pArr F deep (At s (k + 1))
      unfold arrOf
      rw [← hat]
      by_cases hlt : n0 < s.size
      · rw [At_cons s n0 hlt]
        simp only [bn]
        exact if_neg (by rw [show ((s[n0].toNat : Int) == ((93 : Nat) : Int)) = false from (isAt_yes hlt).symm.trans h93]; decide)
      · rw [At_end s n0 (by omega)]
    have hne : n0 < s.size → ∀ hlt : n0 < s.size, ((s[n0].toNat : Int) == 93) = false := fun _ hlt => (isAt_yes hlt).symm.trans h93
    clear hat h93
    go_upto_region 2 with fail
    go_cut [30] (fun s30 wx => w = wx ∧ s30 = .bool false)
    case first =>
      by_cases hlt : n0 < s.size
      · have h93' := hne hlt hlt
        clear hne
        go_wp2_with fail
        go_meet
        exact ⟨rfl, rfl⟩
      · clear hne
        go_wp2_with fail
        go_meet
        exact ⟨rfl, rfl⟩
    case rest =>
    obtain ⟨rfl, rfl⟩ := hcut
    clear hne
    go_wp2_with fail
    go_loopg [1] (F + 1) (fun gk i wr => ArrAt s g w F deep k gk i wr)
    case atStart => exact ⟨k, rfl, by omega, Only.refl _ _, .inl ⟨hk, HR0.out, F, rfl, Nat.le_refl _, hF, rfl⟩⟩
    case round =>
      obtain ⟨n, rfl, hn, ho, hmode⟩ := hrel
      have HO := Lib.hid ho
      clear ho
      rcases hmode with ⟨hlt, hr, f, hgk, hfF, hfuel, hpar⟩ | ⟨b, hgk, hr, hpar⟩
      · obtain ⟨f', hf'⟩ : ∃ f', f = f' + 1 := ⟨f - 1, by omega⟩
        have hv := HV.out f' (by omega) ((n : Int) + 1) (deep : Int) (n + 1) deep (by omega) rfl (by omega) hdeep (by omega) wr hr
        obtain ⟨x0, x1, _, _⟩ := hr.cells
        have HPA := Lib.hid hpar
        have HGK := Lib.hid hgk
        have HFF := Lib.hid hf'
        clear hpar hgk hf' hr c0 c1
        cases hp : Js.pVal f' deep (At s (n + 1)) with
        | none =>
          rw [hp] at hv
          have HVV := Lib.hid hv
          have HP := Lib.hid hp
          have HN : Hid (Js.pArr F deep (At s (k + 1)) = none) := by
            show Js.pArr F deep (At s (k + 1)) = none
            rw [HPA.out, HFF.out, Js.pArr, HP.out]
          clear hv hp
          go_wp2_with (first | (go_at_call 20; refine HVV.out.mono ?_; rintro e w' ⟨m, b, rfl, hm, hr, ho⟩; obtain ⟨y0, y1, _, _⟩ := hr.cells))
          go_roundg 0
          case measure => rw [HGK.out]; omega
          case rel => exact ⟨m, rfl, hm, HO.out.trans ho, .inr ⟨b, rfl, hr, HN.out⟩⟩
        | some r =>
          rw [hp] at hv
          have HVV := Lib.hid hv
          have HP := Lib.hid hp
          clear hv hp
          go_wp2_with (first | (go_at_call 20; refine HVV.out.mono ?_; rintro e w' ⟨m, rfl, hm, hat2, hr, ho⟩; obtain ⟨y0, y1, _, _⟩ := hr.cells))
          have hat2' : At s m = r := hat2
          have hrr : Rs w' g s (-1) := hr
          have HAT := Lib.hid hat2'
          have HR2 := Lib.hid hrr
          have HO2 := Lib.hid (HO.out.trans ho)
          clear hat2 hr ho hat2' hrr
          cases hb : okBh (Js.skip (At s m)) 93 with
          | false =>
            have HBH := Lib.hid (behind_no s hs g (m : Int) m rfl hm 93 hb w' HR2.out)
            have HN : Hid (Js.pArr F deep (At s (k + 1)) = none) := by
              show Js.pArr F deep (At s (k + 1)) = none
              rw [HPA.out, HFF.out, Js.pArr, HP.out, ← HAT.out]
              dsimp only
              cases hsk : Js.skip (At s m) with
              | nil => rfl
              | cons c r' =>
                rw [hsk] at hb
                have hb2 : ((c.toNat : Int) == 44 || (c.toNat : Int) == 93) = false := hb
                rw [Bool.or_eq_false_iff] at hb2
                dsimp only
                rw [if_neg (by rw [bn, show ((c.toNat : Int) == ((93 : Nat) : Int)) = false from hb2.2]; decide), if_neg (by rw [bn, show ((c.toNat : Int) == ((44 : Nat) : Int)) = false from hb2.1]; decide)]
            clear hb
            go_wp2_with (first | (go_at_call 50; refine HBH.out.mono ?_; rintro e w' ⟨m2, b, rfl, hm2, hr, ho⟩; obtain ⟨z0, z1, _, _⟩ := hr.cells))
            go_roundg 0
            case measure => rw [HGK.out]; omega
            case rel => exact ⟨m2, rfl, hm2, HO2.out.trans ho, .inr ⟨b, rfl, hr, HN.out⟩⟩
          | true =>
            have HBH := Lib.hid (behind_yes s hs g (m : Int) m rfl hm 93 hb w' HR2.out)
            have HB := Lib.hid hb
            clear hb
            go_wp2_with fail
            refine HBH.out.mono ?_
            rintro e w3 ⟨m2, rfl, hm2, hat3, hr3, ho3⟩
            obtain ⟨z0, z1, _, _⟩ := hr3.cells
            have hlen := congrArg List.length hat3
            have hskl := Js.skip_le (At s m)
            have hpl := (Js.p_le f' deep _ _).1 HP.out
            rw [At_length] at hlen
            rw [At_length] at hskl
            rw [← HAT.out, At_length, At_length] at hpl
            have hat3' : Js.skip (At s m) = s[m2] :: At s (m2 + 1) := by rw [← At_cons s m2 hm2]; exact hat3.symm
            have hb2 : ((s[m2].toNat : Int) == 44 || (s[m2].toNat : Int) == 93) = true := by
              have := HB.out
              rw [hat3'] at this
              exact this
            have HAT3 := Lib.hid hat3'
            have HR3 : Hid (Rs w3 g s (-1)) := hr3
            have HO3 : Hid (Only g w w3) := HO2.out.trans ho3
            have hml : m ≤ m2 := by omega
            have hnm : n + 1 ≤ m := by omega
            clear hat3 hat3' hr3 ho3 hlen hskl hpl
            rcases beq_or' (s[m2].toNat : Int) 93 with h93' | h93'
            · have HN : Hid (Js.pArr F deep (At s (k + 1)) = some (At s (m2 + 1))) := by
                show Js.pArr F deep (At s (k + 1)) = some (At s (m2 + 1))
                rw [HPA.out, HFF.out, Js.pArr, HP.out, ← HAT.out]
                dsimp only
                rw [HAT3.out]
                dsimp only
                rw [if_pos (by rw [bn]; exact h93')]
              clear hb2
              go_wp2_with fail
              go_ret
              rw [HE.out, HN.out]
              exact ⟨m2 + 1, by go_num, by omega, rfl, HR3.out, HO3.out⟩
            · rw [h93', Bool.or_false] at hb2
              have HN : Hid (Js.pArr F deep (At s (k + 1)) = Js.pArr f' deep (At s (m2 + 1))) := by
                show Js.pArr F deep (At s (k + 1)) = Js.pArr f' deep (At s (m2 + 1))
                rw [HPA.out, HFF.out, Js.pArr, HP.out, ← HAT.out]
                dsimp only
                rw [HAT3.out]
                dsimp only
                rw [if_neg (by rw [bn, show ((s[m2].toNat : Int) == ((93 : Nat) : Int)) = false from h93']; decide), if_pos (by rw [bn]; exact hb2)]
              clear hb2
              go_wp2_with fail
              go_roundg (f' + 1)
              case measure => rw [HGK.out, HFF.out]; omega
              case rel => exact ⟨m2, rfl, by omega, HO3.out, .inl ⟨hm2, HR3.out, f', rfl, by have := HFF.out; omega, by have := HFF.out; omega, HN.out⟩⟩
      · obtain ⟨x0, x1, _, _⟩ := hr.cells
        have HR := Lib.hid hr
        have HN := Lib.hid hpar
        clear hr hpar hgk c0 c1
        go_wp2_with fail
        go_ret
        rw [HE.out, HN.out]
        exact ⟨n, b, rfl, hn, HR.out, HO.out⟩

end Go.Proofs.YtlmhpmbgalmpgaaGreatDoor
