/-
  The reference's readers of objects.
-/
import Derived.Test.YtlmhpmbgalmpgaaGreatDoorSp6
namespace Go.Proofs.YtlmhpmbgalmpgaaGreatDoor
open Go.RowKit

/-- An object from behind its bracket on. -/
def objOf (f deep : Nat) (l : List UInt8) : Option (List UInt8) := match Js.skip l with | [] => Js.pObj f deep l | d :: l' => if d.toNat == 125 then some l' else Js.pObj f deep l

/-- The loop over the members, at its head. -/
def ObjAt (s : ByteArray) (g : Nat) (w : World) (F deep k : Nat) (gk : Nat) (i : Value) (wr : World) : Prop :=
  ∃ n : Nat, i = .int .i64 (n : Int) ∧ n ≤ s.size ∧ Only g w wr ∧
    ((n < s.size ∧ Rs wr g s (-1) ∧ ∃ f, gk = f + 1 ∧ f ≤ F ∧ 2 * (s.size - (n + 1)) + 3 ≤ f ∧ Js.pObj F deep (At s (k + 1)) = Js.pObj f deep (At s (n + 1))) ∨
     (∃ b : Nat, gk = 0 ∧ Rs wr g s (b : Int) ∧ Js.pObj F deep (At s (k + 1)) = none))

set_option maxRecDepth 100000 in
set_option maxHeartbeats 16000000 in
theorem object_any (s : ByteArray) (hs : s.size ≤ 1000000) (g : Nat) (F : Nat) (hV : ∀ f, f < F → Vc s g f) (a d : Int) (k deep : Nat) (ha : a = (k : Int)) (hd : d = (deep : Int)) (hk : k < s.size) (hdeep : deep ≤ 10000)
    (hF : 2 * (s.size - (k + 1)) + 3 ≤ F) (w : World) (h : Rs w g s (-1)) :
    Calls Tryz.prog 36 #[.pointer (some ⟨g, 0, none⟩), .int .i64 a, .int .i64 d] w (Rd s g w (objOf F deep (At s (k + 1)))) := by
  subst ha hd
  obtain ⟨c0, c1, f0, f1⟩ := h.cells
  have HR0 := Lib.hid h
  have HV := Lib.hid hV
  clear h f0 f1 hV
  go_enter Tryz.func36, Tryz.ntmps36
  go_wp2_with fail
  refine (blankEnd_any s hs ((k : Int) + 1) (k + 1) (by omega) (by omega) w).mono ?_
  rintro e w' ⟨n0, rfl, hn0, hat, rfl⟩
  cases h125 : isAt s n0 125 with
  | true =>
    have hlt := isAt_lt h125
    have h125' : ((s[n0].toNat : Int) == 125) = true := (isAt_yes hlt).symm.trans h125
    have HE : Hid (objOf F deep (At s (k + 1)) = some (At s (n0 + 1))) := by
      show objOf F deep (At s (k + 1)) = some (At s (n0 + 1))
      unfold objOf
      rw [← hat, At_cons s n0 hlt]
      simp only [bn]
      exact if_pos h125'
    clear hat
    go_wp2_with fail
    go_ret
    rw [HE.out]
    exact ⟨n0 + 1, by go_num, by omega, rfl, HR0.out, Only.refl _ _⟩
  | false =>
    have HE : Hid (objOf F deep (At s (k + 1)) = Js.pObj F deep (At s (k + 1))) := by
      show objOf F deep (At s (k + 1)) = Js.pObj F deep (At s (k + 1))
      unfold objOf
      rw [← hat]
      by_cases hlt : n0 < s.size
      · rw [At_cons s n0 hlt]
        simp only [bn]
        exact if_neg (by rw [show ((s[n0].toNat : Int) == ((125 : Nat) : Int)) = false from (isAt_yes hlt).symm.trans h125]; decide)
      · rw [At_end s n0 (by omega)]
    have hne : n0 < s.size → ∀ hlt : n0 < s.size, ((s[n0].toNat : Int) == 125) = false := fun _ hlt => (isAt_yes hlt).symm.trans h125
    clear hat h125
    go_upto_region 2 with fail
    go_cut [30] (fun s30 wx => w = wx ∧ s30 = .bool false)
    case first =>
      by_cases hlt : n0 < s.size
      · have h125' := hne hlt hlt
        clear hne
        go_wp2_with fail
        go_meet
        exact ⟨rfl, rfl⟩
      · clear hne
        go_wp2_with fail
        go_meet
        exact ⟨rfl, rfl⟩
    case rest =>
    obtain ⟨rfl, rfl⟩ := hcut
    clear hne
    go_wp2_with fail
    go_loopg [1] (F + 1) (fun gk i wr => ObjAt s g w F deep k gk i wr)
    case atStart => exact ⟨k, rfl, by omega, Only.refl _ _, .inl ⟨hk, HR0.out, F, rfl, Nat.le_refl _, hF, rfl⟩⟩
    case round =>
      obtain ⟨n, rfl, hn, ho, hmode⟩ := hrel
      have HO := Lib.hid ho
      clear ho
      rcases hmode with ⟨hlt, hr, f, hgk, hfF, hfuel, hpar⟩ | ⟨b, hgk, hr, hpar⟩
      · obtain ⟨f', hf'⟩ : ∃ f', f = f' + 1 := ⟨f - 1, by omega⟩
        obtain ⟨x0, x1, _, _⟩ := hr.cells
        have HPA := Lib.hid hpar
        have HGK := Lib.hid hgk
        have HFF := Lib.hid hf'
        have HR := Lib.hid hr
        clear hpar hgk hf' hr c0 c1
        go_wp2_with fail
        refine (blankEnd_any s hs ((n : Int) + 1) (n + 1) (by omega) (by omega) wr).mono ?_
        rintro e w' ⟨n1, rfl, hn1, hat1, hw1⟩
        subst hw1
        have hskl1 := Js.skip_le (At s (n + 1))
        rw [← hat1, At_length, At_length] at hskl1
        cases h34 : isAt s n1 34 with
        | false =>
          have HN : Hid (Js.pObj F deep (At s (k + 1)) = none) := by
            show Js.pObj F deep (At s (k + 1)) = none
            rw [HPA.out, HFF.out, Js.pObj, ← hat1]
            by_cases hl1 : n1 < s.size
            · rw [At_cons s n1 hl1]
              dsimp only
              rw [if_neg (by rw [bn, show ((s[n1].toNat : Int) == ((34 : Nat) : Int)) = false from (isAt_yes hl1).symm.trans h34]; decide)]
            · rw [At_end s n1 (by omega)]
          have hne : ∀ hlt : n1 < s.size, ((s[n1].toNat : Int) != 34) = true := fun hlt => by rw [bne, show ((s[n1].toNat : Int) == 34) = false from (isAt_yes hlt).symm.trans h34]; rfl
          clear hat1 h34
          by_cases hl1 : n1 < s.size
          · have h34' := hne hl1
            clear hne
            go_wp2_with (first | (go_at_call 21; refine (fail_any s g _ n1 rfl hn1 _ HR.out).mono ?_; rintro e w' ⟨m, b, rfl, hm, hr, ho⟩))
            go_ret
            rw [HE.out, HN.out]
            exact ⟨m, b, rfl, hm, hr, HO.out.trans ho⟩
          · clear hne
            go_wp2_with (first | (go_at_call 21; refine (fail_any s g _ n1 rfl hn1 _ HR.out).mono ?_; rintro e w' ⟨m, b, rfl, hm, hr, ho⟩))
            go_ret
            rw [HE.out, HN.out]
            exact ⟨m, b, rfl, hm, hr, HO.out.trans ho⟩
        | true =>
        have hl1 := isAt_lt h34
        have h34e : ((s[n1].toNat : Int) == 34) = true := (isAt_yes hl1).symm.trans h34
        have h34' : ((s[n1].toNat : Int) != 34) = false := by rw [bne, h34e]; rfl
        have HST1 : Hid (Js.pObj F deep (At s (k + 1)) = match Js.pStr (At s (n1 + 1)) with
            | none => none
            | some r => match Js.skip r with
              | [] => none
              | c :: r => if c.toNat == 58 then (match Js.pVal f' deep r with
                | none => none
                | some r => match Js.skip r with
                  | [] => none
                  | c :: r => if c.toNat == 125 then some r else if c.toNat == 44 then Js.pObj f' deep r else none) else none) := by
          show Js.pObj F deep (At s (k + 1)) = _
          rw [HPA.out, HFF.out, Js.pObj, ← hat1, At_cons s n1 hl1]
          dsimp only
          rw [if_pos (by rw [bn]; exact h34e)]
          rfl
        have ht := text_any s hs g (n1 : Int) n1 rfl hl1 wr HR.out
        clear h34 h34e hat1
        cases hp1 : Js.pStr (At s (n1 + 1)) with
        | none =>
          rw [hp1] at ht
          have HT := Lib.hid ht
          have HN : Hid (Js.pObj F deep (At s (k + 1)) = none) := by
            show Js.pObj F deep (At s (k + 1)) = none
            rw [HST1.out, hp1]
          clear ht hp1
          go_wp2_with (first | (go_at_call 37; refine HT.out.mono ?_; rintro e w' ⟨m, b, rfl, hm, hr, ho⟩; obtain ⟨y0, y1, _, _⟩ := hr.cells))
          go_ret
          rw [HE.out, HN.out]
          exact ⟨m, b, rfl, hm, hr, HO.out.trans ho⟩
        | some r1 =>
        rw [hp1] at ht
        have HT := Lib.hid ht
        have hpl1 := Js.pStr_le _ _ hp1
        have HP1 := Lib.hid hp1
        clear ht hp1
        go_wp2_with fail
        refine HT.out.mono ?_
        rintro e w2 ⟨n2, rfl, hn2, hat2, hr2, ho2⟩
        obtain ⟨y0, y1, _, _⟩ := hr2.cells
        rw [← hat2, At_length, At_length] at hpl1
        have HAT2 := Lib.hid hat2
        have HR2 := Lib.hid hr2
        have HO2 := Lib.hid (HO.out.trans ho2)
        clear hat2 hr2 ho2
        go_wp2_with fail
        refine (blankEnd_any s hs (n2 : Int) n2 rfl hn2 w2).mono ?_
        rintro e w' ⟨n3, rfl, hn3, hat3, hw3⟩
        subst hw3
        have hskl3 := Js.skip_le (At s n2)
        rw [← hat3, At_length, At_length] at hskl3
        cases h58 : isAt s n3 58 with
        | false =>
          have HN : Hid (Js.pObj F deep (At s (k + 1)) = none) := by
            show Js.pObj F deep (At s (k + 1)) = none
            rw [HST1.out, HP1.out, ← HAT2.out]
            dsimp only
            rw [← hat3]
            by_cases hl3 : n3 < s.size
            · rw [At_cons s n3 hl3]
              dsimp only
              rw [if_neg (by rw [bn, show ((s[n3].toNat : Int) == ((58 : Nat) : Int)) = false from (isAt_yes hl3).symm.trans h58]; decide)]
            · rw [At_end s n3 (by omega)]
          have hne : ∀ hlt : n3 < s.size, ((s[n3].toNat : Int) != 58) = true := fun hlt => by rw [bne, show ((s[n3].toNat : Int) == 58) = false from (isAt_yes hlt).symm.trans h58]; rfl
          clear hat3 h58
          by_cases hl3 : n3 < s.size
          · have h58' := hne hl3
            clear hne
            go_wp2_with (first | (go_at_call 21; refine (fail_any s g _ n3 rfl hn3 _ HR2.out).mono ?_; rintro e w' ⟨m, b, rfl, hm, hr, ho⟩))
            go_ret
            rw [HE.out, HN.out]
            exact ⟨m, b, rfl, hm, hr, HO2.out.trans ho⟩
          · clear hne
            go_wp2_with (first | (go_at_call 21; refine (fail_any s g _ n3 rfl hn3 _ HR2.out).mono ?_; rintro e w' ⟨m, b, rfl, hm, hr, ho⟩))
            go_ret
            rw [HE.out, HN.out]
            exact ⟨m, b, rfl, hm, hr, HO2.out.trans ho⟩
        | true =>
        have hl3 := isAt_lt h58
        have h58e : ((s[n3].toNat : Int) == 58) = true := (isAt_yes hl3).symm.trans h58
        have h58' : ((s[n3].toNat : Int) != 58) = false := by rw [bne, h58e]; rfl
        have HSTEP : Hid (Js.pObj F deep (At s (k + 1)) = match Js.pVal f' deep (At s (n3 + 1)) with
            | none => none
            | some r => match Js.skip r with
              | [] => none
              | c :: r => if c.toNat == 125 then some r else if c.toNat == 44 then Js.pObj f' deep r else none) := by
          show Js.pObj F deep (At s (k + 1)) = _
          rw [HST1.out, HP1.out, ← HAT2.out]
          dsimp only
          rw [← hat3, At_cons s n3 hl3]
          dsimp only
          rw [if_pos (by rw [bn]; exact h58e)]
        have hv := HV.out f' (by have := HFF.out; omega) ((n3 : Int) + 1) (deep : Int) (n3 + 1) deep (by omega) rfl (by omega) hdeep (by have := HFF.out; omega) w2 HR2.out
        have HO3b := HO2
        have hn13 : n + 1 ≤ n3 := by omega
        clear h58 h58e hat3 hskl1 x0 x1
        cases hp : Js.pVal f' deep (At s (n3 + 1)) with
        | none =>
          rw [hp] at hv
          have HVV := Lib.hid hv
          have HP := Lib.hid hp
          have HN : Hid (Js.pObj F deep (At s (k + 1)) = none) := by
            show Js.pObj F deep (At s (k + 1)) = none
            rw [HSTEP.out, HP.out]
          clear hv hp
          go_wp2_with (first | (go_at_call 20; refine HVV.out.mono ?_; rintro e w' ⟨m, b, rfl, hm, hr, ho⟩; obtain ⟨y0, y1, _, _⟩ := hr.cells))
          go_roundg 0
          case measure => rw [HGK.out]; omega
          case rel => exact ⟨m, rfl, hm, HO3b.out.trans ho, .inr ⟨b, rfl, hr, HN.out⟩⟩
        | some r =>
          rw [hp] at hv
          have HVV := Lib.hid hv
          have HP := Lib.hid hp
          clear hv hp
          go_wp2_with (first | (go_at_call 20; refine HVV.out.mono ?_; rintro e w' ⟨m, rfl, hm, hat2, hr, ho⟩; obtain ⟨y0, y1, _, _⟩ := hr.cells))
          have hat2' : At s m = r := hat2
          have hrr : Rs w' g s (-1) := hr
          have HAT := Lib.hid hat2'
          have HR2 := Lib.hid hrr
          have HO2 := Lib.hid (HO3b.out.trans ho)
          clear hat2 hr ho hat2' hrr
          cases hb : okBh (Js.skip (At s m)) 125 with
          | false =>
            have HBH := Lib.hid (behind_no s hs g (m : Int) m rfl hm 125 hb w' HR2.out)
            have HN : Hid (Js.pObj F deep (At s (k + 1)) = none) := by
              show Js.pObj F deep (At s (k + 1)) = none
              rw [HSTEP.out, HP.out, ← HAT.out]
              dsimp only
              cases hsk : Js.skip (At s m) with
              | nil => rfl
              | cons c r' =>
                rw [hsk] at hb
                have hb2 : ((c.toNat : Int) == 44 || (c.toNat : Int) == 125) = false := hb
                rw [Bool.or_eq_false_iff] at hb2
                dsimp only
                rw [if_neg (by rw [bn, show ((c.toNat : Int) == ((125 : Nat) : Int)) = false from hb2.2]; decide), if_neg (by rw [bn, show ((c.toNat : Int) == ((44 : Nat) : Int)) = false from hb2.1]; decide)]
            clear hb
            go_wp2_with (first | (go_at_call 50; refine HBH.out.mono ?_; rintro e w' ⟨m2, b, rfl, hm2, hr, ho⟩; obtain ⟨z0, z1, _, _⟩ := hr.cells))
            go_roundg 0
            case measure => rw [HGK.out]; omega
            case rel => exact ⟨m2, rfl, hm2, HO2.out.trans ho, .inr ⟨b, rfl, hr, HN.out⟩⟩
          | true =>
            have HBH := Lib.hid (behind_yes s hs g (m : Int) m rfl hm 125 hb w' HR2.out)
            have HB := Lib.hid hb
            clear hb
            go_wp2_with fail
            refine HBH.out.mono ?_
            rintro e w3 ⟨m2, rfl, hm2, hat3, hr3, ho3⟩
            obtain ⟨z0, z1, _, _⟩ := hr3.cells
            have hlen := congrArg List.length hat3
            have hskl := Js.skip_le (At s m)
            have hpl := (Js.p_le f' deep _ _).1 HP.out
            rw [At_length] at hlen
            rw [At_length] at hskl
            rw [← HAT.out, At_length, At_length] at hpl
            have hat3' : Js.skip (At s m) = s[m2] :: At s (m2 + 1) := by rw [← At_cons s m2 hm2]; exact hat3.symm
            have hb2 : ((s[m2].toNat : Int) == 44 || (s[m2].toNat : Int) == 125) = true := by
              have := HB.out
              rw [hat3'] at this
              exact this
            have HAT3 := Lib.hid hat3'
            have HR3 : Hid (Rs w3 g s (-1)) := hr3
            have HO3 : Hid (Only g w w3) := HO2.out.trans ho3
            have hml : m ≤ m2 := by omega
            have hnm : n3 + 1 ≤ m := by omega
            clear hat3 hat3' hr3 ho3 hlen hskl hpl
            rcases beq_or' (s[m2].toNat : Int) 125 with h125' | h125'
            · have HN : Hid (Js.pObj F deep (At s (k + 1)) = some (At s (m2 + 1))) := by
                show Js.pObj F deep (At s (k + 1)) = some (At s (m2 + 1))
                rw [HSTEP.out, HP.out, ← HAT.out]
                dsimp only
                rw [HAT3.out]
                dsimp only
                rw [if_pos (by rw [bn]; exact h125')]
              clear hb2
              go_wp2_with fail
              go_ret
              rw [HE.out, HN.out]
              exact ⟨m2 + 1, by go_num, by omega, rfl, HR3.out, HO3.out⟩
            · rw [h125', Bool.or_false] at hb2
              have HN : Hid (Js.pObj F deep (At s (k + 1)) = Js.pObj f' deep (At s (m2 + 1))) := by
                show Js.pObj F deep (At s (k + 1)) = Js.pObj f' deep (At s (m2 + 1))
                rw [HSTEP.out, HP.out, ← HAT.out]
                dsimp only
                rw [HAT3.out]
                dsimp only
                rw [if_neg (by rw [bn, show ((s[m2].toNat : Int) == ((125 : Nat) : Int)) = false from h125']; decide), if_pos (by rw [bn]; exact hb2)]
              clear hb2
              go_wp2_with fail
              go_roundg (f' + 1)
              case measure => rw [HGK.out, HFF.out]; omega
              case rel => exact ⟨m2, rfl, by omega, HO3.out, .inl ⟨hm2, HR3.out, f', rfl, by have := HFF.out; omega, by have := HFF.out; omega, HN.out⟩⟩
      · obtain ⟨x0, x1, _, _⟩ := hr.cells
        have HR := Lib.hid hr
        have HN := Lib.hid hpar
        clear hr hpar hgk c0 c1
        go_wp2_with fail
        go_ret
        rw [HE.out, HN.out]
        exact ⟨n, b, rfl, hn, HR.out, HO.out⟩

end Go.Proofs.YtlmhpmbgalmpgaaGreatDoor
