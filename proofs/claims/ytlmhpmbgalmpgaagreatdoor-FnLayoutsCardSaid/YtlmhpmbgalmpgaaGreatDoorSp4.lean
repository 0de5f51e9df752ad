/-
  The reference's reader of numbers.
-/
import Derived.Test.YtlmhpmbgalmpgaaGreatDoorSp3
import Derived.Deep.DeepCutAuto
import Derived.Deep.CutBlock
namespace Go.Proofs.YtlmhpmbgalmpgaaGreatDoor
open Go.RowKit

/-- Does this byte stand here? -/
def isAt (s : ByteArray) (n : Nat) (k : Int) : Bool := match At s n with | [] => false | c :: _ => (c.toNat : Int) == k
theorem isAt_yes {s : ByteArray} {n : Nat} {k : Int} (h : n < s.size) : isAt s n k = ((s[n].toNat : Int) == k) := by unfold isAt; rw [At_cons s n h]
theorem isAt_end {s : ByteArray} {n : Nat} {k : Int} (h : ¬ n < s.size) : isAt s n k = false := by unfold isAt; rw [At_end s n (by omega)]
theorem isAt_lt {s : ByteArray} {n : Nat} {k : Int} (h : isAt s n k = true) : n < s.size := by
  by_cases hn : n < s.size
  · exact hn
  · rw [isAt_end hn] at h; cases h

/-- Between two parts of a number: what is still to be read. -/
def Mid (s : ByteArray) (g : Nat) (w : World) (o r : Option (List UInt8)) (s1 : Value) (wx : World) : Prop :=
  (∃ n : Nat, s1 = .int .i64 (n : Int) ∧ n ≤ s.size ∧ Rs wx g s (-1) ∧ Only g w wx ∧ o = r)
def Mids (s : ByteArray) (g : Nat) (w : World) (o : Option (List UInt8)) (f : List UInt8 → Option (List UInt8)) (s1 : Value) (wx : World) : Prop :=
  (∃ n : Nat, s1 = .int .i64 (n : Int) ∧ n ≤ s.size ∧ Rs wx g s (-1) ∧ Only g w wx ∧ o = f (At s n)) ∨
  (∃ n b : Nat, s1 = .int .i64 (n : Int) ∧ n ≤ s.size ∧ Rs wx g s (b : Int) ∧ Only g w wx ∧ o = none)

set_option maxRecDepth 100000 in
set_option maxHeartbeats 16000000 in
theorem number_any (s : ByteArray) (hs : s.size ≤ 1000000) (g : Nat) (a : Int) (k : Nat) (ha : a = (k : Int)) (hk : k < s.size) (w : World) (h : Rs w g s (-1)) :
    Calls Tryz.prog 40 #[.pointer (some ⟨g, 0, none⟩), .int .i64 a] w (Rd s g w (Js.pNum (At s k))) := by
  subst ha
  obtain ⟨c0, c1, f0, f1⟩ := h.cells
  have HR := Lib.hid h
  clear h c1 f0 f1
  go_enter Tryz.func40, Tryz.ntmps40
  go_upto_if 11 with fail
  go_cut [1] (fun s1 wx => w = wx ∧ ∃ j : Nat, s1 = .int .i64 (j : Int) ∧ j ≤ s.size ∧ Js.pNum (At s k) = (Js.pInt (At s j)).bind Js.pFrac)
  case first =>
    rcases beq_or' (s[k].toNat : Int) 45 with h45 | h45
    · go_wp2_with fail
      go_meet
      exact ⟨rfl, k + 1, by go_num, by omega, by rw [At_cons s k hk, Js.pNum, bn]; exact if_pos h45⟩
    · go_wp2_with fail
      go_meet
      exact ⟨rfl, k, rfl, by omega, by rw [At_cons s k hk, Js.pNum, bn]; exact if_neg (by rw [show ((s[k].toNat : Int) == ((45 : Nat) : Int)) = false from h45]; decide)⟩
  case rest =>
    obtain ⟨rfl, j, rfl, hj, hnum⟩ := hcut
    have HN := Lib.hid hnum
    clear hnum
    go_upto_block 0 with fail
    go_cut [1] (fun s1 wx => Mids s g w (Js.pNum (At s k)) Js.pFrac s1 wx)
    case first =>
      by_cases hz : ∃ h : j < s.size, ((s[j].toNat : Int) == 48) = true
      · obtain ⟨hlt, h48⟩ := hz
        have HC := Lib.hid (At_cons s j hlt)
        go_wp2_with fail
        go_meet
        refine .inl ⟨j + 1, by go_num, by omega, HR.out, Only.refl _ _, ?_⟩
        rw [HN.out, HC.out, Js.pInt, bn]
        exact congrArg (fun o => Option.bind o Js.pFrac) (if_pos h48)
      · have hint : Js.pInt (At s j) = Js.pDigits (At s j) := by
          by_cases hlt : j < s.size
          · rw [At_cons s j hlt, Js.pInt, bn]
            exact if_neg (fun h => hz ⟨hlt, h⟩)
          · rw [At_end s j (by omega)]; rfl
        have HI := Lib.hid hint
        have hd := digits_any s hs g (j : Int) j rfl hj w HR.out
        have hz2 : j < s.size → ∀ h : j < s.size, ((s[j].toNat : Int) == 48) = false := fun _ h => by
          rcases beq_or' (s[j].toNat : Int) 48 with h2 | h2
          · exact absurd ⟨h, h2⟩ hz
          · exact h2
        clear hint hz
        cases hp : Js.pDigits (At s j) with
        | none =>
          rw [hp] at hd
          have HD := Lib.hid hd
          have HP := Lib.hid hp
          clear hd hp
          by_cases hlt : j < s.size
          · have h48 := hz2 hlt hlt
            clear hz2
            go_wp2_with (first | (go_at_call 52; refine HD.out.mono ?_; rintro e w' ⟨n, b, rfl, hn, hr, ho⟩))
            go_meet
            exact .inr ⟨n, b, rfl, hn, hr, ho, by rw [HN.out, HI.out, HP.out]; rfl⟩
          · clear hz2
            go_wp2_with (first | (go_at_call 52; refine HD.out.mono ?_; rintro e w' ⟨n, b, rfl, hn, hr, ho⟩))
            go_meet
            exact .inr ⟨n, b, rfl, hn, hr, ho, by rw [HN.out, HI.out, HP.out]; rfl⟩
        | some r =>
          rw [hp] at hd
          have HD := Lib.hid hd
          have HP := Lib.hid hp
          clear hd hp
          by_cases hlt : j < s.size
          · have h48 := hz2 hlt hlt
            clear hz2
            go_wp2_with (first | (go_at_call 52; refine HD.out.mono ?_; rintro e w' ⟨n, rfl, hn, hat, hr, ho⟩))
            go_meet
            exact .inl ⟨n, rfl, hn, hr, ho, by rw [HN.out, HI.out, HP.out, ← hat]; rfl⟩
          · exfalso
            have := HP.out
            rw [At_end s j (by omega)] at this
            cases this
    case rest =>
      rcases hcut with ⟨n1, rfl, hn1, hr1, ho1, hp1⟩ | ⟨n1, b1, rfl, hn1, hr1, ho1, hp1⟩
      · have HP1 := Lib.hid hp1
        have HO1 := Lib.hid ho1
        have HR1 := Lib.hid hr1
        obtain ⟨d0, d1, _, _⟩ := hr1.cells
        clear hp1 ho1 hr1
        go_upto_region 6 with fail
        go_cut [58] (fun s58 wx => Rs wx g s (-1) ∧ Only g w wx ∧ s58 = .bool (isAt s n1 46))
        case first =>
          by_cases hlt : n1 < s.size
          · have HI := Lib.hid (isAt_yes (k := 46) hlt)
            rcases beq_or' (s[n1].toNat : Int) 46 with h46 | h46
            · go_wp2_with fail
              go_meet
              exact ⟨HR1.out, HO1.out, by rw [HI.out, h46]⟩
            · go_wp2_with fail
              go_meet
              exact ⟨HR1.out, HO1.out, by rw [HI.out, h46]⟩
          · have HI := Lib.hid (isAt_end (k := 46) hlt)
            go_wp2_with fail
            go_meet
            exact ⟨HR1.out, HO1.out, by rw [HI.out]⟩
        case rest =>
        clear d0 d1
        obtain ⟨hr6, ho6, rfl⟩ := hcut
        have HR6 := Lib.hid hr6
        have HO6 := Lib.hid ho6
        obtain ⟨d0, d1, _, _⟩ := hr6.cells
        clear hr6 ho6
        go_upto_if 58 with fail
        go_cut [1] (fun s1 wx => Mids s g w (Js.pNum (At s k)) Js.pExp s1 wx)
        case first =>
          cases hz : isAt s n1 46 with
          | true =>
            have hlt := isAt_lt hz
            have h46 : ((s[n1].toNat : Int) == 46) = true := (isAt_yes hlt).symm.trans hz
            have hfr : Js.pFrac (At s n1) = (Js.pDigits (At s (n1 + 1))).bind Js.pExp := by
              rw [At_cons s n1 hlt, Js.pFrac, bn]
              exact if_pos h46
            have HF := Lib.hid hfr
            have hd := digits_any s hs g ((n1 : Int) + 1) (n1 + 1) (by omega) (by omega) _ HR6.out
            clear hfr h46
            cases hp : Js.pDigits (At s (n1 + 1)) with
            | none =>
              rw [hp] at hd
              have HD := Lib.hid hd
              have HP := Lib.hid hp
              clear hd hp
              go_wp2_with (first | (go_at_call 52; refine HD.out.mono ?_; rintro e w' ⟨n, b, rfl, hn, hr, ho⟩))
              go_meet
              exact .inr ⟨n, b, rfl, hn, hr, HO6.out.trans ho, by rw [HP1.out, HF.out, HP.out]; rfl⟩
            | some r =>
              rw [hp] at hd
              have HD := Lib.hid hd
              have HP := Lib.hid hp
              clear hd hp
              go_wp2_with (first | (go_at_call 52; refine HD.out.mono ?_; rintro e w' ⟨n, rfl, hn, hat, hr, ho⟩))
              go_meet
              exact .inl ⟨n, rfl, hn, hr, HO6.out.trans ho, by rw [HP1.out, HF.out, HP.out, ← hat]; rfl⟩
          | false =>
            have hfr : Js.pFrac (At s n1) = Js.pExp (At s n1) := by
              by_cases hlt : n1 < s.size
              · have h46 : ((s[n1].toNat : Int) == 46) = false := (isAt_yes hlt).symm.trans hz
                rw [At_cons s n1 hlt, Js.pFrac, bn]
                exact if_neg (by rw [show ((s[n1].toNat : Int) == ((46 : Nat) : Int)) = false from h46]; decide)
              · rw [At_end s n1 (by omega)]; rfl
            have HF := Lib.hid hfr
            clear hfr
            go_wp2_with fail
            go_meet
            exact .inl ⟨n1, rfl, hn1, HR6.out, HO6.out, by rw [HP1.out, HF.out]⟩
        case rest =>
          clear d0 d1
          rcases hcut with ⟨n2, rfl, hn2, hr2, ho2, hp2⟩ | ⟨n2, b2, rfl, hn2, hr2, ho2, hp2⟩
          · have HP2 := Lib.hid hp2
            have HO2 := Lib.hid ho2
            have HR2 := Lib.hid hr2
            obtain ⟨d0, d1, _, _⟩ := hr2.cells
            clear hp2 ho2 hr2
            go_upto_region 8 with fail
            go_cut [94] (fun s94 wx => Rs wx g s (-1) ∧ Only g w wx ∧ s94 = .bool (isAt s n2 101 || isAt s n2 69))
            case first =>
              by_cases hlt : n2 < s.size
              · have HI := Lib.hid (isAt_yes (k := 101) hlt)
                have HI2 := Lib.hid (isAt_yes (k := 69) hlt)
                rcases beq_or' (s[n2].toNat : Int) 101 with h101 | h101
                · go_wp2_with fail
                  go_meet
                  exact ⟨HR2.out, HO2.out, by rw [HI.out, h101]; rfl⟩
                · rcases beq_or' (s[n2].toNat : Int) 69 with h69 | h69
                  · go_wp2_with fail
                    go_meet
                    exact ⟨HR2.out, HO2.out, by rw [HI.out, HI2.out, h101, h69]; rfl⟩
                  · go_wp2_with fail
                    go_meet
                    exact ⟨HR2.out, HO2.out, by rw [HI.out, HI2.out, h101, h69]; rfl⟩
              · have HI := Lib.hid (isAt_end (k := 101) hlt)
                have HI2 := Lib.hid (isAt_end (k := 69) hlt)
                go_wp2_with fail
                go_meet
                exact ⟨HR2.out, HO2.out, by rw [HI.out, HI2.out]; rfl⟩
            case rest =>
            clear d0 d1
            obtain ⟨hr8, ho8, rfl⟩ := hcut
            have HR8 := Lib.hid hr8
            have HO8 := Lib.hid ho8
            obtain ⟨d0, d1, _, _⟩ := hr8.cells
            clear hr8 ho8
            cases hz : (isAt s n2 101 || isAt s n2 69) with
            | true =>
              have hlt : n2 < s.size := by
                rw [Bool.or_eq_true] at hz
                rcases hz with h | h <;> exact isAt_lt h
              have hfr : Js.pExp (At s n2) = Js.pDigits (Js.pSign (At s (n2 + 1))) := by
                rw [isAt_yes hlt, isAt_yes hlt] at hz
                rw [At_cons s n2 hlt, Js.pExp, bn, bn]
                exact if_pos hz
              have HF := Lib.hid hfr
              clear hfr
              go_upto_region 10 with fail
              go_cut [121] (fun s121 wx => Rs wx g s (-1) ∧ Only g w wx ∧ s121 = .bool (isAt s (n2 + 1) 43 || isAt s (n2 + 1) 45))
              case first =>
                clear hz
                by_cases hlt2 : n2 + 1 < s.size
                · have HI := Lib.hid (isAt_yes (k := 43) hlt2)
                  have HI2 := Lib.hid (isAt_yes (k := 45) hlt2)
                  rcases beq_or' (s[n2 + 1].toNat : Int) 43 with h43 | h43
                  · go_wp2_with fail
                    go_meet
                    exact ⟨HR8.out, HO8.out, by rw [HI.out, h43]; rfl⟩
                  · rcases beq_or' (s[n2 + 1].toNat : Int) 45 with h45 | h45
                    · go_wp2_with fail
                      go_meet
                      exact ⟨HR8.out, HO8.out, by rw [HI.out, HI2.out, h43, h45]; rfl⟩
                    · go_wp2_with fail
                      go_meet
                      exact ⟨HR8.out, HO8.out, by rw [HI.out, HI2.out, h43, h45]; rfl⟩
                · have HI := Lib.hid (isAt_end (k := 43) hlt2)
                  have HI2 := Lib.hid (isAt_end (k := 45) hlt2)
                  go_wp2_with fail
                  go_meet
                  exact ⟨HR8.out, HO8.out, by rw [HI.out, HI2.out]; rfl⟩
              case rest =>
              clear d0 d1 hz
              obtain ⟨hr9, ho9, rfl⟩ := hcut
              have HR9 := Lib.hid hr9
              have HO9 := Lib.hid ho9
              obtain ⟨d0, d1, _, _⟩ := hr9.cells
              clear hr9 ho9
              go_upto_if 121 with fail
              go_cut [1] (fun s1 wx => Rs wx g s (-1) ∧ Only g w wx ∧ ∃ j : Nat, s1 = .int .i64 (j : Int) ∧ j ≤ s.size ∧ Js.pSign (At s (n2 + 1)) = At s j)
              case first =>
                cases hy : (isAt s (n2 + 1) 43 || isAt s (n2 + 1) 45) with
                | true =>
                  have hlt2 : n2 + 1 < s.size := by
                    rw [Bool.or_eq_true] at hy
                    rcases hy with h | h <;> exact isAt_lt h
                  have hsg : Js.pSign (At s (n2 + 1)) = At s (n2 + 1 + 1) := by
                    rw [isAt_yes hlt2, isAt_yes hlt2] at hy
                    rw [At_cons s (n2 + 1) hlt2, Js.pSign, bn, bn]
                    exact if_pos hy
                  have HSG := Lib.hid hsg
                  clear hsg
                  go_wp2_with fail
                  go_meet
                  exact ⟨HR9.out, HO9.out, n2 + 1 + 1, by go_num, by omega, HSG.out⟩
                | false =>
                  have hsg : Js.pSign (At s (n2 + 1)) = At s (n2 + 1) := by
                    by_cases hlt2 : n2 + 1 < s.size
                    · rw [isAt_yes hlt2, isAt_yes hlt2] at hy
                      rw [At_cons s (n2 + 1) hlt2, Js.pSign, bn, bn]
                      exact if_neg (by rw [show ((s[n2 + 1].toNat : Int) == ((43 : Nat) : Int) || (s[n2 + 1].toNat : Int) == ((45 : Nat) : Int)) = false from hy]; decide)
                    · rw [At_end s (n2 + 1) (by omega)]; rfl
                  have HSG := Lib.hid hsg
                  clear hsg
                  go_wp2_with fail
                  go_meet
                  exact ⟨HR9.out, HO9.out, n2 + 1, by go_num, by omega, HSG.out⟩
              case rest =>
                obtain ⟨hr3, ho3, j3, rfl, hj3, hp3⟩ := hcut
                have HO3 := Lib.hid ho3
                have HP3 := Lib.hid hp3
                have hd := digits_any s hs g (j3 : Int) j3 rfl hj3 _ hr3
                clear hr3 ho3 hp3 d0 d1
                cases hp : Js.pDigits (At s j3) with
                | none =>
                  rw [hp] at hd
                  have HD := Lib.hid hd
                  have HP := Lib.hid hp
                  clear hd hp
                  go_wp2_with (first | (go_at_call 52; refine HD.out.mono ?_; rintro e w' ⟨n, b, rfl, hn, hr, ho⟩))
                  go_ret
                  rw [HP2.out, HF.out, HP3.out, HP.out]
                  exact ⟨n, b, rfl, hn, hr, HO3.out.trans ho⟩
                | some r =>
                  rw [hp] at hd
                  have HD := Lib.hid hd
                  have HP := Lib.hid hp
                  clear hd hp
                  go_wp2_with (first | (go_at_call 52; refine HD.out.mono ?_; rintro e w' ⟨n, rfl, hn, hat, hr, ho⟩))
                  go_ret
                  rw [HP2.out, HF.out, HP3.out, HP.out]
                  exact ⟨n, rfl, hn, hat, hr, HO3.out.trans ho⟩
            | false =>
              have hfr : Js.pExp (At s n2) = some (At s n2) := by
                by_cases hlt : n2 < s.size
                · rw [isAt_yes hlt, isAt_yes hlt] at hz
                  rw [At_cons s n2 hlt, Js.pExp, bn, bn]
                  exact if_neg (by rw [show ((s[n2].toNat : Int) == ((101 : Nat) : Int) || (s[n2].toNat : Int) == ((69 : Nat) : Int)) = false from hz]; decide)
                · rw [At_end s n2 (by omega)]; rfl
              have HF := Lib.hid hfr
              clear hfr
              go_wp2_with fail
              go_ret
              rw [HP2.out, HF.out]
              exact ⟨n2, rfl, hn2, rfl, HR8.out, HO8.out⟩
          · have HP2 := Lib.hid hp2
            have HO2 := Lib.hid ho2
            have HR2 := Lib.hid hr2
            obtain ⟨d0, d1, _, _⟩ := hr2.cells
            clear hp2 ho2 hr2
            go_wp2_with fail
            go_ret
            rw [HP2.out]
            exact ⟨n2, b2, rfl, hn2, HR2.out, HO2.out⟩
      · have HP1 := Lib.hid hp1
        have HO1 := Lib.hid ho1
        have HR1 := Lib.hid hr1
        obtain ⟨d0, d1, _, _⟩ := hr1.cells
        clear hp1 ho1 hr1
        go_wp2_with fail
        go_ret
        rw [HP1.out]
        exact ⟨n1, b1, rfl, hn1, HR1.out, HO1.out⟩

end Go.Proofs.YtlmhpmbgalmpgaaGreatDoor
