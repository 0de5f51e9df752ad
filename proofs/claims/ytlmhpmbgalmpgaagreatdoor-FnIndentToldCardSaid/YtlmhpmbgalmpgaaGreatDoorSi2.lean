/-
  spec.Indent.
-/
import Derived.Test.YtlmhpmbgalmpgaaGreatDoorSi1
import Derived.Test.YtlmhpmbgalmpgaaGreatDoorIn3
import Derived.Deep.CutBlock
namespace Go.Proofs.YtlmhpmbgalmpgaaGreatDoor
open Go.RowKit

theorem tz_at {s : ByteArray} {j : Nat} (hj : j ≤ s.size) (hb : Js.Bl (At s j)) (h : j = 0 ∨ ∃ k, ∃ h : k < s.size, j = k + 1 ∧ Js.sp s[k].toNat = false) : At s j = Js.tz s.data.toList := by
  rcases h with rfl | ⟨k, hk, rfl, hs⟩
  · have h0 : At s 0 = s.data.toList := by simp [At]
    rw [h0] at hb ⊢
    exact (Js.tz_bl hb).symm
  · have hc := At_cons s k hk
    have hsplit : s.data.toList = s.data.toList.take k ++ s[k] :: At s (k + 1) := by
      rw [← hc]
      show _ = _ ++ s.data.toList.drop k
      rw [List.take_append_drop]
    rw [hsplit, Js.tz_skip hs, Js.tz_bl hb]

theorem bl_at {s : ByteArray} {k : Nat} (hk : k < s.size) (h : Js.Bl (At s (k + 1))) (hs : Js.sp s[k].toNat = true) : Js.Bl (At s k) := by
  rw [At_cons s k hk]
  exact Js.Bl.cons hs h

theorem at_lt_last {s : ByteArray} {p last : Nat} (hp : p < s.size) (hs : Js.sp s[p].toNat = false) (hb : Js.Bl (At s last)) : p < last := by
  rcases Nat.lt_or_ge p last with h | h
  · exact h
  · exfalso
    have hm : s[p] ∈ At s last := by
      have e : At s last = (s.data.toList.drop last).take (p - last) ++ At s p := by
        show s.data.toList.drop last = _
        have := (List.take_append_drop (p - last) (s.data.toList.drop last)).symm
        rw [List.drop_drop, show last + (p - last) = p by omega] at this
        exact this
      rw [e, At_cons s p hp]
      exact List.mem_append_right _ (List.mem_cons_self ..)
    have := hb _ hm
    rw [hs] at this
    cases this

theorem tq_yes {t x : List UInt8} (h : t = x) : ((bs t).toList == x) = true := by
  rw [ByteArray.toList_eq, bs_list, h]
  simp

theorem tq_no {t x : List UInt8} (h : t ≠ x) : ((bs t).toList == x) = false := by
  rw [ByteArray.toList_eq, bs_list, beq_eq_false_iff_ne]
  exact h

theorem add_bs (X : World) (a b : List UInt8) (h : a.length + b.length ≤ 1000000000000000) : (Op.stringOp .add (bs a) (bs b)).run Tryz.prog X = .ok (.string (bs (a ++ b))) X := by
  rw [run_string_add_sum X _ _ (by rw [bs_size, bs_size]; omega), bs_add]

theorem cat_len {a b c d T : List UInt8} (h : a ++ (b ++ c) ++ d = T) : a.length + b.length ≤ T.length := by
  rw [← h]
  simp only [List.length_append]
  omega

namespace Js
/-- The line that a token owes ahead of it. -/
def tA (p i : List UInt8) (nd : Bool) (d : Int) (t : List UInt8) : List UInt8 × Int :=
  if nd && !(t == [93] || t == [125]) then (nl p i (d + 1), d + 1) else ([], d)

theorem tstep_next (p i : List UInt8) (nd : Bool) (d : Int) (t : List UInt8) : (tstep p i nd d t).2.1 = (t == [91] || t == [123]) := by
  unfold tstep
  simp only
  split
  · rename_i h
    simp only [Bool.or_eq_true, beq_iff_eq] at h
    rcases h with rfl | rfl <;> cases nd <;> rfl
  · split
    · rename_i h; subst h; rfl
    · split
      · rename_i h; subst h; rfl
      · rfl

theorem tstep_deep (p i : List UInt8) (nd : Bool) (d : Int) (t : List UInt8) : d - 1 ≤ (tstep p i nd d t).2.2 ∧ (tstep p i nd d t).2.2 ≤ d + 1 := by
  unfold tstep
  simp only
  repeat' split
  all_goals (dsimp only; exact ⟨by omega, by omega⟩)

theorem tstep_cl (p i : List UInt8) (nd : Bool) (d : Int) {t : List UInt8} (h : t = [93] ∨ t = [125]) : tstep p i nd d t = if nd then (t, false, d) else (nl p i (d - 1) ++ t, false, d - 1) := by
  rcases h with rfl | rfl <;> simp [tstep]

theorem tA_cl (p i : List UInt8) (nd : Bool) (d : Int) {t : List UInt8} (h : t = [93] ∨ t = [125]) : tA p i nd d t = ([], d) := by
  rcases h with rfl | rfl <;> simp [tA]

theorem tstep_comma (p i : List UInt8) (nd : Bool) (d : Int) {t : List UInt8} (h : t = [44]) : tstep p i nd d t = ((tA p i nd d t).1 ++ t ++ nl p i (tA p i nd d t).2, false, (tA p i nd d t).2) := by
  subst h
  cases nd <;> simp [tstep, tA]

theorem tstep_colon (p i : List UInt8) (nd : Bool) (d : Int) {t : List UInt8} (h : t = [58]) : tstep p i nd d t = ((tA p i nd d t).1 ++ [58, 32], false, (tA p i nd d t).2) := by
  subst h
  cases nd <;> simp [tstep, tA]

theorem tstep_else (p i : List UInt8) (nd : Bool) (d : Int) {t : List UInt8} (h1 : t ≠ [93]) (h2 : t ≠ [125]) (h3 : t ≠ [44]) (h4 : t ≠ [58]) : tstep p i nd d t = ((tA p i nd d t).1 ++ t, t == [91] || t == [123], (tA p i nd d t).2) := by
  have q1 : (t == [93]) = false := beq_eq_false_iff_ne.2 h1
  have q2 : (t == [125]) = false := beq_eq_false_iff_ne.2 h2
  cases nd <;> simp [tstep, tA, q1, q2, h3, h4]

theorem tA_len {p i : List UInt8} (hp : p.length ≤ 20) (hi : i.length ≤ 20) (nd : Bool) {d : Int} (t : List UInt8) {k : Nat} (hd : d ≤ k) (hd' : -(k : Int) ≤ d) (hk : k ≤ 4000) :
    (tA p i nd d t).1.length ≤ 90000 ∧ (tA p i nd d t).2 ≤ k + 1 ∧ -(k : Int) ≤ (tA p i nd d t).2 := by
  unfold tA
  split
  · have := nl_len hp hi (d := d + 1) (k := k + 1) (by omega)
    exact ⟨by show (nl p i (d + 1)).length ≤ _; omega, by show d + 1 ≤ (k : Int) + 1; omega, by show -(k : Int) ≤ d + 1; omega⟩
  · exact ⟨Nat.zero_le _, by show d ≤ (k : Int) + 1; omega, hd'⟩
end Js

set_option maxRecDepth 100000 in
set_option maxHeartbeats 16000000 in
theorem sindent_any (s p i : ByteArray) (hs : s.size ≤ 4000) (hp : p.size ≤ 20) (hi : i.size ≤ 20) (ha : Js.acc Js.init s.data.toList = true) (w : World) :
    Calls Tryz.prog 12 #[.string s, .string p, .string i] w (fun e w' => e = .returned (.string (bs (Js.ind p.data.toList i.data.toList Js.init false 0 s.data.toList))) ∧ Below w.heap.size w w') := by
  obtain ⟨ts0, z0, hts⟩ := Js.ts_init ha
  have htot := hts.ind p.data.toList i.data.toList false 0 (fun h => by cases h)
  rw [← hts.tz] at htot
  have hlen := Js.ind_len (l := s.data.toList) (p := p.data.toList) (i := i.data.toList) (by simpa using hp) (by simpa using hi) (by simpa using hs) ha
  have hsz : s.data.toList.length = s.size := by simp
  rw [hsz] at hlen
  obtain ⟨T, hT⟩ : ∃ T, Js.ind p.data.toList i.data.toList Js.init false 0 s.data.toList = T := ⟨_, rfl⟩
  rw [hT] at htot hlen ⊢
  have HTS := Lib.hid hts
  have HTO := Lib.hid htot
  have hmf : ∀ (fn : Fn) (first cap : Array Value) (w : World), (Instr.makeFunc fn first cap).run Tryz.prog w = .ok (.func fn first cap) w := fun _ _ _ _ => rfl
  clear ha hts htot hT hsz
  go_enter Tryz.func12, Tryz.ntmps12
  go_upto_block 0 with fail
  have HS0 := Lib.hid (SMem.start w p i)
  generalize (((w.alloc (.cells #[.string p] 9)).alloc (.cells #[.string i] 9)).alloc (.cells #[.string ⟨#[]⟩] 9)).alloc (.cells #[.int .i64 0] 3) = W0 at HS0 ⊢
  go_cut [11] from 18 to 28 (fun x wx => wx = W0 ∧ ∃ last : Nat, last ≤ s.size ∧ x = .int .i64 (last : Int) ∧ Js.Bl (At s last) ∧ At s last = Js.tz s.data.toList)
  case first =>
    go_wp2_with fail
    go_loopg [11] s.size (fun gk x wr => wr = W0 ∧ gk ≤ s.size ∧ x = .int .i64 (gk : Int) ∧ Js.Bl (At s gk))
    case atStart => exact ⟨rfl, Nat.le_refl _, rfl, by rw [At_end s s.size (Nat.le_refl _)]; exact Js.Bl.nil⟩
    case round =>
      obtain ⟨rfl, hgk, rfl, hbl⟩ := hrel
      cases gk with
      | zero =>
        go_wp2_with fail
        go_meet
        case rel => exact ⟨rfl, 0, Nat.zero_le _, rfl, hbl, tz_at (Nat.zero_le _) hbl (.inl rfl)⟩
      | succ k =>
        rw [show ((k + 1 : Nat) : Int) = (k : Int) + 1 from rfl]
        have hk : k < s.size := hgk
        cases hsp : Js.sp s[k].toNat with
        | true =>
          have hb : spI (s[k].toNat : Int) = true := (spI_sp (s[k].toNat : Int) (by omega)).symm.trans hsp
          go_wp2_with (first | (go_at_call 27; refine (blank_any _ _).mono ?_; rintro e w' ⟨rfl, rfl⟩))
          go_roundg k
          case rel => exact ⟨rfl, by omega, by go_num, bl_at hk hbl hsp⟩
          case measure => omega
        | false =>
          have hb : spI (s[k].toNat : Int) = false := (spI_sp (s[k].toNat : Int) (by omega)).symm.trans hsp
          go_wp2_with (first | (go_at_call 27; refine (blank_any _ _).mono ?_; rintro e w' ⟨rfl, rfl⟩))
          go_meet
          case rel => exact ⟨rfl, k + 1, hgk, rfl, hbl, tz_at hgk hbl (.inr ⟨k, hk, rfl, hsp⟩)⟩
  case rest =>
    obtain ⟨rfl, last, hla, rfl, hbl, htz⟩ := hcut
    rw [← htz] at HTO
    have HBL := Lib.hid hbl
    clear hbl htz
    go_wp2_with fail
    refine (blankEnd_any s (by omega) 0 0 rfl (Nat.zero_le _) _).mono ?_
    rintro e w1 ⟨n0, rfl, hn0, hat0, rfl⟩
    have HG0 := Lib.hid (AInv.start HTS.out hn0 hat0)
    clear hat0
    go_wp2_with fail
    go_loopg [9, 12] (s.size - n0) (fun gk x y wr => ∃ (k : Nat) (nd : Bool) (d : Int) (o : List UInt8) (ts : List (List UInt8)), gk + k = s.size ∧ x = .bool nd ∧ y = .int .i64 (k : Int) ∧ AInv s k ts ∧ o ++ Js.indT p.data.toList i.data.toList nd d ts ++ At s last = T ∧ -(k : Int) ≤ d ∧ d ≤ k ∧ SMem w wr (bs o) p i d)
    case atStart => exact ⟨n0, false, 0, [], ts0, by omega, rfl, rfl, HG0.out, HTO.out.symm, by omega, by omega, HS0.out⟩
    case round =>
      obtain ⟨k, nd, d, o, ts, hgk, rfl, rfl, hin, htt, hd1, hd2, hm⟩ := hrel
      have hple := hin.ple
      have HIN := Lib.hid hin
      have HM := Lib.hid hm
      have HGK := Lib.hid hgk
      have HTT := Lib.hid htt
      clear hin hm hgk htt
      by_cases hlt : k < s.size
      · obtain ⟨t1, hsp, u, ts', hts', t2⟩ := HIN.out.token hlt
        subst hts'
        have hkl := at_lt_last hlt hsp HBL.out
        have HT2 := Lib.hid t2
        have HPC := fun W => Lib.hid (piece_any s (by omega) k hlt t1 W)
        clear t1 t2 hsp
        go_upto_region 12 with (go_at_call 23; refine (HPC _).out.mono ?_; rintro e w2 ⟨n, rfl, hn, hat, hb2⟩; obtain ⟨hpn, hex, t3⟩ := HT2.out n hn hat; have hex2 := Lib.hid ((bs_of _).symm.trans (congrArg bs hex)); have HT3 := Lib.hid t3; have HM2 := Lib.hid (HM.out.over hb2); clear hat t3 hb2 hex)
        rw [hex2.out]
        obtain ⟨tl, htl⟩ : ∃ tl, s[k] :: u = tl := ⟨_, rfl⟩
        rw [htl] at HTT ⊢
        have hcl := cat_len HTT.out
        have htl1 : tl.length ≤ 4000 := by
          have h1 := congrArg List.length (congrArg (fun b : ByteArray => b.data.toList) hex2.out)
          simp only [bs_list, htl] at h1
          rw [← h1]
          simp
          omega
        clear hex2 htl
        obtain ⟨hA1, hA2, hA3⟩ := Js.tA_len (p := p.data.toList) (i := i.data.toList) (by simpa using hp) (by simpa using hi) nd tl hd2 hd1 (by omega)
        go_cut [53] from 31 to 90 (fun x wx => x = .bool (nd && !(tl == [93] || tl == [125])) ∧ wx = w2)
        case first =>
          cases nd with
          | false =>
            go_wp2_with fail
            go_meet
            case rel => exact ⟨rfl, rfl⟩
          | true =>
            by_cases h93 : tl = [93]
            · have q93 := tq_yes h93
              have hb : (tl == [93] || tl == [125]) = true := by rw [h93]; rfl
              clear h93
              go_wp2_with fail
              go_meet
              case rel => exact ⟨by rw [hb]; rfl, rfl⟩
            · have q93 := tq_no h93
              by_cases h125 : tl = [125]
              · have q125 := tq_yes h125
                have hb : (tl == [93] || tl == [125]) = true := by rw [h125]; rfl
                clear h93 h125
                go_wp2_with fail
                go_meet
                case rel => exact ⟨by rw [hb]; rfl, rfl⟩
              · have q125 := tq_no h125
                have hb : (tl == [93] || tl == [125]) = false := by rw [Bool.or_eq_false_iff, beq_eq_false_iff_ne, beq_eq_false_iff_ne]; exact ⟨h93, h125⟩
                clear h93 h125
                go_wp2_with fail
                go_meet
                case rel => exact ⟨by rw [hb]; rfl, rfl⟩
        case rest =>
          obtain ⟨rfl, rfl⟩ := hcut
          go_upto_if 53 with fail
          go_cut [] from 31 to 90 (fun wx => SMem w wx (bs (o ++ (Js.tA p.data.toList i.data.toList nd d tl).1)) p i (Js.tA p.data.toList i.data.toList nd d tl).2)
          case first =>
            obtain ⟨x1, x2, x3, x4, y3, y4⟩ := HM2.out.cells
            cases hb : (nd && !(tl == [93] || tl == [125])) with
            | false =>
              have HE := Lib.hid (show Js.tA p.data.toList i.data.toList nd d tl = ([], d) by unfold Js.tA; rw [hb]; rfl)
              clear hb hA1 hA2 hA3
              go_wp2_with fail
              go_meet
              case rel => rw [HE.out, List.append_nil]; exact HM2.out
            | true =>
              have HE := Lib.hid (show Js.tA p.data.toList i.data.toList nd d tl = (Js.nl p.data.toList i.data.toList (d + 1), d + 1) by unfold Js.tA; rw [hb]; rfl)
              clear hb hA1 hA2 hA3
              go_wp2_with (go_at_call 26; refine (line_any w (o) p i (d + 1) hp hi (by omega) (by omega) _ (HM2.out.setD (d + 1))).mono ?_; rintro e w3 ⟨rfl, hm3⟩; have HM3 := Lib.hid hm3; obtain ⟨x1, x2, x3, x4, y3, y4⟩ := hm3.cells; clear hm3)
              go_meet
              case rel => rw [HE.out]; exact HM3.out
          case rest =>
            have HMC := Lib.hid hcut
            clear hcut HM2
            go_upto_block 4 with fail
            go_cut [] from 31 to 90 (fun wx => SMem w wx (bs (o ++ (Js.tstep p.data.toList i.data.toList nd d tl).1)) p i (Js.tstep p.data.toList i.data.toList nd d tl).2.2)
            case first =>
              by_cases hc : tl = [93] ∨ tl = [125]
              · have HT := Lib.hid (Js.tstep_cl p.data.toList i.data.toList nd d hc)
                have hm := HMC.out
                rw [Js.tA_cl p.data.toList i.data.toList nd d hc, List.append_nil] at hm
                have hm : SMem w wc (bs o) p i d := hm
                have HM3 := Lib.hid hm
                obtain ⟨x1, x2, x3, x4, y3, y4⟩ := hm.cells
                clear HMC hm hA1 hA2 hA3
                have a1 := fun X => add_bs X o tl (by omega)
                have a2 := fun X => add_bs X (o ++ Js.nl p.data.toList i.data.toList (d - 1)) tl (by have := Js.nl_len (p := p.data.toList) (i := i.data.toList) (by simpa using hp) (by simpa using hi) (d := d - 1) (k := k) (by omega); simp only [List.length_append]; omega)
                by_cases h93 : tl = [93]
                · have q93 := tq_yes h93
                  clear hc h93
                  cases nd with
                  | true =>
                    clear a2
                    go_wp2_with fail
                    go_meet
                    case rel => rw [HT.out]; exact HM3.out.setO _
                  | false =>
                    clear a1
                    go_wp2_with (go_at_call 26; refine (line_any w (o) p i (d - 1) hp hi (by omega) (by omega) _ (HM3.out.setD (d - 1))).mono ?_; rintro e w5 ⟨rfl, hm5⟩; have HM5 := Lib.hid hm5; obtain ⟨x1, x2, x3, x4, y3, y4⟩ := hm5.cells; clear hm5)
                    go_meet
                    case rel => rw [HT.out]; have := HM5.out.setO (bs (o ++ Js.nl p.data.toList i.data.toList (d - 1) ++ tl)); simpa using this
                · have q93 := tq_no h93
                  have q125 := tq_yes (hc.resolve_left h93)
                  clear hc h93
                  cases nd with
                  | true =>
                    clear a2
                    go_wp2_with fail
                    go_meet
                    case rel => rw [HT.out]; exact HM3.out.setO _
                  | false =>
                    clear a1
                    go_wp2_with (go_at_call 26; refine (line_any w (o) p i (d - 1) hp hi (by omega) (by omega) _ (HM3.out.setD (d - 1))).mono ?_; rintro e w5 ⟨rfl, hm5⟩; have HM5 := Lib.hid hm5; obtain ⟨x1, x2, x3, x4, y3, y4⟩ := hm5.cells; clear hm5)
                    go_meet
                    case rel => rw [HT.out]; have := HM5.out.setO (bs (o ++ Js.nl p.data.toList i.data.toList (d - 1) ++ tl)); simpa using this
              · rw [not_or] at hc
                obtain ⟨h93, h125⟩ := hc
                have q93 := tq_no h93
                have q125 := tq_no h125
                by_cases h44 : tl = [44]
                · have q44 := tq_yes h44
                  have HT := Lib.hid (Js.tstep_comma p.data.toList i.data.toList nd d h44)
                  clear h93 h125 h44
                  obtain ⟨⟨pre, d1⟩, hA⟩ : ∃ A, Js.tA p.data.toList i.data.toList nd d tl = A := ⟨_, rfl⟩
                  rw [hA] at HT HMC hA1 hA2 hA3
                  dsimp only at HT HMC hA1 hA2 hA3
                  clear hA
                  obtain ⟨o1, ho1⟩ : ∃ o1, o ++ pre ++ tl = o1 := ⟨_, rfl⟩
                  have ho2 : o1.length ≤ 1000000000000 := by rw [← ho1]; simp only [List.length_append]; omega
                  have a1 : ∀ X, (Op.stringOp .add (bs (o ++ pre)) (bs tl)).run Tryz.prog X = .ok (.string (bs o1)) X := fun X => by rw [← ho1]; exact add_bs X (o ++ pre) tl (by simp only [List.length_append]; omega)
                  obtain ⟨x1, x2, x3, x4, y3, y4⟩ := HMC.out.cells
                  go_wp2_with (go_at_call 26; refine (line_any w o1 p i d1 hp hi (by omega) ho2 _ (HMC.out.setO (bs o1))).mono ?_; rintro e w5 ⟨rfl, hm5⟩; have HM5 := Lib.hid hm5; obtain ⟨x1, x2, x3, x4, y3, y4⟩ := hm5.cells; clear hm5)
                  go_meet
                  case rel => rw [HT.out]; have := HM5.out; rw [← ho1] at this; simpa using this
                · have q44 := tq_no h44
                  by_cases h58 : tl = [58]
                  · have q58 := tq_yes h58
                    have HT := Lib.hid (Js.tstep_colon p.data.toList i.data.toList nd d h58)
                    clear h93 h125 h44 h58
                    obtain ⟨⟨pre, d1⟩, hA⟩ : ∃ A, Js.tA p.data.toList i.data.toList nd d tl = A := ⟨_, rfl⟩
                    rw [hA] at HT HMC hA1 hA2 hA3
                    dsimp only at HT HMC hA1 hA2 hA3
                    clear hA
                    have a1 : ∀ X, (Op.stringOp .add (bs (o ++ pre)) ⟨#[58, 32]⟩).run Tryz.prog X = .ok (.string (bs (o ++ pre ++ [58, 32]))) X := fun X => add_bs X (o ++ pre) [58, 32] (by simp only [List.length_append, List.length_cons, List.length_nil]; omega)
                    obtain ⟨x1, x2, x3, x4, y3, y4⟩ := HMC.out.cells
                    go_wp2_with fail
                    go_meet
                    case rel => rw [HT.out]; have := HMC.out.setO (bs (o ++ pre ++ [58, 32])); simpa using this
                  · have q58 := tq_no h58
                    have HT := Lib.hid (Js.tstep_else p.data.toList i.data.toList nd d h93 h125 h44 h58)
                    clear h93 h125 h44 h58
                    obtain ⟨⟨pre, d1⟩, hA⟩ : ∃ A, Js.tA p.data.toList i.data.toList nd d tl = A := ⟨_, rfl⟩
                    rw [hA] at HT HMC hA1 hA2 hA3
                    dsimp only at HT HMC hA1 hA2 hA3
                    clear hA
                    have a1 := fun X => add_bs X (o ++ pre) tl (by simp only [List.length_append]; omega)
                    obtain ⟨x1, x2, x3, x4, y3, y4⟩ := HMC.out.cells
                    go_wp2_with fail
                    go_meet
                    case rel => rw [HT.out]; have := HMC.out.setO (bs (o ++ pre ++ tl)); simpa using this
            case rest =>
              have HMD := Lib.hid hcut
              have HNX := Lib.hid (Js.tstep_next p.data.toList i.data.toList nd d tl)
              obtain ⟨hdd1, hdd2⟩ := Js.tstep_deep p.data.toList i.data.toList nd d tl
              clear hcut HMC hA1 hA2 hA3
              by_cases h91 : tl = [91]
              · have q91 := tq_yes h91
                have HQ : Hid ((tl == [91] || tl == [123]) = true) := Lib.hid (by rw [h91]; rfl)
                clear h91
                go_wp2_with (go_at_call 15; refine (blankEnd_any s (by omega) (n : Int) n rfl hn _).mono ?_; rintro e w6 ⟨n2, rfl, hn2, hat2, rfl⟩; obtain ⟨h5, h6⟩ := HT3.out n2 hn2 hat2; have H6 := Lib.hid h6; clear h6 hat2)
                go_roundg (s.size - n2)
                case rel => exact ⟨n2, (Js.tstep p.data.toList i.data.toList nd d tl).2.1, _, _, ts', by omega, by rw [HNX.out, HQ.out], rfl, H6.out, by have := HTT.out; rw [Js.indT] at this; simpa using this, by omega, by omega, HMD.out⟩
                case measure => have := HGK.out; omega
              · have q91 := tq_no h91
                by_cases h123 : tl = [123]
                · have q123 := tq_yes h123
                  have HQ : Hid ((tl == [91] || tl == [123]) = true) := Lib.hid (by rw [h123]; rfl)
                  clear h91 h123
                  go_wp2_with (go_at_call 15; refine (blankEnd_any s (by omega) (n : Int) n rfl hn _).mono ?_; rintro e w6 ⟨n2, rfl, hn2, hat2, rfl⟩; obtain ⟨h5, h6⟩ := HT3.out n2 hn2 hat2; have H6 := Lib.hid h6; clear h6 hat2)
                  go_roundg (s.size - n2)
                  case rel => exact ⟨n2, (Js.tstep p.data.toList i.data.toList nd d tl).2.1, _, _, ts', by omega, by rw [HNX.out, HQ.out], rfl, H6.out, by have := HTT.out; rw [Js.indT] at this; simpa using this, by omega, by omega, HMD.out⟩
                  case measure => have := HGK.out; omega
                · have q123 := tq_no h123
                  have HQ : Hid ((tl == [91] || tl == [123]) = false) := Lib.hid (by rw [Bool.or_eq_false_iff, beq_eq_false_iff_ne, beq_eq_false_iff_ne]; exact ⟨h91, h123⟩)
                  clear h91 h123
                  go_wp2_with (go_at_call 15; refine (blankEnd_any s (by omega) (n : Int) n rfl hn _).mono ?_; rintro e w6 ⟨n2, rfl, hn2, hat2, rfl⟩; obtain ⟨h5, h6⟩ := HT3.out n2 hn2 hat2; have H6 := Lib.hid h6; clear h6 hat2)
                  go_roundg (s.size - n2)
                  case rel => exact ⟨n2, (Js.tstep p.data.toList i.data.toList nd d tl).2.1, _, _, ts', by omega, by rw [HNX.out, HQ.out], rfl, H6.out, by have := HTT.out; rw [Js.indT] at this; simpa using this, by omega, by omega, HMD.out⟩
                  case measure => have := HGK.out; omega
      · have hkz : k = s.size := by omega
        subst hkz
        have htt := HTT.out
        rw [HIN.out.done, Js.indT, List.append_nil] at htt
        have hol : o.length + (At s last).length = T.length := by rw [← htt, List.length_append]
        have HFI : Hid (bs T = bs (o ++ At s last)) := Lib.hid (by rw [htt])
        have he : s.extract last s.size = bs (At s last) := by rw [← bs_of (s.extract last s.size), ByteArray.data_extract, Array.toList_extract]; show bs ((s.data.toList.drop last).take (s.size - last)) = bs (s.data.toList.drop last); rw [List.take_of_length_le (by simp)]
        have a1 : ∀ X, (Op.stringOp .add (bs o) (s.extract last s.size)).run Tryz.prog X = .ok (.string (bs (o ++ At s last))) X := fun X => by rw [he]; exact add_bs X o (At s last) (by omega)
        obtain ⟨e1, e2, e3, e4, g3, g4⟩ := HM.out.cells
        clear htt he hol
        go_wp2_with fail
        go_region
        all_goals (go_wp2; go_ret; exact ⟨by rw [HFI.out]; rfl, HM.out.below.drew⟩)

end Go.Proofs.YtlmhpmbgalmpgaaGreatDoor
