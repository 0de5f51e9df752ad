/-
  appendIndent.
-/
import Derived.Test.YtlmhpmbgalmpgaaGreatDoorIn1
import Derived.Test.YtlmhpmbgalmpgaaGreatDoorPl10
import Derived.Deep.CutRange
namespace Go.Proofs.YtlmhpmbgalmpgaaGreatDoor
open Go.RowKit

/-- A new block leaves the scanner alone. -/
theorem Sc.alloc {g : Nat} {w : World} {m : Js.M} (hs : Sc w g m) (o : Obj) : Sc (w.alloc o) g m :=
  hs.apart (B := 0) (v := .slice none 0 0) (n := 0) (xs := []) ⟨rfl, .inl ⟨rfl, rfl⟩⟩ ⟨rfl, rfl, rfl, by simp, fun q hq _ => Below.heap_alloc w o q hq⟩

theorem ibyte_no {c n : UInt8} (h : c ≠ n) : ((c.toNat : Int) == (n.toNat : Int)) = false := by
  rw [beq_eq_false_iff_ne]
  exact fun e => h (UInt8.toNat_inj.1 (by omega))
theorem ibyte_yes {c n : UInt8} (h : c = n) : ((c.toNat : Int) == (n.toNat : Int)) = true := by rw [h]; simp

/-- What appendIndent comes to. -/
def Indd (B : Nat) (v0 : Value) (p i l : List UInt8) (W : World) (e : Ending) (w' : World) : Prop :=
  (Js.acc Js.init l = true → ∃ v, e = .returned (.tuple #[v, .nilIface]) ∧ Ap 5 B v0.ownBlock W w' v (Js.ind p i Js.init false 0 l)) ∧
  (Js.acc Js.init l = false → ∃ v p, e = .returned (.tuple #[v, .iface 68 (.pointer (some ⟨p, 0, none⟩))]) ∧ Ap 5 B v0.ownBlock W w' v [] ∧ ErB w' p)

theorem indd_no {B c : Nat} {v0 : Value} {p i l ks : List UInt8} {W w' : World} {ao : Option Addr} {q : Nat} (ha : Js.acc Js.init l = false) (h : Ap 5 B v0.ownBlock W w' (.slice ao ks.length c) ks) (hp : ErB w' q) :
    Indd B v0 p i l W (.returned (.tuple #[.slice ao 0 c, .iface 68 (.pointer (some ⟨q, 0, none⟩))])) w' :=
  ⟨fun h1 => (nomatch (ha.symm.trans h1 : false = true)), fun _ => ⟨_, q, rfl, h.cut, hp⟩⟩

theorem indd_yes {B : Nat} {v0 v : Value} {p i l : List UInt8} {W w' : World} (ha : Js.acc Js.init l = true) (h : Ap 5 B v0.ownBlock W w' v (Js.ind p i Js.init false 0 l)) :
    Indd B v0 p i l W (.returned (.tuple #[v, .nilIface])) w' :=
  ⟨fun _ => ⟨v, rfl, h⟩, fun h1 => (nomatch (ha.symm.trans h1 : true = false))⟩

set_option maxRecDepth 100000 in
set_option maxHeartbeats 16000000 in
theorem indent_any (B ds cap : Nat) (v0 : Value) (l : List UInt8) (p i : ByteArray) (hp : p.size ≤ 20) (hi' : i.size ≤ 20) (hl : l.length ≤ 4000) (W : World) (hB : B ≤ W.heap.size) (hv0 : W.ownsRow B 5 1 v0 0 []) (hd : v0.ownBlock ≠ some ds) (hds : ds < W.heap.size) (hby : Bytes W ds l) :
    Calls Tryz.prog 41 #[v0, .slice (some ⟨ds, 0, none⟩) l.length cap, .string p, .string i] W (Indd B v0 p.data.toList i.data.toList l W) := by
  have hap0 := Ap.start hv0 hB
  have hf0 := ap_form hap0
  have HA := Lib.hid hap0
  have HY := Lib.hid hby
  have hpl : p.data.toList.length ≤ 20 := by simpa using hp
  have hil : i.data.toList.length ≤ 20 := by simpa using hi'
  have HPL := Lib.hid hpl
  have HIL := Lib.hid hil
  obtain ⟨i0, hi, hz0, hz1, hz2⟩ := info_parts Tryz.infoU8
  have hlen0 : ∃ a c, v0 = .slice a 0 c := by
    rcases hf0 with ⟨h, _⟩ | ⟨q, c, h, _⟩
    · exact ⟨_, _, h⟩
    · exact ⟨_, _, h⟩
  obtain ⟨a0, c0, rfl⟩ := hlen0
  clear hv0 hby hap0 hf0 hpl hil
  go_enter Tryz.func41, Tryz.ntmps41
  go_wp2_with (go_at_call 43; refine (new_any W).mono ?_; rintro e w1 ⟨b, rfl, hn⟩; have HN := Lib.hid hn; clear hn)
  have HA1 : Hid (Ap 5 B (Value.slice a0 0 c0).ownBlock W w1 (.slice a0 0 c0) []) := HA.out.carry HN.out.2.1.os HN.out.2.1.tape HN.out.2.1.output HN.out.2.1.size (fun k hk _ => HN.out.2.1.block k hk)
  go_loopg [0, 12, 13, 22] l.length (fun gk v s12 s13 n wr => ∃ (k : Nat) (nd : Bool) (d : Int) (ks : List UInt8), gk + k = l.length ∧ s12 = .bool nd ∧ s13 = .int .i64 d ∧ n = .int .i64 (k : Int) ∧ Js.IInv p.data.toList i.data.toList l k nd d ks ∧ Ap 5 B (Value.slice a0 0 c0).ownBlock W wr v ks ∧ Sc wr W.heap.size (Js.run Js.init (l.take k)))
  case atStart => exact ⟨0, false, 0, [], by omega, rfl, rfl, rfl, Js.IInv.start _ _ l, HA1.out, ⟨_, _, _, HN.out.1⟩⟩
  case round =>
    obtain ⟨k, nd, d, ks, hgk, rfl, rfl, rfl, hin, hap, hsc⟩ := hrel
    have hwf := Js.wf_run (l.take k) _ Js.wf_init
    have HWF := Lib.hid hwf
    have HAP := Lib.hid hap
    have HIN := Lib.hid hin
    have hkle := hin.kle
    have hdle := hin.dle
    have hdge := hin.dge
    have hksl := hin.len
    have HYB := Lib.hid (hap.bytes' hd hds HY.out)
    have HSC := Lib.hid hsc
    clear hap hin hsc hwf
    by_cases hlt : k < l.length
    · have hcell : wr.cell? ⟨ds, k, none⟩ = some (.int .u8 (l[k].toNat : Int)) := HYB.out k hlt
      have hsc := HSC.out
      obtain ⟨pv, ev', b', hp⟩ := hsc
      have hs4 := fun n => hp.set4 n
      obtain ⟨c0', c1', c2', c3', c4', f0', f1', f2', f3', f4'⟩ := hp.blk.cells
      simp only [fv] at c0'
      have hen := enter_step (Js.run Js.init (l.take k)).st
      have HS4 := fun n => Lib.hid (hs4 n)
      have HK4 := fun n => Lib.hid (kp_set (w := wr) (g := W.heap.size) (i := 4) (by decide) (.int .i64 n))
      clear hs4 hp c1' c2' c3' f0' f1' f2' f3'
      go_wp2_with fail
      refine (step_byte W.heap.size _ HWF.out _ _ ⟨_, _, _, (HS4 _).out⟩).mono ?_
      rintro e w2 ⟨rfl, hsc2, hkp2⟩
      have HAP2 := Lib.hid (HAP.out.step HSC.out ((HK4 _).out.trans hkp2) (Nat.le_refl _))
      have HSC2 := Lib.hid hsc2
      clear hsc2 hkp2 c0' c4' f4' hen hcell
      have HRT := Lib.hid (Js.run_take_succ hlt)
      obtain ⟨v, hv⟩ : ∃ v, (Js.step (Js.run Js.init (l.take k)) l[k].toNat).2 = v := ⟨_, rfl⟩
      rw [hv]
      by_cases h9 : v = 9
      · have t9 : ((v : Int) == 9) = true := by rw [h9]; rfl
        have HI2 := Lib.hid (HIN.out.blank hlt (hv.trans h9))
        clear h9 hv
        go_wp2
        go_roundg (l.length - (k + 1))
        case rel => exact ⟨k + 1, nd, d, ks, by omega, rfl, rfl, by go_num, HI2.out, HAP2.out, by rw [HRT.out]; exact HSC2.out⟩
        case measure => omega
      · have t9 : ((v : Int) == 9) = false := by rw [beq_eq_false_iff_ne]; omega
        by_cases h11 : v = 11
        · have t11 : ((v : Int) == 11) = true := by rw [h11]; rfl
          have HACC := Lib.hid (Js.acc_refused hlt (hv.trans h11))
          have HBAD := Lib.hid (Js.step_11 HWF.out _ (hv.trans h11))
          clear h9 h11 hv
          go_wp2_with (go_at_call 46; refine (eof_bad' W.heap.size _ HBAD.out _ HSC2.out).mono ?_; rintro e w3 ⟨rfl, hkp3, hlate⟩)
          have HAE := Lib.hid (HAP2.out.step HSC2.out hkp3 (Nat.le_refl _))
          obtain ⟨q0, c3, hpe, _⟩ := hlate
          have HPE := Lib.hid hpe
          clear hkp3 hpe
          rcases ap_form HAE.out with ⟨h0, h00⟩ | ⟨q, c, h0, hq1, hq2⟩
          · subst h0
            go_wp2
            go_region
            all_goals (go_wp2; go_ret2; exact indd_no HACC.out HAE.out.drew HPE.out)
          · subst h0
            go_wp2
            go_region
            all_goals (go_wp2; go_ret2; exact indd_no HACC.out HAE.out.drew HPE.out)
        · have t11 : ((v : Int) == 11) = false := by rw [beq_eq_false_iff_ne]; omega
          have HI2 := Lib.hid (HIN.out.byte HPL.out HIL.out hl hlt (by rw [hv]; exact h9) (by rw [hv]; exact h11) hv)
          have HV := Lib.hid hv
          clear hv
          go_upto_region 12 with fail
          go_cut [52] from 23 to 110 (fun x wx => x = .bool (nd && !(v == 5 || v == 8)) ∧ wx = w2)
          case first =>
            cases nd with
            | false =>
              go_wp2_with fail
              go_meet
              case rel => exact ⟨rfl, rfl⟩
            | true =>
              by_cases h5 : v = 5
              · have t5 : ((v : Int) != 5) = false := by rw [h5]; rfl
                have hb : (v == 5 || v == 8) = true := by rw [h5]; rfl
                clear h5
                go_wp2_with fail
                go_meet
                case rel => exact ⟨by rw [hb]; rfl, rfl⟩
              · have t5 : ((v : Int) != 5) = true := by rw [bne, beq_eq_false_iff_ne.2 (by omega)]; rfl
                by_cases h8 : v = 8
                · have t8 : ((v : Int) != 8) = false := by rw [h8]; rfl
                  have hb : (v == 5 || v == 8) = true := by rw [h8]; rfl
                  clear h5 h8
                  go_wp2_with fail
                  go_meet
                  case rel => exact ⟨by rw [hb]; rfl, rfl⟩
                · have t8 : ((v : Int) != 8) = true := by rw [bne, beq_eq_false_iff_ne.2 (by omega)]; rfl
                  have hb : (v == 5 || v == 8) = false := by rw [Bool.or_eq_false_iff, beq_eq_false_iff_ne, beq_eq_false_iff_ne]; exact ⟨h5, h8⟩
                  clear h5 h8
                  go_wp2_with fail
                  go_meet
                  case rel => exact ⟨by rw [hb]; rfl, rfl⟩
          case rest =>
            obtain ⟨rfl, rfl⟩ := hcut
            have ha := Js.iA_len HPL.out HIL.out nd v hdle hdge (by omega)
            go_upto_if 52 with fail
            go_cut [0, 12, 13] from 23 to 110 (fun x s12 s13 wx => Ap 5 B (Value.slice a0 0 c0).ownBlock W wx x (ks ++ (Js.iA p.data.toList i.data.toList nd d v).1) ∧ Sc wx W.heap.size (Js.step (Js.run Js.init (l.take k)) l[k].toNat).1 ∧ s12 = .bool (Js.iA p.data.toList i.data.toList nd d v).2.1 ∧ s13 = .int .i64 (Js.iA p.data.toList i.data.toList nd d v).2.2)
            case first =>
              cases hb : (nd && !(v == 5 || v == 8)) with
              | false =>
                have HE := Lib.hid (show Js.iA p.data.toList i.data.toList nd d v = ([], nd, d) by unfold Js.iA; rw [hb]; rfl)
                clear hb ha
                go_wp2_with fail
                go_meet
                case rel => exact ⟨by rw [HE.out, List.append_nil]; exact HAP2.out, HSC2.out, by rw [HE.out], by rw [HE.out]⟩
              | true =>
                have HE := Lib.hid (show Js.iA p.data.toList i.data.toList nd d v = (Js.nl p.data.toList i.data.toList (d + 1), false, d + 1) by unfold Js.iA; rw [hb]; rfl)
                clear hb ha
                go_wp2_with (go_at_call 53; refine (newline_any B _ ks p i (d + 1) (by omega) (by omega) (by omega) (by omega) _ (Nat.le_trans HAP2.out.base HAP2.out.size) HAP2.out.own).mono ?_; rintro e w3 ⟨v3, rfl, hap3⟩; have HAP3 := Lib.hid (HAP2.out.then hap3); have HSC3 := Lib.hid (HSC2.out.apart HAP2.out.own hap3.grew); clear hap3)
                go_meet
                case rel => exact ⟨by rw [HE.out]; exact HAP3.out, HSC3.out, by rw [HE.out], by rw [HE.out]⟩
            case rest =>
              obtain ⟨hapc, hscc, h12, h13⟩ := hcut
              obtain ⟨A, hA⟩ : ∃ A, Js.iA p.data.toList i.data.toList nd d v = A := ⟨_, rfl⟩
              rw [hA] at hapc h12 h13 ha HI2
              obtain ⟨pre, nd1, d1⟩ := A
              obtain ⟨ha1, ha2, ha3⟩ := ha
              dsimp only at hapc h12 h13 ha1 ha2 ha3 HI2
              subst h12
              subst h13
              have HAPC := Lib.hid hapc
              have HSCC := Lib.hid hscc
              clear hapc hscc hA
              have hv := HV.out
              clear HAP2 HSC2
              by_cases h0 : v = 0
              · have t0 : ((v : Int) == 0) = true := by rw [h0]; rfl
                have HB := Lib.hid (show Js.iB p.data.toList i.data.toList nd1 d1 v l[k] = ([l[k]], nd1, d1) by simp [Js.iB, h0])
                have HI3 : Hid (Js.IInv p.data.toList i.data.toList l (k + 1) nd1 (d1) (ks ++ pre ++ ([l[k]]))) := by have := HI2.out; rw [HB.out] at this; exact this
                clear HB HI2 hv HV h0
                go_wp2_with (first | (at_builtin; refine wpList_append_ap _ rfl _ _ 40 rfl 5 i0 Tryz.underlying40 hi hz0 hz1 hz2 rfl (HAPC.out.alloc _) _ _ _ [l[k]] rfl rfl (new_bytes' _ _ _ _ rfl) (by simp only [List.length_append]; omega) ?_; rintro vD wD hapD hgD; have HAPD := Lib.hid hapD; have HSCD := Lib.hid ((HSCC.out.alloc _).apart (HAPC.out.alloc _).own hgD); clear hapD hgD))
                go_roundg (l.length - (k + 1))
                case rel => exact ⟨k + 1, _, _, _, by omega, rfl, rfl, by go_num, HI3.out, by simpa using HAPD.out, by rw [HRT.out]; exact HSCD.out⟩
                case measure => omega
              · have t0 : ((v : Int) == 0) = false := by rw [beq_eq_false_iff_ne]; omega
                by_cases n123 : l[k] = 123
                · have q123 : ((l[k].toNat : Int) == 123) = true := ibyte_yes (n := 123) n123
                  have HB := Lib.hid (show Js.iB p.data.toList i.data.toList nd1 d1 v l[k] = ([l[k]], true, d1) by simp [Js.iB, h0, n123])
                  have HI3 : Hid (Js.IInv p.data.toList i.data.toList l (k + 1) true (d1) (ks ++ pre ++ ([l[k]]))) := by have := HI2.out; rw [HB.out] at this; exact this
                  clear HB HI2 hv HV h0 n123
                  go_wp2_with (first | (at_builtin; refine wpList_append_ap _ rfl _ _ 40 rfl 5 i0 Tryz.underlying40 hi hz0 hz1 hz2 rfl (HAPC.out.alloc _) _ _ _ [l[k]] rfl rfl (new_bytes' _ _ _ _ rfl) (by simp only [List.length_append]; omega) ?_; rintro vD wD hapD hgD; have HAPD := Lib.hid hapD; have HSCD := Lib.hid ((HSCC.out.alloc _).apart (HAPC.out.alloc _).own hgD); clear hapD hgD))
                  go_roundg (l.length - (k + 1))
                  case rel => exact ⟨k + 1, _, _, _, by omega, rfl, rfl, by go_num, HI3.out, by simpa using HAPD.out, by rw [HRT.out]; exact HSCD.out⟩
                  case measure => omega
                · skip
                  by_cases n91 : l[k] = 91
                  · have q91 : ((l[k].toNat : Int) == 91) = true := ibyte_yes (n := 91) n91
                    have q123 : ((l[k].toNat : Int) == 123) = false := ibyte_no (n := 123) n123
                    have HB := Lib.hid (show Js.iB p.data.toList i.data.toList nd1 d1 v l[k] = ([l[k]], true, d1) by simp [Js.iB, h0, n91])
                    have HI3 : Hid (Js.IInv p.data.toList i.data.toList l (k + 1) true (d1) (ks ++ pre ++ ([l[k]]))) := by have := HI2.out; rw [HB.out] at this; exact this
                    clear HB HI2 hv HV h0 n91 n123
                    go_wp2_with (first | (at_builtin; refine wpList_append_ap _ rfl _ _ 40 rfl 5 i0 Tryz.underlying40 hi hz0 hz1 hz2 rfl (HAPC.out.alloc _) _ _ _ [l[k]] rfl rfl (new_bytes' _ _ _ _ rfl) (by simp only [List.length_append]; omega) ?_; rintro vD wD hapD hgD; have HAPD := Lib.hid hapD; have HSCD := Lib.hid ((HSCC.out.alloc _).apart (HAPC.out.alloc _).own hgD); clear hapD hgD))
                    go_roundg (l.length - (k + 1))
                    case rel => exact ⟨k + 1, _, _, _, by omega, rfl, rfl, by go_num, HI3.out, by simpa using HAPD.out, by rw [HRT.out]; exact HSCD.out⟩
                    case measure => omega
                  · skip
                    by_cases n44 : l[k] = 44
                    · have q44 : ((l[k].toNat : Int) == 44) = true := ibyte_yes (n := 44) n44
                      have q123 : ((l[k].toNat : Int) == 123) = false := ibyte_no (n := 123) n123
                      have q91 : ((l[k].toNat : Int) == 91) = false := ibyte_no (n := 91) n91
                      have HB := Lib.hid (show Js.iB p.data.toList i.data.toList nd1 d1 v l[k] = (l[k] :: Js.nl p.data.toList i.data.toList d1, nd1, d1) by simp [Js.iB, h0, n44])
                      have HI3 : Hid (Js.IInv p.data.toList i.data.toList l (k + 1) nd1 (d1) (ks ++ pre ++ (l[k] :: Js.nl p.data.toList i.data.toList d1))) := by have := HI2.out; rw [HB.out] at this; exact this
                      clear HB HI2 hv HV h0 n44 n123 n91
                      go_wp2_with (first | (go_at_call 53; refine (newline_any B _ _ p i d1 (by omega) (by omega) (by omega) (by simp only [List.length_append, List.length_cons, List.length_nil]; omega) _ (Nat.le_trans HAPD.out.base HAPD.out.size) HAPD.out.own).mono ?_; rintro e wE ⟨vE, rfl, hapE⟩; have HAPE := Lib.hid (HAPD.out.then hapE); have HSCE := Lib.hid (HSCD.out.apart HAPD.out.own hapE.grew); clear hapE) | (at_builtin; refine wpList_append_ap _ rfl _ _ 40 rfl 5 i0 Tryz.underlying40 hi hz0 hz1 hz2 rfl (HAPC.out.alloc _) _ _ _ [l[k]] rfl rfl (new_bytes' _ _ _ _ rfl) (by simp only [List.length_append]; omega) ?_; rintro vD wD hapD hgD; have HAPD := Lib.hid hapD; have HSCD := Lib.hid ((HSCC.out.alloc _).apart (HAPC.out.alloc _).own hgD); clear hapD hgD))
                      go_roundg (l.length - (k + 1))
                      case rel => exact ⟨k + 1, _, _, _, by omega, rfl, rfl, by go_num, HI3.out, by simpa using HAPE.out, by rw [HRT.out]; exact HSCE.out⟩
                      case measure => omega
                    · skip
                      by_cases n58 : l[k] = 58
                      · have q58 : ((l[k].toNat : Int) == 58) = true := ibyte_yes (n := 58) n58
                        have q123 : ((l[k].toNat : Int) == 123) = false := ibyte_no (n := 123) n123
                        have q91 : ((l[k].toNat : Int) == 91) = false := ibyte_no (n := 91) n91
                        have q44 : ((l[k].toNat : Int) == 44) = false := ibyte_no (n := 44) n44
                        have HB := Lib.hid (show Js.iB p.data.toList i.data.toList nd1 d1 v l[k] = ([l[k], 32], nd1, d1) by simp [Js.iB, h0, n58])
                        have HI3 : Hid (Js.IInv p.data.toList i.data.toList l (k + 1) nd1 (d1) (ks ++ pre ++ ([l[k], 32]))) := by have := HI2.out; rw [HB.out] at this; exact this
                        clear HB HI2 hv HV h0 n58 n123 n91 n44
                        go_wp2_with (first | (at_builtin; refine wpList_append_ap _ rfl _ _ 40 rfl 5 i0 Tryz.underlying40 hi hz0 hz1 hz2 rfl (HAPC.out.alloc _) _ _ _ [l[k], 32] rfl rfl (new_bytes' _ _ _ _ rfl) (by simp only [List.length_append]; omega) ?_; rintro vD wD hapD hgD; have HAPD := Lib.hid hapD; have HSCD := Lib.hid ((HSCC.out.alloc _).apart (HAPC.out.alloc _).own hgD); clear hapD hgD))
                        go_roundg (l.length - (k + 1))
                        case rel => exact ⟨k + 1, _, _, _, by omega, rfl, rfl, by go_num, HI3.out, by simpa using HAPD.out, by rw [HRT.out]; exact HSCD.out⟩
                        case measure => omega
                      · skip
                        by_cases n125 : l[k] = 125
                        · have q125 : ((l[k].toNat : Int) == 125) = true := ibyte_yes (n := 125) n125
                          have q123 : ((l[k].toNat : Int) == 123) = false := ibyte_no (n := 123) n123
                          have q91 : ((l[k].toNat : Int) == 91) = false := ibyte_no (n := 91) n91
                          have q44 : ((l[k].toNat : Int) == 44) = false := ibyte_no (n := 44) n44
                          have q58 : ((l[k].toNat : Int) == 58) = false := ibyte_no (n := 58) n58
                          cases nd1 with
                          | true =>
                            have HB := Lib.hid (show Js.iB p.data.toList i.data.toList true d1 v l[k] = ([l[k]], false, d1) by simp [Js.iB, h0, n125])
                            have HI3 : Hid (Js.IInv p.data.toList i.data.toList l (k + 1) false (d1) (ks ++ pre ++ ([l[k]]))) := by have := HI2.out; rw [HB.out] at this; exact this
                            clear HB HI2 hv HV h0 n125 n123 n91 n44 n58
                            go_wp2_with (first | (at_builtin; refine wpList_append_ap _ rfl _ _ 40 rfl 5 i0 Tryz.underlying40 hi hz0 hz1 hz2 rfl (HAPC.out.alloc _) _ _ _ [l[k]] rfl rfl (new_bytes' _ _ _ _ rfl) (by simp only [List.length_append]; omega) ?_; rintro vD wD hapD hgD; have HAPD := Lib.hid hapD; have HSCD := Lib.hid ((HSCC.out.alloc _).apart (HAPC.out.alloc _).own hgD); clear hapD hgD))
                            go_roundg (l.length - (k + 1))
                            case rel => exact ⟨k + 1, _, _, _, by omega, rfl, rfl, by go_num, HI3.out, by simpa using HAPD.out, by rw [HRT.out]; exact HSCD.out⟩
                            case measure => omega
                          | false =>
                            have hnl := Js.nl_len HPL.out HIL.out (d := d1 - 1) (k := k + 1) (by omega)
                            have HB := Lib.hid (show Js.iB p.data.toList i.data.toList false d1 v l[k] = (Js.nl p.data.toList i.data.toList (d1 - 1) ++ [l[k]], false, d1 - 1) by simp [Js.iB, h0, n125])
                            have HI3 : Hid (Js.IInv p.data.toList i.data.toList l (k + 1) false (d1 - 1) (ks ++ pre ++ (Js.nl p.data.toList i.data.toList (d1 - 1) ++ [l[k]]))) := by have := HI2.out; rw [HB.out] at this; exact this
                            clear HB HI2 hv HV h0 n125 n123 n91 n44 n58
                            go_wp2_with (first | (at_builtin; refine wpList_append_ap _ rfl _ _ 40 rfl 5 i0 Tryz.underlying40 hi hz0 hz1 hz2 rfl (HAPD.out.alloc _) _ _ _ [l[k]] rfl rfl (new_bytes' _ _ _ _ rfl) (by simp only [List.length_append]; omega) ?_; rintro vE wE hapE hgE; have HAPE := Lib.hid hapE; have HSCE := Lib.hid ((HSCD.out.alloc _).apart (HAPD.out.alloc _).own hgE); clear hapE hgE) | (go_at_call 53; refine (newline_any B _ _ p i (d1 - 1) (by omega) (by omega) (by omega) (by simp only [List.length_append]; omega) _ (Nat.le_trans HAPC.out.base HAPC.out.size) HAPC.out.own).mono ?_; rintro e wD ⟨vD, rfl, hapD⟩; have HAPD := Lib.hid (HAPC.out.then hapD); have HSCD := Lib.hid (HSCC.out.apart HAPC.out.own hapD.grew); clear hapD))
                            go_roundg (l.length - (k + 1))
                            case rel => exact ⟨k + 1, _, _, _, by omega, rfl, rfl, by go_num, HI3.out, by simpa using HAPE.out, by rw [HRT.out]; exact HSCE.out⟩
                            case measure => omega
                        · skip
                          by_cases n93 : l[k] = 93
                          · have q93 : ((l[k].toNat : Int) == 93) = true := ibyte_yes (n := 93) n93
                            have q123 : ((l[k].toNat : Int) == 123) = false := ibyte_no (n := 123) n123
                            have q91 : ((l[k].toNat : Int) == 91) = false := ibyte_no (n := 91) n91
                            have q44 : ((l[k].toNat : Int) == 44) = false := ibyte_no (n := 44) n44
                            have q58 : ((l[k].toNat : Int) == 58) = false := ibyte_no (n := 58) n58
                            have q125 : ((l[k].toNat : Int) == 125) = false := ibyte_no (n := 125) n125
                            cases nd1 with
                            | true =>
                              have HB := Lib.hid (show Js.iB p.data.toList i.data.toList true d1 v l[k] = ([l[k]], false, d1) by simp [Js.iB, h0, n93])
                              have HI3 : Hid (Js.IInv p.data.toList i.data.toList l (k + 1) false (d1) (ks ++ pre ++ ([l[k]]))) := by have := HI2.out; rw [HB.out] at this; exact this
                              clear HB HI2 hv HV h0 n93 n123 n91 n44 n58 n125
                              go_wp2_with (first | (at_builtin; refine wpList_append_ap _ rfl _ _ 40 rfl 5 i0 Tryz.underlying40 hi hz0 hz1 hz2 rfl (HAPC.out.alloc _) _ _ _ [l[k]] rfl rfl (new_bytes' _ _ _ _ rfl) (by simp only [List.length_append]; omega) ?_; rintro vD wD hapD hgD; have HAPD := Lib.hid hapD; have HSCD := Lib.hid ((HSCC.out.alloc _).apart (HAPC.out.alloc _).own hgD); clear hapD hgD))
                              go_roundg (l.length - (k + 1))
                              case rel => exact ⟨k + 1, _, _, _, by omega, rfl, rfl, by go_num, HI3.out, by simpa using HAPD.out, by rw [HRT.out]; exact HSCD.out⟩
                              case measure => omega
                            | false =>
                              have hnl := Js.nl_len HPL.out HIL.out (d := d1 - 1) (k := k + 1) (by omega)
                              have HB := Lib.hid (show Js.iB p.data.toList i.data.toList false d1 v l[k] = (Js.nl p.data.toList i.data.toList (d1 - 1) ++ [l[k]], false, d1 - 1) by simp [Js.iB, h0, n93])
                              have HI3 : Hid (Js.IInv p.data.toList i.data.toList l (k + 1) false (d1 - 1) (ks ++ pre ++ (Js.nl p.data.toList i.data.toList (d1 - 1) ++ [l[k]]))) := by have := HI2.out; rw [HB.out] at this; exact this
                              clear HB HI2 hv HV h0 n93 n123 n91 n44 n58 n125
                              go_wp2_with (first | (at_builtin; refine wpList_append_ap _ rfl _ _ 40 rfl 5 i0 Tryz.underlying40 hi hz0 hz1 hz2 rfl (HAPD.out.alloc _) _ _ _ [l[k]] rfl rfl (new_bytes' _ _ _ _ rfl) (by simp only [List.length_append]; omega) ?_; rintro vE wE hapE hgE; have HAPE := Lib.hid hapE; have HSCE := Lib.hid ((HSCD.out.alloc _).apart (HAPD.out.alloc _).own hgE); clear hapE hgE) | (go_at_call 53; refine (newline_any B _ _ p i (d1 - 1) (by omega) (by omega) (by omega) (by simp only [List.length_append]; omega) _ (Nat.le_trans HAPC.out.base HAPC.out.size) HAPC.out.own).mono ?_; rintro e wD ⟨vD, rfl, hapD⟩; have HAPD := Lib.hid (HAPC.out.then hapD); have HSCD := Lib.hid (HSCC.out.apart HAPC.out.own hapD.grew); clear hapD))
                              go_roundg (l.length - (k + 1))
                              case rel => exact ⟨k + 1, _, _, _, by omega, rfl, rfl, by go_num, HI3.out, by simpa using HAPE.out, by rw [HRT.out]; exact HSCE.out⟩
                              case measure => omega
                          · skip
                            have q123 : ((l[k].toNat : Int) == 123) = false := ibyte_no (n := 123) n123
                            have q91 : ((l[k].toNat : Int) == 91) = false := ibyte_no (n := 91) n91
                            have q44 : ((l[k].toNat : Int) == 44) = false := ibyte_no (n := 44) n44
                            have q58 : ((l[k].toNat : Int) == 58) = false := ibyte_no (n := 58) n58
                            have q125 : ((l[k].toNat : Int) == 125) = false := ibyte_no (n := 125) n125
                            have q93 : ((l[k].toNat : Int) == 93) = false := ibyte_no (n := 93) n93
                            have HB := Lib.hid (show Js.iB p.data.toList i.data.toList nd1 d1 v l[k] = ([l[k]], nd1, d1) by simp [Js.iB, h0, n123, n91, n44, n58, n125, n93])
                            have HI3 : Hid (Js.IInv p.data.toList i.data.toList l (k + 1) nd1 (d1) (ks ++ pre ++ ([l[k]]))) := by have := HI2.out; rw [HB.out] at this; exact this
                            clear HB HI2 hv HV h0 n123 n91 n44 n58 n125 n93
                            go_wp2_with (first | (at_builtin; refine wpList_append_ap _ rfl _ _ 40 rfl 5 i0 Tryz.underlying40 hi hz0 hz1 hz2 rfl (HAPC.out.alloc _) _ _ _ [l[k]] rfl rfl (new_bytes' _ _ _ _ rfl) (by simp only [List.length_append]; omega) ?_; rintro vD wD hapD hgD; have HAPD := Lib.hid hapD; have HSCD := Lib.hid ((HSCC.out.alloc _).apart (HAPC.out.alloc _).own hgD); clear hapD hgD))
                            go_roundg (l.length - (k + 1))
                            case rel => exact ⟨k + 1, _, _, _, by omega, rfl, rfl, by go_num, HI3.out, by simpa using HAPD.out, by rw [HRT.out]; exact HSCD.out⟩
                            case measure => omega
    · have hk : k = l.length := by omega
      subst hk
      have hrun : Js.run Js.init (l.take l.length) = Js.run Js.init l := by rw [List.take_of_length_le (by omega)]
      rw [hrun] at HWF HSC
      cases hacc : Js.acc Js.init l with
      | true =>
        have HACC := Lib.hid hacc
        clear hacc hrun
        have HD := Lib.hid HIN.out.done
        go_wp2_with (go_at_call 46; refine (eof_yes W.heap.size _ HWF.out HACC.out _ HSC.out).mono ?_; rintro e w2 ⟨rfl, hkp2⟩; have HAP2 := Lib.hid (HAP.out.step HSC.out hkp2 (Nat.le_refl _)); clear hkp2)
        go_ret2
        exact indd_yes HACC.out (by rw [← HD.out]; exact HAP2.out)
      | false =>
          have HACC := Lib.hid hacc
          clear hacc hrun
          go_wp2_with (go_at_call 46; refine (eof_no W.heap.size _ HWF.out HACC.out _ HSC.out).mono ?_; rintro e w3 ⟨rfl, hkp3, hlate⟩)
          have HAE := Lib.hid (HAP.out.step HSC.out hkp3 (Nat.le_refl _))
          obtain ⟨q0, c3, hpe, _⟩ := hlate
          have HPE := Lib.hid hpe
          clear hkp3 hpe
          rcases ap_form HAE.out with ⟨h0, h00⟩ | ⟨q, c, h0, hq1, hq2⟩
          · subst h0
            go_wp2
            go_region
            all_goals (go_wp2; go_ret2; exact indd_no HACC.out HAE.out.drew HPE.out)
          · subst h0
            go_wp2
            go_region
            all_goals (go_wp2; go_ret2; exact indd_no HACC.out HAE.out.drew HPE.out)

end Go.Proofs.YtlmhpmbgalmpgaaGreatDoor
