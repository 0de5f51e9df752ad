/-
  appendCompact.
-/
import Derived.Test.YtlmhpmbgalmpgaaGreatDoorCp1
namespace Go.Proofs.YtlmhpmbgalmpgaaGreatDoor
open Go.RowKit

/-- The bytes of a part of a text. -/
theorem part_cells' {w : World} {ds : Nat} {l : List UInt8} (h : Bytes w ds l) (st n : Nat) : ∀ j (hj : j < ((l.drop st).take n).length), w.cell? ((⟨ds, st, none⟩ : Addr).add j) = some (.int .u8 (((l.drop st).take n)[j].toNat : Int)) := by
  intro j hj
  rw [Lib.addr_add]
  have h1 : st + j < l.length := by rw [List.length_take, List.length_drop] at hj; omega
  rw [h (st + j) h1]
  congr 3
  rw [List.getElem_take, List.getElem_drop]

theorem part_len' {l : List UInt8} {st k : Nat} (hk : k ≤ l.length) : ((l.drop st).take (k - st)).length = k - st := by
  rw [List.length_take, List.length_drop]; omega

theorem part_rest' {l : List UInt8} {st : Nat} : (l.drop st).take (l.length - st) = l.drop st := List.take_of_length_le (by simp)

theorem Ap.bytes' {e : TypeId} {B : Nat} {d : Option Nat} {W w : World} {v : Value} {ks l : List UInt8} {ds : Nat} (h : Ap e B d W w v ks) (hd : d ≠ some ds) (hlt : ds < W.heap.size) (hb : Bytes W ds l) : Bytes w ds l :=
  hb.kept (h.block ds hlt hd)

/-- What appendCompact comes to. -/
def Compd (B : Nat) (v0 : Value) (l : List UInt8) (W : World) (e : Ending) (w' : World) : Prop :=
  (Js.acc Js.init l = true → ∃ v, e = .returned (.tuple #[v, .nilIface]) ∧ Ap 5 B v0.ownBlock W w' v (Js.comp Js.init l)) ∧
  (Js.acc Js.init l = false → ∃ v p, e = .returned (.tuple #[v, .iface 68 (.pointer (some ⟨p, 0, none⟩))]) ∧ Ap 5 B v0.ownBlock W w' v [] ∧ ErB w' p)

theorem compd_no {B c : Nat} {v0 : Value} {l ks : List UInt8} {W w' : World} {ao : Option Addr} {p : Nat} (ha : Js.acc Js.init l = false) (h : Ap 5 B v0.ownBlock W w' (.slice ao ks.length c) ks) (hp : ErB w' p) :
    Compd B v0 l W (.returned (.tuple #[.slice ao 0 c, .iface 68 (.pointer (some ⟨p, 0, none⟩))])) w' :=
  ⟨fun h1 => (nomatch (ha.symm.trans h1 : false = true)), fun _ => ⟨_, p, rfl, h.cut, hp⟩⟩

theorem compd_yes {B : Nat} {v0 v : Value} {l : List UInt8} {W w' : World} (ha : Js.acc Js.init l = true) (h : Ap 5 B v0.ownBlock W w' v (Js.comp Js.init l)) :
    Compd B v0 l W (.returned (.tuple #[v, .nilIface])) w' :=
  ⟨fun _ => ⟨v, rfl, h⟩, fun h1 => (nomatch (ha.symm.trans h1 : true = false))⟩

/-- A slice cut back to nothing and the scanner's error, as they are handed back. -/
theorem ap_form {e : TypeId} {B : Nat} {d : Option Nat} {W w : World} {v : Value} {ks : List UInt8} (h : Ap e B d W w v ks) : (v = .slice none ks.length 0 ∧ ks.length = 0) ∨ ∃ q c, v = .slice (some ⟨q, 0, none⟩) ks.length c ∧ (ks.length : Int) ≤ c ∧ (c : Int) ≤ 9223372036854775807 := by
  rcases h.own.2 with ⟨hv, h0⟩ | ⟨g, cap, cur, hv, _, _, hn, hm, _⟩
  · exact .inl ⟨by rw [hv, h0], h0⟩
  · exact .inr ⟨g, cap, hv, by omega, by unfold maxLen at hm; omega⟩

theorem eof_bad' (g : Nat) (m : Js.M) (hb : m.bad = true) (w : World) (h : Sc w g m) :
    Calls Tryz.prog 46 #[.pointer (some ⟨g, 0, none⟩)] w fun e w' => e = .returned (.int .i64 11) ∧ Kp g w w' ∧ Late g w' := by
  refine (eof_bad g m hb w h).mono fun _ _ ⟨hk, _, hn⟩ => ?_
  obtain ⟨h1, ev, hc, p, hev, h2, h3⟩ := hn (by unfold Js.eof; rw [hb]; rfl)
  subst hev
  exact ⟨h1, hk, p, hc, h2, h3⟩

set_option maxRecDepth 100000 in
set_option maxHeartbeats 8000000 in
theorem compact_any (B ds cap : Nat) (v0 : Value) (l : List UInt8) (hl : l.length ≤ 100000000000) (W : World) (hB : B ≤ W.heap.size) (hv0 : W.ownsRow B 5 1 v0 0 []) (hd : v0.ownBlock ≠ some ds) (hds : ds < W.heap.size) (hby : Bytes W ds l) (hcap : l.length ≤ cap) (_hcm : cap ≤ maxLen) :
    Calls Tryz.prog 32 #[v0, .slice (some ⟨ds, 0, none⟩) l.length cap, .bool false] W (Compd B v0 l W) := by
  have hap0 := Ap.start hv0 hB
  have hf0 := ap_form hap0
  have HA := Lib.hid hap0
  have HY := Lib.hid hby
  unfold maxLen at _hcm
  obtain ⟨i0, hi, hz0, hz1, hz2⟩ := info_parts Tryz.infoU8
  have hlen0 : ∃ a c, v0 = .slice a 0 c := by
    rcases hf0 with ⟨h, _⟩ | ⟨q, c, h, _⟩
    · exact ⟨_, _, h⟩
    · exact ⟨_, _, h⟩
  obtain ⟨a0, c0, rfl⟩ := hlen0
  clear hv0 hby hap0 hf0
  go_enter Tryz.func32, Tryz.ntmps32
  go_wp2_with (go_at_call 43; refine (new_any W).mono ?_; rintro e w1 ⟨b, rfl, hn⟩; have HN := Lib.hid hn; clear hn)
  have HA1 : Hid (Ap 5 B (Value.slice a0 0 c0).ownBlock W w1 (.slice a0 0 c0) []) := HA.out.carry HN.out.2.1.os HN.out.2.1.tape HN.out.2.1.output HN.out.2.1.size (fun k hk _ => HN.out.2.1.block k hk)
  go_loopg [0, 10, 19] l.length (fun gk v s i wr => ∃ (k st : Nat) (ks : List UInt8), gk + k = l.length ∧ s = .int .i64 (st : Int) ∧ i = .int .i64 (k : Int) ∧ Js.CInv l k st ks ∧ Ap 5 B (Value.slice a0 0 c0).ownBlock W wr v ks ∧ Sc wr W.heap.size (Js.run Js.init (l.take k)))
  case atStart => exact ⟨0, 0, [], by omega, rfl, rfl, Js.CInv.start l, HA1.out, ⟨_, _, _, HN.out.1⟩⟩
  case round =>
    obtain ⟨k, st, ks, hgk, rfl, rfl, hin, hap, hsc⟩ := hrel
    have hwf := Js.wf_run (l.take k) _ Js.wf_init
    have HWF := Lib.hid hwf
    have HAP := Lib.hid hap
    have HIN := Lib.hid hin
    have hsle := hin.sle
    have hkle := hin.kle
    have hksl := hin.len
    have HYB := Lib.hid (hap.bytes' hd hds HY.out)
    have HSC := Lib.hid hsc
    clear hap hin hsc hwf
    by_cases hlt : k < l.length
    · have hcell : wr.cell? ⟨ds, k, none⟩ = some (.int .u8 (l[k].toNat : Int)) := HYB.out k hlt
      have hsc := HSC.out
      obtain ⟨pv, ev', b', hp⟩ := hsc
      obtain ⟨c0', -, -, -, -, -, -, -, -, -⟩ := hp.blk.cells
      simp only [fv] at c0'
      have hen := enter_step (Js.run Js.init (l.take k)).st
      clear hp
      go_wp2_with fail
      refine (step_byte W.heap.size _ HWF.out _ _ HSC.out).mono ?_
      rintro e w2 ⟨rfl, hsc2, hkp2⟩
      have HAP2 := Lib.hid (HAP.out.step HSC.out hkp2 (Nat.le_refl _))
      have HSC2 := Lib.hid hsc2
      have HKP2 := Lib.hid hkp2
      clear hsc2 hkp2 c0' hen hcell
      by_cases h9 : (Js.step (Js.run Js.init (l.take k)) l[k].toNat).2 < 9
      · have HI2 := Lib.hid (HIN.out.keep hlt h9)
        have ht : decide ((9 : Int) ≤ (((Js.step (Js.run Js.init (l.take k)) l[k].toNat).2 : Nat) : Int)) = false := decide_eq_false (by omega)
        have HRT := Lib.hid (Js.run_take_succ hlt)
        clear h9
        go_wp2
        go_roundg (l.length - (k + 1))
        case rel => exact ⟨k + 1, st, ks, by omega, rfl, by go_num, HI2.out, HAP2.out, by rw [HRT.out]; exact HSC2.out⟩
        case measure => omega
      · by_cases h11 : (Js.step (Js.run Js.init (l.take k)) l[k].toNat).2 = 11
        · have ht : decide ((9 : Int) ≤ (((Js.step (Js.run Js.init (l.take k)) l[k].toNat).2 : Nat) : Int)) = true := decide_eq_true (by omega)
          have ht2 : ((((Js.step (Js.run Js.init (l.take k)) l[k].toNat).2 : Nat) : Int) == 11) = true := by rw [h11]; rfl
          have HACC := Lib.hid (Js.acc_refused hlt h11)
          have HBAD := Lib.hid (Js.step_11 HWF.out _ h11)
          clear h9 h11
          go_wp2_with (go_at_call 46; refine (eof_bad' W.heap.size _ HBAD.out _ HSC2.out).mono ?_; rintro e w3 ⟨rfl, hkp3, hlate⟩)
          have HAE := Lib.hid (HAP2.out.step HSC2.out hkp3 (Nat.le_refl _))
          obtain ⟨p, c3, hpe, _⟩ := hlate
          have HPE := Lib.hid hpe
          clear hkp3 hpe
          rcases ap_form HAE.out with ⟨h0, h00⟩ | ⟨q, c, h0, hq1, hq2⟩
          · subst h0
            go_wp2
            go_region
            all_goals (go_wp2; go_ret2; exact compd_no HACC.out HAE.out.drew HPE.out)
          · subst h0
            go_wp2
            go_region
            all_goals (go_wp2; go_ret2; exact compd_no HACC.out HAE.out.drew HPE.out)
        · have ht : decide ((9 : Int) ≤ (((Js.step (Js.run Js.init (l.take k)) l[k].toNat).2 : Nat) : Int)) = true := decide_eq_true (by omega)
          have ht2 : ((((Js.step (Js.run Js.init (l.take k)) l[k].toNat).2 : Nat) : Int) == 11) = false := by rw [beq_eq_false_iff_ne]; omega
          have HI2 := Lib.hid (HIN.out.skip hlt h9 h11)
          have HRT := Lib.hid (Js.run_take_succ hlt)
          have HYB2 := Lib.hid (HAP2.out.bytes' hd hds HY.out)
          clear h9 h11
          by_cases hst : st < k
          · go_wp2_with (at_builtin; refine wpList_append_ap _ rfl _ _ 40 rfl 5 i0 Tryz.underlying40 hi hz0 hz1 hz2 rfl HAP2.out _ _ _ ((l.drop st).take (k - st)) rfl (part_len' hkle) (part_cells' HYB2.out _ _) (by omega) ?_; rintro v1 w3 hap3 hg3)
            have HAP3 := Lib.hid hap3
            have HSC3 := Lib.hid (HSC2.out.apart HAP2.out.own hg3)
            clear hap3 hg3
            go_roundg (l.length - (k + 1))
            case rel => exact ⟨k + 1, k + 1, _, by omega, by go_num, by go_num, HI2.out, HAP3.out, by rw [HRT.out]; exact HSC3.out⟩
            case measure => omega
          · have hk2 : st = k := by omega
            subst hk2
            have HI3 : Hid (Js.CInv l (st + 1) (st + 1) ks) := by
              have := HI2.out
              rw [Nat.sub_self, List.take_zero, List.append_nil] at this
              exact this
            go_wp2
            go_roundg (l.length - (st + 1))
            case rel => exact ⟨st + 1, st + 1, ks, by omega, by go_num, by go_num, HI3.out, HAP2.out, by rw [HRT.out]; exact HSC2.out⟩
            case measure => omega
    · have hk : k = l.length := by omega
      subst hk
      have hrun : Js.run Js.init (l.take l.length) = Js.run Js.init l := by rw [List.take_of_length_le (by omega)]
      rw [hrun] at HWF HSC
      cases hacc : Js.acc Js.init l with
      | true =>
        have HACC := Lib.hid hacc
        clear hacc hrun
        have HD := Lib.hid HIN.out.done
        by_cases hst : st < l.length
        · go_wp2_with (first
            | (go_at_call 46; refine (eof_yes W.heap.size _ HWF.out HACC.out _ HSC.out).mono ?_; rintro e w2 ⟨rfl, hkp2⟩; have HAP2 := Lib.hid (HAP.out.step HSC.out hkp2 (Nat.le_refl _)); have HYB2 := Lib.hid (HAP2.out.bytes' hd hds HY.out); clear hkp2)
            | (at_builtin; refine wpList_append_ap _ rfl _ _ 40 rfl 5 i0 Tryz.underlying40 hi hz0 hz1 hz2 rfl HAP2.out _ _ _ ((l.drop st).take (l.length - st)) rfl (part_len' (Nat.le_refl _)) (part_cells' HYB2.out _ _) (by omega) ?_; rintro v1 w3 hap3 hg3))
          go_ret2
          exact compd_yes HACC.out (by rw [← HD.out, ← part_rest']; exact hap3)
        · go_wp2_with (go_at_call 46; refine (eof_yes W.heap.size _ HWF.out HACC.out _ HSC.out).mono ?_; rintro e w2 ⟨rfl, hkp2⟩; have HAP2 := Lib.hid (HAP.out.step HSC.out hkp2 (Nat.le_refl _)); clear hkp2)
          go_ret2
          exact compd_yes HACC.out (by rw [← HD.out, List.drop_of_length_le (by omega), List.append_nil]; exact HAP2.out)
      | false =>
          have HACC := Lib.hid hacc
          clear hacc hrun
          go_wp2_with (go_at_call 46; refine (eof_no W.heap.size _ HWF.out HACC.out _ HSC.out).mono ?_; rintro e w3 ⟨rfl, hkp3, hlate⟩)
          have HAE := Lib.hid (HAP.out.step HSC.out hkp3 (Nat.le_refl _))
          obtain ⟨p, c3, hpe, _⟩ := hlate
          have HPE := Lib.hid hpe
          clear hkp3 hpe
          rcases ap_form HAE.out with ⟨h0, h00⟩ | ⟨q, c, h0, hq1, hq2⟩
          · subst h0
            go_wp2
            go_region
            all_goals (go_wp2; go_ret2; exact compd_no HACC.out HAE.out.drew HPE.out)
          · subst h0
            go_wp2
            go_region
            all_goals (go_wp2; go_ret2; exact compd_no HACC.out HAE.out.drew HPE.out)

end Go.Proofs.YtlmhpmbgalmpgaaGreatDoor
