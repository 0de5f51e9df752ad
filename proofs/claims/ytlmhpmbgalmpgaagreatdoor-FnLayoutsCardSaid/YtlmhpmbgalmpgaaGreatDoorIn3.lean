/-
  json.Indent.
-/
import Derived.Test.YtlmhpmbgalmpgaaGreatDoorIn2
namespace Go.Proofs.YtlmhpmbgalmpgaaGreatDoor
open Go.RowKit

namespace Js
/-- How long Indent's text is. -/
theorem ind_len {p i l : List UInt8} (hp : p.length ≤ 20) (hi : i.length ≤ 20) (hl : l.length ≤ 4000) (ha : acc init l = true) : (ind p i init false 0 l).length ≤ l.length * 200000 := by
  have key : ∀ k, k ≤ l.length → ∃ nd d ks, IInv p i l k nd d ks := by
    intro k
    induction k with
    | zero => exact fun _ => ⟨_, _, _, IInv.start p i l⟩
    | succ k ih =>
      intro hk
      obtain ⟨nd, d, ks, h⟩ := ih (by omega)
      have hlt : k < l.length := hk
      by_cases h9 : (step (run init (l.take k)) l[k].toNat).2 = 9
      · exact ⟨_, _, _, h.blank hlt h9⟩
      · by_cases h11 : (step (run init (l.take k)) l[k].toNat).2 = 11
        · rw [acc_refused hlt h11] at ha; cases ha
        · exact ⟨_, _, _, h.byte hp hi hl hlt h9 h11 rfl⟩
  obtain ⟨nd, d, ks, h⟩ := key l.length (Nat.le_refl _)
  rw [← h.done]
  exact h.len
end Js

/-- What Indent leaves: the text in lines, or an error. -/
def Lined (B b : Nat) (p i l : List UInt8) (W : World) (e : Ending) (w' : World) : Prop :=
  Below B W w' ∧
  (Js.acc Js.init l = true → e = .returned .nilIface ∧ Lib.IsBuffer 44 5 B b (Lib.byteCells (Js.ind p i Js.init false 0 l)) w') ∧
  (Js.acc Js.init l = false → ∃ p, e = .returned (.iface 68 (.pointer (some ⟨p, 0, none⟩))) ∧ ErB w' p)

set_option maxRecDepth 100000 in
set_option maxHeartbeats 1000000 in
theorem jindent_any (B b ds cap : Nat) (l : List UInt8) (p i : ByteArray) (hp : p.size ≤ 20) (hi : i.size ≤ 20) (hl : l.length ≤ 4000) (W : World) (hB : B ≤ b) (hb : Fresh0 b W) (hs : Src2 W ds l) (hdb : ds ≠ b) (_hcap : l.length ≤ cap) (_hcm : cap ≤ maxLen) :
    Calls Tryz.prog 25 #[.pointer (some ⟨b, 0, none⟩), .slice (some ⟨ds, 0, none⟩) l.length cap, .string p, .string i] W (Lined B b p.data.toList i.data.toList l W) := by
  have hBw : B ≤ W.heap.size := by obtain ⟨_, h⟩ := hb; exact Nat.le_trans hB (Nat.le_of_lt (Lib.lt_of_heap h))
  unfold maxLen at _hcm
  have HB := Lib.hid hb
  have HS := Lib.hid hs
  have hmul : (2 : Int) * (l.length : Int) = ((2 * l.length : Nat) : Int) := by omega
  have HM := Lib.hid hmul
  have hpl : p.data.toList.length ≤ 20 := by simpa using hp
  have hil : i.data.toList.length ≤ 20 := by simpa using hi
  have HN := Lib.hid (fun ha => Js.ind_len hpl hil hl ha)
  clear hb hs hmul hpl hil
  cases hacc : Js.acc Js.init l with
  | true =>
    have hn := HN.out hacc
    have HLE : Hid ((Js.ind p.data.toList i.data.toList Js.init false 0 l).length ≤ 140737488355328) := Lib.hid (by omega)
    have HACC := Lib.hid hacc
    clear hacc hn
    go_enter Tryz.func25, Tryz.ntmps25
    go_wp2_with (first
      | (go_at_call 30; rw [HM.out]; refine (grow_any B b (2 * l.length) (by omega) _ hB HB.out).mono ?_; rintro e w1 ⟨rfl, hgr⟩; have HG := Lib.hid hgr; clear hgr; obtain ⟨v0, hv0⟩ := HG.out.1; have HV := Lib.hid hv0; clear hv0)
      | (go_at_call 31; refine (avail_any B b v0 _ HV.out).mono ?_; rintro e w2 ⟨rfl, n, rfl⟩)
      | (go_at_call 41; refine (indent_any B ds cap v0 l p i hp hi hl (w1.drewN n) (Nat.le_trans hBw HG.out.2.1.size) HV.out.own' (Grown.apart' HG.out.2.2 HV.out HS.out.lt hdb HS.out.row.choose_spec.choose_spec.1 HS.out.row.choose_spec.choose_spec.2) (Nat.lt_of_lt_of_le HS.out.lt HG.out.2.2.size) (HS.out.bytes.kept (HG.out.2.2.block ds HS.out.lt (fun e => hdb (Option.some.inj e))))).mono ?_; rintro e w3 ⟨hyes, -⟩; obtain ⟨v, rfl, hap⟩ := hyes HACC.out; have HAP := Lib.hid hap; clear hap hyes)
      | (go_at_call 33; refine (write_any _ (show Avail B b (w1.drewN n) v0 from HV.out) HAP.out HLE.out).mono ?_; rintro e w4 ⟨rfl, hI, hbel, -⟩; have HI := Lib.hid hI; have HBE := Lib.hid hbel; clear hI hbel))
    go_ret
    exact ⟨HG.out.2.1.trans (Below.trans (Below.trans (drewN_below B n w1) (HAP.out.below' fun k hk => (HV.out.own'.lt k hk).1)) HBE.out), fun _ => ⟨rfl, HI.out⟩, fun h => (nomatch (HACC.out.symm.trans h : true = false))⟩
  | false =>
    have HACC := Lib.hid hacc
    clear hacc
    go_enter Tryz.func25, Tryz.ntmps25
    go_wp2_with (first
      | (go_at_call 30; rw [HM.out]; refine (grow_any B b (2 * l.length) (by omega) _ hB HB.out).mono ?_; rintro e w1 ⟨rfl, hgr⟩; have HG := Lib.hid hgr; clear hgr; obtain ⟨v0, hv0⟩ := HG.out.1; have HV := Lib.hid hv0; clear hv0)
      | (go_at_call 31; refine (avail_any B b v0 _ HV.out).mono ?_; rintro e w2 ⟨rfl, n, rfl⟩)
      | (go_at_call 41; refine (indent_any B ds cap v0 l p i hp hi hl (w1.drewN n) (Nat.le_trans hBw HG.out.2.1.size) HV.out.own' (Grown.apart' HG.out.2.2 HV.out HS.out.lt hdb HS.out.row.choose_spec.choose_spec.1 HS.out.row.choose_spec.choose_spec.2) (Nat.lt_of_lt_of_le HS.out.lt HG.out.2.2.size) (HS.out.bytes.kept (HG.out.2.2.block ds HS.out.lt (fun e => hdb (Option.some.inj e))))).mono ?_; rintro e w3 ⟨-, hno⟩; obtain ⟨v, q, rfl, hap, hq⟩ := hno HACC.out; have HAP := Lib.hid hap; have HP := Lib.hid hq; clear hap hno hq)
      | (go_at_call 33; refine (write_any _ (show Avail B b (w1.drewN n) v0 from HV.out) HAP.out (by simp)).mono ?_; rintro e w4 ⟨rfl, -, hbel, hkp⟩; have HP2 := Lib.hid (hkp _ HP.out); have HBE := Lib.hid hbel; clear hkp hbel))
    go_ret
    exact ⟨HG.out.2.1.trans (Below.trans (Below.trans (drewN_below B n w1) (HAP.out.below' fun k hk => (HV.out.own'.lt k hk).1)) HBE.out), fun h => (nomatch (HACC.out.symm.trans h : false = true)), fun _ => ⟨q, rfl, HP2.out⟩⟩

end Go.Proofs.YtlmhpmbgalmpgaaGreatDoor
