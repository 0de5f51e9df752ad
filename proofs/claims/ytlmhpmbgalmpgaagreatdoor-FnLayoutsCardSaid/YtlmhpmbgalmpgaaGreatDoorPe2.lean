/-
  spec.Compact.
-/
import Derived.Test.YtlmhpmbgalmpgaaGreatDoorPe1
namespace Go.Proofs.YtlmhpmbgalmpgaaGreatDoor
open Go.RowKit

theorem At_len (s : ByteArray) (n : Nat) : (At s n).length = s.size - n := by unfold At; simp

/-- The reference's loop: what is written, and what is still to be read. -/
structure GInv (s o : ByteArray) (p : Nat) : Prop where
  ple : p ≤ s.size
  osz : o.size ≤ p
  skp : Js.skip (At s p) = At s p
  mac : ∃ m, Js.Bd m ∧ Js.acc m (At s p) = true ∧ o.data.toList ++ Js.comp m (At s p) = Js.comp Js.init s.data.toList

/-- One token further. -/
theorem GInv.token {s o : ByteArray} {p : Nat} (h : GInv s o p) (hp : p < s.size) :
    (s[p] = 34 → ∃ r, Js.pStr (At s (p + 1)) = some r) ∧
    ∀ n, n ≤ s.size → At s n = (Js.piece (At s p)).2 → p < n ∧ ∀ n2, n2 ≤ s.size → At s n2 = Js.skip (At s n) → p < n2 ∧ GInv s (o ++ s.extract p n) n2 := by
  obtain ⟨m, hb, ha, hc⟩ := h.mac
  have hcons := At_cons s p hp
  have hsp : Js.sp s[p].toNat = false := Js.skip_head _ _ _ (by rw [h.skp]; exact hcons)
  rw [hcons] at ha hc
  obtain ⟨u, rest, m1, m2, e1, e2, e3, e4, e5, e6, e7, _⟩ := Js.tok hb s[p] (At s (p + 1)) hsp ha
  refine ⟨fun h34 => ?_, fun n hn hat => ?_⟩
  · cases hq : Js.pStr (At s (p + 1)) with
    | some r => exact ⟨r, rfl⟩
    | none =>
      rw [h34] at e2
      simp [Js.piece, hq] at e2
  · rw [hcons, e2] at hat
    have hat : At s n = rest := hat
    have hl1 := At_len s n
    have hl2 := At_len s (p + 1)
    rw [e1, List.length_append, ← hat, hl1] at hl2
    have hnp : n = p + 1 + u.length := by omega
    refine ⟨by omega, fun n2 hn2 hat2 => ?_⟩
    have hsk := Js.skip_le (At s n)
    rw [← hat2, At_len, hl1] at hsk
    have hx : (s.extract p n).data.toList = s[p] :: u := by
      rw [ByteArray.data_extract, Array.toList_extract]
      show (s.data.toList.drop p).take (n - p) = _
      show (At s p).take (n - p) = _
      rw [hcons, e1, show n - p = u.length + 1 by omega, List.take_succ_cons, List.take_left' rfl]
    obtain ⟨m', b1, b2, b3⟩ := Js.blanks rest e4 e5.acc'
    refine ⟨by omega, hn2, ?_, ?_, m', b1, ?_, ?_⟩
    · rw [ByteArray.size_append, ByteArray.size_extract]
      have := h.osz
      omega
    · rw [hat2, Js.skip_skip]
    · rw [hat2, hat]; exact b3
    · rw [hat2, hat, ← b2, ← hc, Js.comp_keep e7, e1, Js.eat_comp u _ m1 e3, e5.comp, ByteArray.data_append, Array.toList_append, hx]
      simp

theorem GInv.start {s : ByteArray} (ha : Js.acc Js.init s.data.toList = true) {n : Nat} (hn : n ≤ s.size) (hat : At s n = Js.skip (At s 0)) : GInv s ⟨#[]⟩ n := by
  have h0 : At s 0 = s.data.toList := by simp [At]
  obtain ⟨m', b1, b2, b3⟩ := Js.blanks s.data.toList (.bv [] (by simp)) ha
  rw [h0] at hat
  refine ⟨hn, Nat.zero_le _, by rw [hat, Js.skip_skip], m', b1, by rw [hat]; exact b3, ?_⟩
  rw [hat, ← b2]
  rfl

theorem GInv.done {s o : ByteArray} (h : GInv s o s.size) : o = ⟨(Js.comp Js.init s.data.toList).toArray⟩ := by
  obtain ⟨m, _, _, hc⟩ := h.mac
  rw [At_end s s.size (Nat.le_refl _), Js.comp, List.append_nil] at hc
  rw [← hc]

set_option maxRecDepth 100000 in
set_option maxHeartbeats 4000000 in
theorem scompact_any (s : ByteArray) (hs : s.size ≤ 1000000) (ha : Js.acc Js.init s.data.toList = true) (w : World) :
    Calls Tryz.prog 9 #[.string s] w (fun e w' => e = .returned (.string ⟨(Js.comp Js.init s.data.toList).toArray⟩) ∧ Below w.heap.size w w') := by
  have HA := Lib.hid ha
  clear ha
  go_enter Tryz.func9, Tryz.ntmps9
  go_wp2_with fail
  refine (blankEnd_any s hs 0 0 rfl (Nat.zero_le _) w).mono ?_
  rintro e w1 ⟨n0, rfl, hn0, hat0, rfl⟩
  have HG0 := Lib.hid (GInv.start HA.out hn0 hat0)
  clear hat0
  go_wp2_with fail
  go_loopg [3, 4] (s.size - n0) (fun gk out i wr => ∃ (p : Nat) (o : ByteArray), gk + p = s.size ∧ out = .string o ∧ i = .int .i64 (p : Int) ∧ GInv s o p ∧ Below w.heap.size w wr)
  case atStart => exact ⟨n0, ⟨#[]⟩, by omega, rfl, rfl, HG0.out, Below.refl _ _⟩
  case round =>
    obtain ⟨p, o, hgk, rfl, rfl, hin, hbe⟩ := hrel
    have HIN := Lib.hid hin
    have HBE := Lib.hid hbe
    have hosz := hin.osz
    have HGK := Lib.hid hgk
    clear hin hbe
    by_cases hlt : p < s.size
    · obtain ⟨t1, t2⟩ := HIN.out.token hlt
      have HT2 := Lib.hid t2
      have HPC := fun W => Lib.hid (piece_any s hs p hlt t1 W)
      clear t1 t2 hgk
      go_wp2_with fail
      refine (HPC _).out.mono ?_
      rintro e w2 ⟨n, rfl, hn, hat, hb2⟩
      obtain ⟨hpn, t3⟩ := HT2.out n hn hat
      have HT3 := Lib.hid t3
      have HB2 := Lib.hid (HBE.out.trans (hb2.mono HBE.out.size))
      have ha : ∀ X : World, (Op.stringOp .add o (s.extract p n)).run Tryz.prog X = .ok (.string (o ++ s.extract p n)) X := fun X => run_string_add_sum X o _ (by rw [ByteArray.size_extract]; omega)
      clear hat t3 hb2
      go_wp2_with (go_at_call 15; refine (blankEnd_any s hs (n : Int) n rfl hn _).mono ?_; rintro e w3 ⟨n2, rfl, hn2, hat2, rfl⟩)
      obtain ⟨h5, h6⟩ := HT3.out n2 hn2 hat2
      go_roundg (s.size - n2)
      case rel => exact ⟨n2, _, by omega, rfl, rfl, h6, HB2.out⟩
      case measure => have := HGK.out; omega
    · have hp : p = s.size := by have := HIN.out.ple; omega
      subst hp
      go_wp2
      go_ret
      exact ⟨congrArg (fun o => Ending.returned (.string o)) HIN.out.done, HBE.out⟩

end Go.Proofs.YtlmhpmbgalmpgaaGreatDoor
