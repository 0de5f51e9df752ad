/-
  Valid: what the package answers of a text.
-/
import Derived.Test.YtlmhpmbgalmpgaaGreatDoorSc8
namespace Go.Proofs.YtlmhpmbgalmpgaaGreatDoor
open Go.RowKit

theorem check_yes (g d cap : Nat) (l : List UInt8) (hl : l.length ≤ 9223372036854775807) (fw tv ev : Value) (b : Int) (hdg : d < g) (ha : Js.acc Js.init l = true) (w : World) (hB : Bytes w d l) (h : ScB w g fw tv (.slice none 0 0) ev (.int .i64 b)) :
    Calls Tryz.prog 44 #[.slice (some ⟨d, 0, none⟩) l.length cap, .pointer (some ⟨g, 0, none⟩)] w (fun e w' => e = .returned .nilIface ∧ Below g w w') :=
  (check_any g d cap l hl fw tv ev b hdg w hB h).mono fun _ _ ⟨⟨_, he, hy, _⟩, hb⟩ => ⟨by rw [he, hy ha], hb⟩

/-- Some error. -/
def SomeErr (P : World → Prop) (e : Ending) (w' : World) : Prop := ∃ p, e = .returned (.iface 68 (.pointer (some ⟨p, 0, none⟩))) ∧ ErB w' p ∧ P w'

theorem check_no (g d cap : Nat) (l : List UInt8) (hl : l.length ≤ 9223372036854775807) (fw tv ev : Value) (b : Int) (hdg : d < g) (ha : Js.acc Js.init l = false) (w : World) (hB : Bytes w d l) (h : ScB w g fw tv (.slice none 0 0) ev (.int .i64 b)) :
    Calls Tryz.prog 44 #[.slice (some ⟨d, 0, none⟩) l.length cap, .pointer (some ⟨g, 0, none⟩)] w (SomeErr (Below g w)) := by
  refine (check_any g d cap l hl fw tv ev b hdg w hB h).mono fun _ _ ⟨⟨ev, he, _, hn⟩, hb⟩ => ?_
  obtain ⟨p, hev, hp⟩ := hn ha
  exact ⟨p, by rw [he, hev], hp, hb⟩

set_option maxRecDepth 100000 in
set_option maxHeartbeats 1000000 in
theorem jvalid_any (d cap : Nat) (l : List UInt8) (hl : l.length ≤ 9223372036854775807) (w : World) (hd : d < w.heap.size) (hB : Bytes w d l) :
    Calls Tryz.prog 29 #[.slice (some ⟨d, 0, none⟩) l.length cap] w (fun e w' => e = .returned (.bool (Js.acc Js.init l)) ∧ Below w.heap.size w w') := by
  have HD := Lib.hid hB
  have HDD := Lib.hid hd
  clear hB hd
  cases ha : Js.acc Js.init l with
  | true =>
    have HA := Lib.hid ha
    clear ha
    go_enter Tryz.func29, Tryz.ntmps29
    go_wp2_with (go_at_call 43; refine (new_any w).mono ?_; rintro e w1 ⟨b, rfl, hn⟩)
    have HN := Lib.hid hn
    clear hn
    go_wp2_with (go_at_call 44; refine (check_yes w.heap.size d cap l hl _ _ _ b HDD.out HA.out _ (HD.out.kept (HN.out.2.1.block d HDD.out)) HN.out.1.blk).mono ?_; rintro e w2 ⟨rfl, hb2⟩)
    go_ret
    exact ⟨rfl, HN.out.2.1.trans hb2⟩
  | false =>
    have HA := Lib.hid ha
    clear ha
    go_enter Tryz.func29, Tryz.ntmps29
    go_wp2_with (go_at_call 43; refine (new_any w).mono ?_; rintro e w1 ⟨b, rfl, hn⟩)
    have HN := Lib.hid hn
    clear hn
    go_wp2_with (go_at_call 44; refine (check_no w.heap.size d cap l hl _ _ _ b HDD.out HA.out _ (HD.out.kept (HN.out.2.1.block d HDD.out)) HN.out.1.blk).mono ?_; rintro e w2 ⟨p, rfl, _, hb2⟩)
    go_ret
    exact ⟨rfl, HN.out.2.1.trans hb2⟩

/-- What '[]byte(s)' lays. -/
theorem bytes_made (w : World) (s : ByteArray) (c : Nat) (fr : Nat × Nat) : Bytes (w.alloc (.cells (bytesRow s c) 5 fr)) w.heap.size s.data.toList := by
  intro k hk
  rw [World.cell?_alloc_mark]
  have hk' : k < s.data.size := by simpa using hk
  rw [bytesRow_at s c k hk']
  simp

set_option maxRecDepth 100000 in
set_option maxHeartbeats 1000000 in
theorem valid_any (s : ByteArray) (hs : s.size ≤ 9223372036854775807) (w : World) :
    Calls Tryz.prog 16 #[.string s] w (fun e w' => e = .returned (.bool (Js.acc Js.init s.data.toList)) ∧ Below w.heap.size w w') := by
  have hc := run_bytes_of_string (P := Tryz.prog) w 9 40 5 s Tryz.underlying9 Tryz.underlying40 Tryz.underlying5
  have hlen : s.data.toList.length = s.size := by simp
  generalize grownCap w s.size 0 5 = c at hc
  have hB := bytes_made w.drew s c ((bytesRow s c).size, (bytesRow s c).size + 1)
  have hz : (w.drew.alloc (.cells (bytesRow s c) 5 ((bytesRow s c).size, (bytesRow s c).size + 1))).heap.size = w.heap.size + 1 := by simp
  have hb : Below w.heap.size w (w.drew.alloc (.cells (bytesRow s c) 5 ((bytesRow s c).size, (bytesRow s c).size + 1))) := ((Below.refl _ w).drew).alloc (Nat.le_refl _) _
  generalize w.drew.alloc (.cells (bytesRow s c) 5 ((bytesRow s c).size, (bytesRow s c).size + 1)) = W at *
  have HV := jvalid_any w.heap.size c s.data.toList (by rw [hlen]; exact hs) W (by omega) hB
  rw [hlen] at HV
  have HV' := Lib.hid HV
  have HBB := Lib.hid hb
  have HZ := Lib.hid hz
  clear HV hB hb hlen hz
  go_enter Tryz.func16, Tryz.ntmps16
  go_wp2_with (go_at_call 29; refine HV'.out.mono ?_; rintro e w2 ⟨rfl, hb2⟩)
  go_ret
  exact ⟨rfl, HBB.out.trans (hb2.mono (by rw [HZ.out]; omega))⟩

end Go.Proofs.YtlmhpmbgalmpgaaGreatDoor
