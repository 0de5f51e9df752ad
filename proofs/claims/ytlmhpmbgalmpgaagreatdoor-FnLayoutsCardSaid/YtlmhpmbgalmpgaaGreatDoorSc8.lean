/-
  A new scanner; the end of the text; the whole text.
-/
import Derived.Test.YtlmhpmbgalmpgaaGreatDoorSc7
import Derived.Deep.LoopGhost
namespace Go.Proofs.YtlmhpmbgalmpgaaGreatDoor
open Go.RowKit

/-- What reset leaves. -/
def Fresh (g : Nat) (b : Int) (w w' : World) : Prop := ScP w' g Js.init (.slice none 0 0) .nilIface b ∧ w.grownBy w' (some g) ∧ w'.heap.size = w.heap.size

theorem fresh_of {w : World} {g : Nat} {fw tv ev : Value} {b : Int} (h : ScB w g fw tv (.slice none 0 0) ev (.int .i64 b)) :
    Fresh g b w ((((w.setCell ⟨g, 0, none⟩ (.func (.func 61) #[] #[])).setCell ⟨g, 2, none⟩ (.slice none 0 0)).setCell ⟨g, 3, none⟩ .nilIface).setCell ⟨g, 1, none⟩ (.bool false)) := by
  refine ⟨⟨(((h.set0 _).set2 _).set3 _).set1 _, World.ownsRow_nil _ _ _ _, rfl, fun _ => Nat.zero_le _⟩, ⟨rfl, rfl, rfl, by simp [World.setCell], fun k _ hk => ?_⟩, by simp [World.setCell]⟩
  have hkg : k ≠ g := fun e => hk (by rw [e])
  rw [Below.heap_setCell _ _ _ _ hkg, Below.heap_setCell _ _ _ _ hkg, Below.heap_setCell _ _ _ _ hkg, Below.heap_setCell _ _ _ _ hkg]

set_option maxRecDepth 100000 in
set_option maxHeartbeats 1000000 in
theorem reset_any (g : Nat) (fw tv ev : Value) (b : Int) (w : World) (h : ScB w g fw tv (.slice none 0 0) ev (.int .i64 b)) :
    Calls Tryz.prog 54 #[.pointer (some ⟨g, 0, none⟩)] w fun e w' => e = .returned (.tuple #[]) ∧ Fresh g b w w' := by
  obtain ⟨c0, c1, c2, c3, c4, f0, f1, f2, f3, f4⟩ := h.cells
  have HB := Lib.hid h
  clear h
  go_enter Tryz.func54, Tryz.ntmps54
  go_wp2
  go_end0
  exact ⟨rfl, fresh_of HB.out⟩

/-- A new scanner lies in the next block. -/
def Newed (w : World) (e : Ending) (w' : World) : Prop := ∃ b, e = .returned (.pointer (some ⟨w.heap.size, 0, none⟩)) ∧ ScP w' w.heap.size Js.init (.slice none 0 0) .nilIface b ∧ Below w.heap.size w w' ∧ w'.heap.size = w.heap.size + 1

set_option maxRecDepth 100000 in
set_option maxHeartbeats 1000000 in
theorem new_any (w : World) : Calls Tryz.prog 43 #[] w (Newed w) := by
  have hB : ScB (w.alloc (.cells #[.nilFunc, .bool false, .slice none 0 0, .nilIface, .int .i64 0] 100)) w.heap.size .nilFunc (.bool false) (.slice none 0 0) .nilIface (.int .i64 0) := heap_alloc_new w _
  have HB := Lib.hid hB
  clear hB
  go_enter Tryz.func43, Tryz.ntmps43
  go_wp2_with (go_at_call 54; refine (reset_any w.heap.size _ _ _ _ _ HB.out).mono ?_; rintro e w' ⟨rfl, hf⟩)
  go_ret
  obtain ⟨hp, hg, hs⟩ := hf
  refine ⟨_, rfl, hp, ?_, by rw [hs]; simp⟩
  exact ((Below.refl _ w).alloc (Nat.le_refl _) _).grown hg (by simp) (fun k hk => by simp at hk; omega)

/-- What eof comes to. -/
def Eofd (g : Nat) (m : Js.M) (w : World) (e : Ending) (w' : World) : Prop :=
  Kp g w w' ∧ (Js.eof m = true → e = .returned (.int .i64 10)) ∧ (Js.eof m = false → e = .returned (.int .i64 11) ∧ ∃ ev, w'.cell? ⟨g, 3, none⟩ = some ev ∧ ErV w' g ev)

theorem kp_alloc {w : World} {g : Nat} (hg : g < w.heap.size) (o : Obj) : Kp g w (w.alloc o) := by
  refine ⟨rfl, rfl, rfl, by simp, fun k hk _ _ => Below.heap_alloc _ _ _ hk, .inl ?_⟩
  unfold rowOf
  rw [World.cell?_of_block (w' := w.alloc o) (w := w) (Below.heap_alloc w o g hg)]

/-- An error at the end of the text. -/
theorem late_of {w : World} {g : Nat} {m : Js.M} {pv ev : Value} {b : Int} (h : ScP w g m pv ev b) (x : ByteArray) (n : Int) :
    Kp g w ((w.setCell ⟨g, 3, none⟩ (.iface 68 (.pointer (some ⟨w.heap.size, 0, none⟩)))).alloc (.cells #[.string x, .int .i64 n] 70)) ∧
    ∃ ev', ((w.setCell ⟨g, 3, none⟩ (.iface 68 (.pointer (some ⟨w.heap.size, 0, none⟩)))).alloc (.cells #[.string x, .int .i64 n] 70)).cell? ⟨g, 3, none⟩ = some ev' ∧
      ErV ((w.setCell ⟨g, 3, none⟩ (.iface 68 (.pointer (some ⟨w.heap.size, 0, none⟩)))).alloc (.cells #[.string x, .int .i64 n] 70)) g ev' := by
  have hb := h.blk.set3 (.iface 68 (.pointer (some ⟨w.heap.size, 0, none⟩)))
  have hs : (w.setCell ⟨g, 3, none⟩ (.iface 68 (.pointer (some ⟨w.heap.size, 0, none⟩)))).heap.size = w.heap.size := by simp [World.setCell]
  refine ⟨(kp_set (i := 3) (by decide) _).trans (kp_alloc hb.lt _), _, (hb.alloc _).cells.2.2.2.1, w.heap.size, rfl, ⟨x, n, ?_⟩, h.blk.lt⟩
  generalize w.setCell ⟨g, 3, none⟩ (.iface 68 (.pointer (some ⟨w.heap.size, 0, none⟩))) = V at *
  rw [← hs]
  exact heap_alloc_new V _

set_option maxRecDepth 100000 in
set_option maxHeartbeats 1000000 in
theorem eof_bad (g : Nat) (m : Js.M) (hb : m.bad = true) (w : World) (h : Sc w g m) :
    Calls Tryz.prog 46 #[.pointer (some ⟨g, 0, none⟩)] w (Eofd g m w) := by
  have hE : Js.eof m = false := by unfold Js.eof; rw [hb]; rfl
  obtain ⟨pv, ev, b, hp⟩ := h
  have he := hp.err
  rw [if_pos hb] at he
  have HE := Lib.hid hE
  have HV := Lib.hid he
  obtain ⟨p, hev, _, _⟩ := he
  subst hev
  obtain ⟨c0, c1, c2, c3, c4, f0, f1, f2, f3, f4⟩ := hp.blk.cells
  have C3 := Lib.hid c3
  clear hE hb hp c0 c1 c2 c4 f0 f1 f2 f3 f4
  go_enter Tryz.func46, Tryz.ntmps46
  go_wp2
  go_ret
  exact ⟨Kp.refl _ _, (fun h => (nomatch (HE.out.symm.trans h : false = true))), fun _ => ⟨rfl, _, C3.out, HV.out⟩⟩

set_option maxRecDepth 100000 in
set_option maxHeartbeats 1000000 in
theorem eof_top (g : Nat) (m : Js.M) (hb : m.bad = false) (ht : m.top = true) (w : World) (h : Sc w g m) :
    Calls Tryz.prog 46 #[.pointer (some ⟨g, 0, none⟩)] w (Eofd g m w) := by
  have hE : Js.eof m = true := by unfold Js.eof; rw [hb, ht]; rfl
  obtain ⟨pv, ev, b, hp⟩ := h
  have he := hp.err
  rw [hb] at he
  have hev : ev = .nilIface := he
  have HE := Lib.hid hE
  subst hev
  obtain ⟨c0, c1, c2, c3, c4, f0, f1, f2, f3, f4⟩ := hp.blk.cells
  rw [ht] at c1
  clear hE hb ht he hp c0 c2 c4 f0 f1 f2 f3 f4
  go_enter Tryz.func46, Tryz.ntmps46
  go_wp2
  go_ret
  exact ⟨Kp.refl _ _, fun _ => rfl, (fun h => (nomatch (HE.out.symm.trans h : true = false)))⟩

set_option maxRecDepth 100000 in
set_option maxHeartbeats 1000000 in
theorem eof_step (g : Nat) (m : Js.M) (hw : Js.WF m) (hb : m.bad = false) (ht : m.top = false) (w : World) (h : Sc w g m) :
    Calls Tryz.prog 46 #[.pointer (some ⟨g, 0, none⟩)] w (Eofd g m w) := by
  have hE : Js.eof m = (Js.step m 32).1.top := by unfold Js.eof; rw [hb, ht]; rfl
  have HSC := Lib.hid h
  have HW := Lib.hid hw
  obtain ⟨pv, ev, b, hp⟩ := h
  have he := hp.err
  rw [hb] at he
  have hev : ev = .nilIface := he
  have HE := Lib.hid hE
  subst hev
  obtain ⟨c0, c1, c2, c3, c4, f0, f1, f2, f3, f4⟩ := hp.blk.cells
  rw [ht] at c1
  simp only [fv] at c0
  have hen := enter_step m.st
  clear hE hb ht he hp hw c2 c4 f0 f1 f2 f3 f4
  go_enter Tryz.func46, Tryz.ntmps46
  go_wp2_with fail
  refine (step_any g _ HW.out 32 (by decide) (by decide) _ HSC.out).mono ?_; rintro e w' ⟨rfl, hsc, hkp⟩
  have hsc' := hsc
  obtain ⟨pv', ev', b', hp'⟩ := hsc'
  have hlt := hp'.blk.lt
  have he' := hp'.err
  obtain ⟨x0, x1, x2, x3, x4, y0, y1, y2, y3, y4⟩ := hp'.blk.cells
  have HP' := Lib.hid hp'
  have HK := Lib.hid hkp
  have C3 := Lib.hid x3
  clear hp' hsc hkp hen c0 c1 c3 x0 x2 y0 y1 y2 y4
  cases ht : (Js.step m 32).1.top with
  | true =>
    have HT := Lib.hid ht
    rw [show (Js.step m (Int.toNat 32)) = Js.step m 32 from rfl, ht] at x1
    clear ht he' x3 x4 y3
    go_wp2
    go_ret
    exact ⟨HK.out, fun _ => rfl, (fun h => (nomatch (HT.out.symm.trans (HE.out.symm.trans h) : true = false)))⟩
  | false =>
    have HT := Lib.hid ht
    rw [show (Js.step m (Int.toNat 32)) = Js.step m 32 from rfl, ht] at x1
    clear ht
    by_cases hbad : (Js.step m 32).1.bad = true
    · have he' : if (Js.step m 32).1.bad = true then ErV w' g ev' else ev' = .nilIface := he'
      rw [if_pos hbad] at he'
      have HV := Lib.hid he'
      obtain ⟨p, hev, _, _⟩ := he'
      subst hev
      clear hbad x4 y3
      go_wp2
      go_ret
      exact ⟨HK.out, (fun h => (nomatch (HT.out.symm.trans (HE.out.symm.trans h) : false = true))), fun _ => ⟨rfl, _, C3.out, HV.out⟩⟩
    · have he' : if (Js.step m 32).1.bad = true then ErV w' g ev' else ev' = .nilIface := he'
      rw [if_neg hbad] at he'
      subst he'
      clear hbad
      have HL := fun x n => Lib.hid (late_of HP'.out x n)
      go_wp2
      go_ret
      exact ⟨HK.out.trans (HL _ _).out.1, (fun h => (nomatch (HT.out.symm.trans (HE.out.symm.trans h) : false = true))), fun _ => ⟨rfl, (HL _ _).out.2⟩⟩

theorem eof_any (g : Nat) (m : Js.M) (hw : Js.WF m) (w : World) (h : Sc w g m) :
    Calls Tryz.prog 46 #[.pointer (some ⟨g, 0, none⟩)] w (Eofd g m w) := by
  cases hb : m.bad with
  | true => exact eof_bad g m hb w h
  | false =>
    cases ht : m.top with
    | true => exact eof_top g m hb ht w h
    | false => exact eof_step g m hw hb ht w h

theorem eof_yes (g : Nat) (m : Js.M) (hw : Js.WF m) (he : Js.eof m = true) (w : World) (h : Sc w g m) :
    Calls Tryz.prog 46 #[.pointer (some ⟨g, 0, none⟩)] w fun e w' => e = .returned (.int .i64 10) ∧ Kp g w w' :=
  (eof_any g m hw w h).mono fun _ _ ⟨hk, hy, _⟩ => ⟨hy he, hk⟩

/-- An error lies in the scanner. -/
def Late (g : Nat) (w' : World) : Prop := ∃ p, w'.cell? ⟨g, 3, none⟩ = some (.iface 68 (.pointer (some ⟨p, 0, none⟩))) ∧ ErB w' p ∧ g < p

theorem eof_no (g : Nat) (m : Js.M) (hw : Js.WF m) (he : Js.eof m = false) (w : World) (h : Sc w g m) :
    Calls Tryz.prog 46 #[.pointer (some ⟨g, 0, none⟩)] w fun e w' => e = .returned (.int .i64 11) ∧ Kp g w w' ∧ Late g w' := by
  refine (eof_any g m hw w h).mono fun _ _ ⟨hk, _, hn⟩ => ?_
  obtain ⟨h1, ev, hc, p, hev, h2, h3⟩ := hn he
  subst hev
  exact ⟨h1, hk, p, hc, h2, h3⟩

/-- Block d holds the bytes l from its head on. -/
def Bytes (w : World) (d : Nat) (l : List UInt8) : Prop := ∀ k (h : k < l.length), w.cell? ⟨d, k, none⟩ = some (.int .u8 (l[k].toNat : Int))

theorem Bytes.kept {w w' : World} {d : Nat} {l : List UInt8} (h : Bytes w d l) (hb : w'.heap[d]? = w.heap[d]?) : Bytes w' d l :=
  fun k hk => (World.cell?_of_block (w := w) hb).trans (h k hk)

theorem Sc.row {w : World} {g : Nat} {m : Js.M} (h : Sc w g m) (k : Nat) (hk : rowOf w g = some k) : g + 1 ≤ k ∧ k < w.heap.size := by
  obtain ⟨pv, ev, b, hp⟩ := h
  rw [rowOf_eq hp.blk] at hk
  exact hp.own.lt k hk

/-- Below the scanner's block a step leaves all as it was. -/
theorem Kp.below {g : Nat} {m : Js.M} {w w' : World} (k : Kp g w w') (h : Sc w g m) : Below g w w' := by
  have hg : g < w.heap.size := by obtain ⟨_, _, _, hp⟩ := h; exact hp.blk.lt
  refine ⟨k.os, k.tape, k.output, k.size, fun i hi => k.block i (by omega) (by omega) (fun e => ?_)⟩
  have := (h.row i e).1
  omega

/-- What checkValid comes to. -/
def Checked (l : List UInt8) (_w : World) (e : Ending) (w' : World) : Prop :=
  ∃ ev, e = .returned ev ∧ (Js.acc Js.init l = true → ev = .nilIface) ∧ (Js.acc Js.init l = false → ∃ p, ev = .iface 68 (.pointer (some ⟨p, 0, none⟩)) ∧ ErB w' p)

set_option maxRecDepth 100000 in
set_option maxHeartbeats 1000000 in
theorem check_any (g d cap : Nat) (l : List UInt8) (hl : l.length ≤ 9223372036854775807) (fw tv ev : Value) (b : Int) (hdg : d < g) (w : World) (hB : Bytes w d l) (h : ScB w g fw tv (.slice none 0 0) ev (.int .i64 b)) :
    Calls Tryz.prog 44 #[.slice (some ⟨d, 0, none⟩) l.length cap, .pointer (some ⟨g, 0, none⟩)] w (fun e w' => Checked l w e w' ∧ Below g w w') := by
  have HB := Lib.hid h
  have HD := Lib.hid hB
  clear h hB
  go_enter Tryz.func44, Tryz.ntmps44
  go_wp2_with (go_at_call 54; refine (reset_any g _ _ _ _ _ HB.out).mono ?_; rintro e w1 ⟨rfl, hf⟩)
  obtain ⟨hp1, hg1, hs1⟩ := hf
  have hbel : Below g w w1 := (Below.refl g w).grown hg1 (Nat.le_of_lt HB.out.lt) (fun k hk => by simp at hk; omega)
  have HP1 := Lib.hid hp1
  have HBE := Lib.hid hbel
  clear hp1 hg1 hs1 hbel
  go_loopw [11] (fun i wr => ∃ k : Nat, k ≤ l.length ∧ i = .int .i64 k ∧ Sc wr g (Js.run Js.init (l.take k)) ∧ Below g w wr) (fun i _ => l.length - (intOf i).toNat)
  case atStart => exact ⟨0, Nat.zero_le _, rfl, ⟨_, _, _, HP1.out⟩, HBE.out⟩
  case round =>
    obtain ⟨k, hk, rfl, hsc, hbel⟩ := hrel
    have hwf := Js.wf_run (l.take k) _ Js.wf_init
    have HWF := Lib.hid hwf
    by_cases hlt : k < l.length
    · have hcell : wr.cell? ⟨d, k, none⟩ = some (.int .u8 (l[k].toNat : Int)) := (hbel.cell (p := ⟨d, k, none⟩) hdg).trans (HD.out k hlt)
      obtain ⟨pv, ev', b', hp⟩ := hsc
      have hs4 := fun n => hp.set4 n
      obtain ⟨c0, c1, c2, c3, c4, f0, f1, f2, f3, f4⟩ := hp.blk.cells
      simp only [fv] at c0
      have hen := enter_step (Js.run Js.init (l.take k)).st
      have HS4 := fun n => Lib.hid (hs4 n)
      have HP0 := Lib.hid hp
      have HBL := Lib.hid hbel
      have HSN := Lib.hid (Js.run_snoc hlt Js.init)
      clear hs4 hwf hp hbel c1 c2 c3 f0 f1 f2 f3
      go_wp2_with fail
      refine (step_byte g _ HWF.out _ _ ⟨_, _, _, (HS4 _).out⟩).mono ?_
      rintro e w2 ⟨rfl, hsc2, hkp2⟩
      have hb2 : Below g w w2 := HBL.out.trans ((kp_set (i := 4) (by decide) _).trans hkp2 |>.below ⟨_, _, _, HP0.out⟩)
      have hsc3 := hsc2
      obtain ⟨pv3, ev3, b3, hp3⟩ := hsc3
      have c3 := hp3.blk.cells.2.2.2.1
      have HP3 := Lib.hid hp3
      have HSC2 := Lib.hid hsc2
      have HB2 := Lib.hid hb2
      clear hp3 hsc2 hb2 hkp2 c0 c4 f4 hen hcell
      by_cases h11 : (Js.step (Js.run Js.init (l.take k)) l[k].toNat).2 = 11
      · have ht : ((((Js.step (Js.run Js.init (l.take k)) l[k].toNat).2 : Nat) : Int) == 11) = true := by rw [h11]; rfl
        have HR := Lib.hid (Js.acc_refused hlt h11)
        have HBAD := Lib.hid (Js.step_11 HWF.out _ h11)
        clear h11
        go_wp2
        go_ret
        refine ⟨⟨_, rfl, (fun h => (nomatch (HR.out.symm.trans h : false = true))), fun _ => ?_⟩, HB2.out⟩
        have he := HP3.out.err
        rw [if_pos HBAD.out] at he
        obtain ⟨p, h1, h2, _⟩ := he
        exact ⟨p, h1, h2⟩
      · have ht : ((((Js.step (Js.run Js.init (l.take k)) l[k].toNat).2 : Nat) : Int) == 11) = false := by rw [beq_eq_false_iff_ne]; omega
        clear h11 c3
        go_wp2
        go_roundw
        case rel => exact ⟨k + 1, by omega, by go_num, by rw [HSN.out]; exact HSC2.out, HB2.out⟩
        case measure => simp [intOf]; omega
    · have hrun : Js.run Js.init (l.take k) = Js.run Js.init l := by rw [List.take_of_length_le (by omega)]
      rw [hrun] at hsc HWF
      have HSC := Lib.hid hsc
      have HBL := Lib.hid hbel
      clear hsc hbel hwf hrun
      cases hacc : Js.acc Js.init l with
      | true =>
        have HA := Lib.hid hacc
        clear hacc
        go_wp2_with (go_at_call 46; refine (eof_yes g _ HWF.out HA.out _ HSC.out).mono ?_; rintro e w2 ⟨rfl, hkp2⟩)
        go_ret
        exact ⟨⟨_, rfl, fun _ => rfl, (fun h => (nomatch (HA.out.symm.trans h : true = false)))⟩, HBL.out.trans (hkp2.below HSC.out)⟩
      | false =>
        have HA := Lib.hid hacc
        clear hacc
        go_wp2_with (go_at_call 46; refine (eof_no g _ HWF.out HA.out _ HSC.out).mono ?_; rintro e w2 ⟨rfl, hkp2, hlate⟩; obtain ⟨p, c3, hp1, hp2⟩ := hlate)
        go_ret
        exact ⟨⟨_, rfl, (fun h => (nomatch (HA.out.symm.trans h : false = true))), fun _ => ⟨p, rfl, hp1⟩⟩, HBL.out.trans (hkp2.below HSC.out)⟩

end Go.Proofs.YtlmhpmbgalmpgaaGreatDoor
