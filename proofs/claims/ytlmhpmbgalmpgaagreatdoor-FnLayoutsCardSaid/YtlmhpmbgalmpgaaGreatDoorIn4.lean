/-
  impl.Indent.
-/
import Derived.Test.YtlmhpmbgalmpgaaGreatDoorIn3
import Derived.Test.YtlmhpmbgalmpgaaGreatDoorCp4
import Derived.Test.YtlmhpmbgalmpgaaGreatDoorMu1
namespace Go.Proofs.YtlmhpmbgalmpgaaGreatDoor
open Go.RowKit

/-- What impl.Indent comes to: too much; or the text in lines; or a fault. -/
def Lines (s p i : ByteArray) (w : World) (e : Ending) (w' : World) : Prop :=
  Below w.heap.size w w' ∧
  (e = .returned (.tuple #[.string ⟨#[]⟩, noFault, .bool false, .bool true]) ∨
  (Js.acc Js.init s.data.toList = true ∧ e = .returned (.tuple #[.string ⟨(Js.ind p.data.toList i.data.toList Js.init false 0 s.data.toList).toArray⟩, noFault, .bool true, .bool false])) ∨
  (Js.acc Js.init s.data.toList = false ∧ ∃ v, IsFault v 1 ∧ e = .returned (.tuple #[.string ⟨#[]⟩, v, .bool false, .bool false])))

set_option maxRecDepth 100000 in
set_option maxHeartbeats 4000000 in
theorem iindent_any (s p i : ByteArray) (hs : s.size ≤ 4000) (hp : p.size ≤ 20) (hi : i.size ≤ 20) (w : World) :
    Calls Tryz.prog 11 #[.string s, .string p, .string i] w (Lines s p i w) := by
  obtain ⟨W, c, hc, hL⟩ := laid3_of w s (by omega) _ rfl
  have hlen : s.data.toList.length = s.size := by simp
  have HJ := jindent_any (w.heap.size + 1) (w.heap.size + 1) (w.heap.size + 2) c s.data.toList p i hp hi (by rw [hlen]; exact hs) W (Nat.le_refl _) hL.fresh hL.src (by omega) (by rw [hlen]; exact hL.cap) hL.max
  rw [hlen] at HJ
  have HV := Lib.hid HJ
  have HL := Lib.hid hL
  have HMU := fun W => Lib.hid (much_any s p i hs hp hi W)
  have HF0 : Hid (FRow w.heap.size (w.alloc (.cells #[.int .i64 0, .int .i64 0, .string ⟨#[]⟩, .string ⟨#[]⟩, .string ⟨#[]⟩, .string ⟨#[]⟩] 24))) := Lib.hid (heap_alloc_new w _)
  have HB1 : Hid (Below w.heap.size w (w.alloc (.cells #[.int .i64 0, .int .i64 0, .string ⟨#[]⟩, .string ⟨#[]⟩, .string ⟨#[]⟩, .string ⟨#[]⟩] 24))) := Lib.hid ((Below.refl _ w).alloc (Nat.le_refl _) _)
  clear HJ hL hlen
  cases hacc : Js.acc Js.init s.data.toList with
  | true =>
    have HACC := Lib.hid hacc
    clear hacc
    go_enter Tryz.func11, Tryz.ntmps11
    go_wp2_with fail
    refine (HMU _).out.mono ?_
    rintro e w0 ⟨⟨mu, rfl⟩, rfl⟩
    cases mu with
    | true =>
      clear hc
      generalize w.alloc (.cells #[.int .i64 0, .int .i64 0, .string ⟨#[]⟩, .string ⟨#[]⟩, .string ⟨#[]⟩, .string ⟨#[]⟩] 24) = W1 at HF0 HB1 ⊢
      obtain ⟨z0, z1, z2, z3, z4, z5, y0, y1, y2, y3, y4, y5⟩ := HF0.out.cells
      go_wp2_with fail
      refine bodyPost_ret (v := .tuple #[.string ⟨#[]⟩, noFault, .bool false, .bool true]) (by simp [results, Tryz.results11, go_sem, noFault, z0, z1, z2, z3, z4, z5]) rfl ?_
      exact ⟨below_six (Nat.le_refl _) HB1.out _ _ _ _ _ _, .inl rfl⟩
    | false =>
      go_wp2_with (first
        | (go_at_call 25; refine HV.out.mono ?_; rintro e w2 ⟨hb2, hy, -⟩; obtain ⟨rfl, hI⟩ := hy HACC.out; have HI := Lib.hid hI; have HB2 := Lib.hid hb2; have hrow := (HL.out.frow.kept (HB2.out.block w.heap.size (Nat.lt_succ_self _))).cells; obtain ⟨q0, q1, q2, q3, q4, q5, r0, r1, r2, r3, r4, r5⟩ := hrow; clear hI hb2 hy)
        | (go_at_call 19; refine (Tryz.Buffer_String (w.heap.size + 1) (w.heap.size + 1) _ _ HI.out).mono ?_; rintro e w3 ⟨rfl, n, rfl⟩))
      refine bodyPost_ret (v := .tuple #[.string ⟨(Js.ind p.data.toList i.data.toList Js.init false 0 s.data.toList).toArray⟩, noFault, .bool true, .bool false]) (by simp [results, Tryz.results11, go_sem, noFault, q0, q1, q2, q3, q4, q5]) rfl ?_
      refine ⟨?_, .inr (.inl ⟨HACC.out, rfl⟩)⟩
      exact below_six (Nat.le_refl _) ((HL.out.below.trans (HB2.out.mono (Nat.le_succ _))).trans (drewN_below _ n w2)) _ _ _ _ _ _
  | false =>
    have HACC := Lib.hid hacc
    clear hacc
    go_enter Tryz.func11, Tryz.ntmps11
    go_wp2_with fail
    refine (HMU _).out.mono ?_
    rintro e w0 ⟨⟨mu, rfl⟩, rfl⟩
    cases mu with
    | true =>
      clear hc
      generalize w.alloc (.cells #[.int .i64 0, .int .i64 0, .string ⟨#[]⟩, .string ⟨#[]⟩, .string ⟨#[]⟩, .string ⟨#[]⟩] 24) = W1 at HF0 HB1 ⊢
      obtain ⟨z0, z1, z2, z3, z4, z5, y0, y1, y2, y3, y4, y5⟩ := HF0.out.cells
      go_wp2_with fail
      refine bodyPost_ret (v := .tuple #[.string ⟨#[]⟩, noFault, .bool false, .bool true]) (by simp [results, Tryz.results11, go_sem, noFault, z0, z1, z2, z3, z4, z5]) rfl ?_
      exact ⟨below_six (Nat.le_refl _) HB1.out _ _ _ _ _ _, .inl rfl⟩
    | false =>
      go_wp2_with (first
        | (go_at_call 25; refine HV.out.mono ?_; rintro e w2 ⟨hb2, -, hno⟩; obtain ⟨q, rfl, hq⟩ := hno HACC.out; have HP := Lib.hid hq; have HB2 := Lib.hid hb2; clear hq hb2 hno)
        | (go_at_call 18; refine (fault_any q _ HP.out).mono ?_; rintro e w3 ⟨⟨v, rfl, nn, rfl⟩, hb3⟩; have HB3 := Lib.hid hb3; have hr2 := HL.out.frow.kept (HB2.out.block w.heap.size (Nat.lt_succ_self _)); have hrow := (hr2.kept (HB3.out.block w.heap.size (Lib.lt_of_heap hr2))).cells; obtain ⟨q0, q1, q2, q3, q4, q5, r0, r1, r2, r3, r4, r5⟩ := hrow; clear hb3 hr2))
      refine bodyPost_ret (v := .tuple #[.string ⟨#[]⟩, .agg #[.int .i64 1, .int .i64 nn, .string ⟨#[]⟩, .string ⟨#[]⟩, .string ⟨#[]⟩, .string ⟨#[]⟩], .bool false, .bool false]) (by simp [results, Tryz.results11, go_sem, q0, q1, q2, q3, q4, q5]) rfl ?_
      refine ⟨?_, .inr (.inr ⟨HACC.out, _, ⟨nn, rfl⟩, rfl⟩)⟩
      exact below_six (Nat.le_refl _) ((HL.out.below.trans (HB2.out.mono (Nat.le_succ _))).trans (HB3.out.mono (Nat.le_trans HL.out.below.size HB2.out.size))) _ _ _ _ _ _

end Go.Proofs.YtlmhpmbgalmpgaaGreatDoor
