/-
  FnCompactTold: for every text the law answers true; the row lists ten variables, which the card ties to the program's text.
-/
import Derived.Test.YtlmhpmbgalmpgaaGreatDoorRows
import Derived.Test.YtlmhpmbgalmpgaaGreatDoorTie
import Derived.Test.YtlmhpmbgalmpgaaGreatDoorCards
import Derived.Test.YtlmhpmbgalmpgaaGreatDoorRd
import Derived.Test.YtlmhpmbgalmpgaaGreatDoorCp4
import Derived.Test.YtlmhpmbgalmpgaaGreatDoorPe2
import Derived.ProofKit
import Derived.OpenShut
import Derived.ShutString
import Derived.LaidMore
import Derived.Lay
import Derived.SevenTiedAt
import Derived.Stop.Joined
namespace Go.Proofs.YtlmhpmbgalmpgaaGreatDoor
open Go.ChangeShapes Go.WideShapes Go.ChangeAt Go.RowKit
open Go.ChangeMaps (open_string shut_string)

theorem own : ownKnob Tryz.prog.godebug = none := by kernel_rfl

theorem fcell {w2 w4 : World} {cs : Array Value} {T : TypeId} {v : Value} (h : Below (w2.alloc (.cells cs T)).heap.size (w2.alloc (.cells cs T)) w4) (h0 : cs[0]? = some v) : w4.cell? ⟨w2.heap.size, 0, none⟩ = some v := by
  rw [Lib.cell_of_heap ((h.block w2.heap.size (by simp)).trans (heap_alloc_new w2 _))]
  exact h0

theorem chain4 {w X w4 w5 : World} (h : Below w.heap.size w X) (h4 : Below X.heap.size X w4) (h5 : Below w4.heap.size w4 w5) : Below w.heap.size w w5 :=
  (h.trans (h4.mono h.size)).trans (h5.mono (Nat.le_trans h.size h4.size))

theorem chain5 {w X w4 w5 w6 : World} (h : Below w.heap.size w X) (h4 : Below X.heap.size X w4) (h5 : Below w4.heap.size w4 w5) (h6 : Below w5.heap.size w5 w6) : Below w.heap.size w w6 :=
  (chain4 h h4 h5).trans (h6.mono (chain4 h h4 h5).size)

theorem cmp_yes (s : ByteArray) (hs : s.size ≤ 1000000) (ha : Js.acc Js.init s.data.toList = true) (W : World) :
    Calls Tryz.prog 7 #[.string s] W (fun e w' => e = .returned (.tuple #[.string ⟨(Js.comp Js.init s.data.toList).toArray⟩, .agg #[.int .i64 0, .int .i64 0, .string ⟨#[]⟩, .string ⟨#[]⟩, .string ⟨#[]⟩, .string ⟨#[]⟩], .bool true]) ∧ Below W.heap.size W w') :=
  (icompact_any s hs W).mono fun _ _ ⟨hb, hy, _⟩ => ⟨hy ha, hb⟩

theorem cmp_no (s : ByteArray) (hs : s.size ≤ 1000000) (ha : Js.acc Js.init s.data.toList = false) (W : World) :
    Calls Tryz.prog 7 #[.string s] W (fun e w' => ∃ k : Int, e = .returned (.tuple #[.string ⟨#[]⟩, .agg #[.int .i64 1, .int .i64 k, .string ⟨#[]⟩, .string ⟨#[]⟩, .string ⟨#[]⟩, .string ⟨#[]⟩], .bool false]) ∧ Below W.heap.size W w') := by
  refine (icompact_any s hs W).mono ?_
  rintro e w' ⟨hb, -, hno⟩
  obtain ⟨v, ⟨k, hv⟩, he⟩ := hno ha
  subst hv
  exact ⟨k, he, hb⟩

set_option maxHeartbeats 2000000 in
theorem compact_true (s : ByteArray) (h1 : s.size ≤ 2147483647) (h2 : s.size ≤ 8000) (ha : Js.acc Js.init s.data.toList = true) (w : World) :
    Calls Tryz.prog 3 #[.string s] w fun e w' => e = .returned (.bool true) ∧ Below w.heap.size w w' := by
  have V1 := fun W => Lib.hid (cmp_yes s (by omega) ha W)
  have v2 := fun W => check_any' s (by omega) W
  rw [ha] at v2
  have V2 := fun W => Lib.hid (v2 W)
  have V3 := fun W => Lib.hid (scompact_any s (by omega) ha W)
  have hfo := field_ok
  clear v2 ha
  go_enter Tryz.func3, Tryz.ntmps3
  go_wp2_with fail
  refine (V1 _).out.mono ?_
  rintro e w2 ⟨rfl, hb2⟩
  have HB2 := Lib.hid hb2
  clear hb2
  go_wp2_with (first
    | (go_at_call 8; refine (V2 _).out.mono ?_; rintro e w4 ⟨en, n, rfl, hb4⟩; have HB4 := Lib.hid hb4; clear hb4)
    | (go_at_call 9; refine (V3 _).out.mono ?_; rintro e w5 ⟨rfl, hb5⟩; have HB5 := Lib.hid hb5; clear hb5)
    | (go_at_call 6; refine (reads_any _).mono ?_; rintro e w6 ⟨rfl, hb6⟩; have HB6 := Lib.hid hb6; clear hb6))
  go_ret
  exact ⟨rfl, chain5 (HB2.out.alloc HB2.out.size _) HB4.out HB5.out HB6.out⟩

set_option maxHeartbeats 2000000 in
theorem compact_false (s : ByteArray) (h1 : s.size ≤ 2147483647) (h2 : s.size ≤ 8000) (ha : Js.acc Js.init s.data.toList = false) (w : World) :
    Calls Tryz.prog 3 #[.string s] w fun e w' => e = .returned (.bool true) ∧ Below w.heap.size w w' := by
  have V1 := fun W => Lib.hid (cmp_no s (by omega) ha W)
  have v2 := fun W => check_any' s (by omega) W
  rw [ha] at v2
  have V2 := fun W => Lib.hid (v2 W)
  have hfo := field_ok
  clear v2 ha
  go_enter Tryz.func3, Tryz.ntmps3
  go_wp2_with fail
  refine (V1 _).out.mono ?_
  rintro e w2 ⟨k, rfl, hb2⟩
  have HB2 := Lib.hid hb2
  clear hb2
  go_wp2_with (first
    | (go_at_call 8; refine (V2 _).out.mono ?_; rintro e w4 ⟨en, n, rfl, hb4⟩; have hf := fcell hb4 rfl; have HB4 := Lib.hid hb4; clear hb4)
    | (go_at_call 6; refine (reads_any _).mono ?_; rintro e w6 ⟨rfl, hb6⟩; have HB6 := Lib.hid hb6; clear hb6))
  go_ret
  exact ⟨rfl, chain4 (HB2.out.alloc HB2.out.size _) HB4.out HB6.out⟩

set_option maxHeartbeats 1000000 in
theorem law_compact (s : ByteArray) (hs : s.size ≤ maxLen) (w : World) :
    Calls Tryz.prog 3 #[.string s] w fun e w' => e = .returned (.bool true) ∧ Below w.heap.size w w' := by
  unfold maxLen at hs
  by_cases h1 : s.size ≤ 2147483647
  · by_cases h2 : s.size ≤ 8000
    · cases ha : Js.acc Js.init s.data.toList with
      | true => exact compact_true s h1 h2 ha w
      | false => exact compact_false s h1 h2 ha w
    · go_enter Tryz.func3, Tryz.ntmps3
      go_wp2_with fail
      refine (reads_any _).mono ?_
      rintro e w3 ⟨rfl, hb3⟩
      go_wp2_with fail
      go_ret
      exact ⟨rfl, hb3⟩
  · go_enter Tryz.func3, Tryz.ntmps3
    go_wp2_with fail
    go_ret
    exact ⟨rfl, Below.refl _ _⟩

set_option maxRecDepth 100000 in
theorem lifted_compact (os : Os) (started : os.Started) (H : Type) (enc : TypeId × Value → H) :
    ReturnsInHanded {} Tryz.checked os 3 .any (fun w args => (Rows.fnCompactToldSpec.pre enc Tryz.prog Tryz.f3 Rows.fnCompactToldRow.domain false w args ∧ laidMetH Tryz.prog Rows.fnCompactToldRow.laid w) ∧ sizedMet enc Tryz.prog Tryz.f3 (OpenSpec.ofChange Rows.fnCompactToldSpec) false w args)
      (Rows.fnCompactToldSpec.post enc Tryz.prog Tryz.f3 false true false false) := by
  refine returnsInHanded_of_change_and (C := Tryz.checked) (X := fun w _ => laidMetH Tryz.prog Rows.fnCompactToldRow.laid w) (fun _ _ _ hh h => h.of_heap hh) own started (by kernel_rfl) Tryz.func3
    (ChangeSpec.witness_shaped (enc := enc) (C := Tryz.checked) (os := os) (X := fun w _ => laidMetH Tryz.prog Rows.fnCompactToldRow.laid w) false (World.laidAll Tryz.prog os Rows.fnCompactToldRow.laid) #[.string ByteArray.empty] 8 (World.laidAll_os _ _ _)
      (World.shaped_of_ZipB (by kernel_rfl) (by kernel_rfl)) (by kernel_rfl) (by kernel_rfl) (by kernel_rfl)
      (by rw [MakeChecks.laidMetH_plain _ _ _ (by kernel_rfl)]; exact laidMet_laidAll _ (by kernel_rfl) (by kernel_rfl))) ?_
  intro W base args ds gs before hval0 hW _ _ _ _
  have hval : ∀ (j : Nat) t v, Tryz.f3.params[j]? = some t → args[j]? = some v → Value.okWide Tryz.prog W .any base t v := hval0
  have hW' := hW
  obtain ⟨p, q, hA0, hV, rfl, hfz, hnd⟩ := hW
  have hA : DataW.TrodAll enc Tryz.prog W 0 (fun _ => true) true Tryz.f3.params.toList args.toList ds p := hA0
  rw [Tryz.params3] at hA hval
  obtain ⟨v0, vs0, d0, ds0, p0, q0, hargs, rfl, rfl, h0, r0⟩ := trodAll_cons hA
  obtain ⟨rfl, rfl, rfl⟩ := trodAll_nil r0
  obtain rfl : args = #[v0] := by cases args; simp_all
  obtain ⟨rfl, rfl⟩ := trodVars_none hV
  obtain ⟨a0, rfl, rfl, rfl, w0⟩ := open_string Tryz.underlying9 (hval 0 9 v0 rfl rfl) h0
  clear hA0 hval0
  simp only [List.append_nil] at hW'
  refine (law_compact a0 w0 W).mono fun e W' ⟨he, hg⟩ => ?_
  subst he
  exact ⟨_, rfl, post_of_below (pa := []) (pv := []) hW' (fun _ _ _ => (trodAll_cons_mk (shut_bool Tryz.underlying4 _) trodAll_mk0)) (fun sp _ => (trodAll_cons_mk (shut_string Tryz.underlying9 w0) trodAll_mk0)) (fun _ _ => rfl) rfl
    hg (ok_one (by kernel_rfl) rfl (okWide_bool_mk Tryz.underlying4 _))⟩

/-- The row: for every text the law answers true. -/
theorem compact_row : Rows.FnCompactToldSaid :=
  OpenClaim.holds_of_wide 3 Tryz.f3 rfl rfl rfl rfl rfl rfl rfl ⟨rfl, rfl, rfl, rfl, rfl⟩ rfl rfl rfl rfl rfl (by kernel_rfl) Tryz.func3 (by kernel_rfl)
    (of_decide_eq_true (by kernel_rfl)) (by unfold Func.isWrapper; first | (rw [if_pos (by decide +kernel)]; kernel_rfl) | (rw [if_neg (by decide +kernel)]; exact ⟨rfl, rfl⟩))
    (fun os started H enc _ => lifted_compact os started H enc)

/-- The tied card. -/
theorem compact_proved : Rows.FnCompactToldCardSaid :=
  Claim7.holds_tied_plain_at .later [] [.data, .sentinel, .sentinel, .sentinel, .pinned, .pinned, .pinned, .pinned, .pinned, .pinned] true (true, "f57af97c18ef0edb94ff1d6741135b84a278536e3072ac40f3187e549fc301e3") true
    compact_row (fun _ h => by cases h) (by kernel_rfl) (fun _ h => by cases h) fnCompactTold_row_tie rfl ⟨rfl, rfl⟩ (by kernel_rfl) rfl
    (fun f fn hf hfn => by
      obtain rfl : f = 3 := Option.some.inj ((show Tryz.prog.funcNamed "pub-transcriber/laws.FnCompactTold" = some 3 by kernel_rfl).symm.trans hf) |>.symm
      obtain rfl : fn = Tryz.f3 := (Option.some.inj (Tryz.func3.symm.trans hfn)).symm
      exact ⟨by kernel_rfl, fun j t ht => by
        rw [Tryz.params3] at ht
        have hm : t ∈ [9] := by simpa using Array.mem_of_getElem? ht
        have hall : ([9].all fun u => !Tryz.prog.wantsStandIn u) = true := by kernel_rfl
        exact (show Tryz.prog.wantsStandIn t = false by simpa using List.all_eq_true.1 hall t hm)⟩)
    (by kernel_rfl)

#print axioms compact_proved

end Go.Proofs.YtlmhpmbgalmpgaaGreatDoor
