/-
  FnDeep: for every number and both shapes the law answers true; the row lists ten variables, which the card ties to the program's text.
-/
import Derived.Test.YtlmhpmbgalmpgaaDoorRows
import Derived.Test.YtlmhpmbgalmpgaaDoorTie
import Derived.Test.YtlmhpmbgalmpgaaDoorCards
import Derived.Test.YtlmhpmbgalmpgaaDoorDp2
import Derived.ProofKit
import Derived.OpenShut
import Derived.LaidMore
import Derived.Lay
import Derived.SevenTiedAt
import Derived.Stop.Joined
namespace Go.Proofs.YtlmhpmbgalmpgaaDoor
open Go.ChangeShapes Go.WideShapes Go.ChangeAt Go.RowKit

theorem own : ownKnob Tryd.prog.godebug = none := by kernel_rfl

set_option maxHeartbeats 1000000 in
theorem deep_out (n : Nat) (object : Bool) (w : World) (h : decide ((n : Int) < 1) = true ∨ (decide ((n : Int) < 1) = false ∧ decide ((10050 : Int) < n) = true) ∨ (decide ((n : Int) < 1) = false ∧ decide ((10050 : Int) < n) = false ∧ decide ((n : Int) < 9950) = true ∧ decide ((300 : Int) < n) = true)) (hn : n ≤ 65535) :
    Calls Tryd.prog 4 #[.int .u16 n, .bool object] w fun e w' => e = .returned (.bool true) ∧ Below w.heap.size w w' := by
  have hw0 : IntKind.i64.wrap (n : Int) = n := by rw [IntKind.wrap_i64]; omega
  rcases h with d1 | ⟨d1, d2⟩ | ⟨d1, d2, d3, d4⟩
  all_goals
    go_enter Tryd.func4, Tryd.ntmps4
    go_wp2_with fail
    refine (reads_any _).mono ?_
    rintro e w3 ⟨rfl, hb3⟩
    go_wp2_with fail
    go_ret
    exact ⟨rfl, hb3⟩

theorem law_deep (n : Nat) (hn : n ≤ 65535) (object : Bool) (w : World) :
    Calls Tryd.prog 4 #[.int .u16 n, .bool object] w fun e w' => e = .returned (.bool true) ∧ Below w.heap.size w w' := by
  by_cases h1 : n < 1
  · exact deep_out n object w (.inl (decide_eq_true (by omega))) hn
  · by_cases h2 : 10050 < n
    · exact deep_out n object w (.inr (.inl ⟨decide_eq_false (by omega), decide_eq_true (by omega)⟩)) hn
    · by_cases h3 : n < 9950 ∧ 300 < n
      · exact deep_out n object w (.inr (.inr ⟨decide_eq_false (by omega), decide_eq_false (by omega), decide_eq_true (by omega), decide_eq_true (by omega)⟩)) hn
      · have hd : decide ((n : Int) < 9950) = false ∨ (decide ((n : Int) < 9950) = true ∧ decide ((300 : Int) < n) = false) := by
          by_cases h4 : n < 9950
          · exact .inr ⟨decide_eq_true (by omega), decide_eq_false (by omega)⟩
          · exact .inl (decide_eq_false (by omega))
        cases object
        · exact deep_arr n (by omega) (by omega) hd w
        · exact deep_obj n (by omega) (by omega) hd w

set_option maxRecDepth 100000 in
theorem lifted_deep (os : Os) (started : os.Started) (H : Type) (enc : TypeId × Value → H) :
    ReturnsInHanded {} Tryd.checked os 4 .any (fun w args => (Rows.fnDeepSpec.pre enc Tryd.prog Tryd.f4 Rows.fnDeepRow.domain false w args ∧ laidMetH Tryd.prog Rows.fnDeepRow.laid w) ∧ sizedMet enc Tryd.prog Tryd.f4 (OpenSpec.ofChange Rows.fnDeepSpec) false w args)
      (Rows.fnDeepSpec.post enc Tryd.prog Tryd.f4 false true false false) := by
  refine returnsInHanded_of_change_and (C := Tryd.checked) (X := fun w _ => laidMetH Tryd.prog Rows.fnDeepRow.laid w) (fun _ _ _ hh h => h.of_heap hh) own started (by kernel_rfl) Tryd.func4
    (ChangeSpec.witness_shaped (enc := enc) (C := Tryd.checked) (os := os) (X := fun w _ => laidMetH Tryd.prog Rows.fnDeepRow.laid w) false (World.laidAll Tryd.prog os Rows.fnDeepRow.laid) #[.int .u16 0, .bool false] 8 (World.laidAll_os _ _ _)
      (World.shaped_of_ZipB (by kernel_rfl) (by kernel_rfl)) (by kernel_rfl) (by kernel_rfl) (by kernel_rfl)
      (by rw [MakeChecks.laidMetH_plain _ _ _ (by kernel_rfl)]; exact laidMet_laidAll _ (by kernel_rfl) (by kernel_rfl))) ?_
  intro W base args ds gs before hval0 hW _ _ _ _
  have hval : ∀ (j : Nat) t v, Tryd.f4.params[j]? = some t → args[j]? = some v → Value.okWide Tryd.prog W .any base t v := hval0
  have hW' := hW
  obtain ⟨p, q, hA0, hV, rfl, hfz, hnd⟩ := hW
  have hA : DataW.TrodAll enc Tryd.prog W 0 (fun _ => true) true Tryd.f4.params.toList args.toList ds p := hA0
  rw [Tryd.params4] at hA hval
  obtain ⟨v0, v1, d0, d1, p0, p1, rfl, rfl, rfl, h0, h1⟩ := trodAll_two hA
  obtain ⟨rfl, rfl⟩ := trodVars_none hV
  obtain ⟨a, rfl, rfl, rfl, wa⟩ := open_int Tryd.underlying25 (hval 0 25 v0 rfl rfl) h0
  obtain ⟨b, rfl, rfl, rfl⟩ := open_bool Tryd.underlying4 (hval 1 4 v1 rfl rfl) h1
  have ha : 0 ≤ a ∧ a ≤ 65535 := by
    have h3 : IntKind.u16.min ≤ a ∧ a ≤ IntKind.u16.max := by simpa [Lit.wf] using wa
    exact h3
  obtain ⟨n, rfl⟩ : ∃ n : Nat, a = n := ⟨a.toNat, by omega⟩
  clear hA0 hval0
  simp only [List.append_nil] at hW'
  refine (law_deep n (by omega) b W).mono fun e W' ⟨he, hg⟩ => ?_
  subst he
  exact ⟨_, rfl, post_of_below (pa := []) (pv := []) hW' (fun _ _ _ => (trodAll_cons_mk (shut_bool Tryd.underlying4 _) trodAll_mk0)) (fun sp _ => trodAll_mk2 (shut_int Tryd.underlying25 wa) (shut_bool Tryd.underlying4 b)) (fun _ _ => rfl) rfl
    hg (ok_one (by kernel_rfl) rfl (okWide_bool_mk Tryd.underlying4 _))⟩

/-- The row: for every number and both shapes the law answers true. -/
theorem deep_row : Rows.FnDeepSaid :=
  OpenClaim.holds_of_wide 4 Tryd.f4 rfl rfl rfl rfl rfl rfl rfl ⟨rfl, rfl, rfl, rfl, rfl⟩ rfl rfl rfl rfl rfl (by kernel_rfl) Tryd.func4 (by kernel_rfl)
    (of_decide_eq_true (by kernel_rfl)) (by unfold Func.isWrapper; first | (rw [if_pos (by decide +kernel)]; kernel_rfl) | (rw [if_neg (by decide +kernel)]; exact ⟨rfl, rfl⟩))
    (fun os started H enc _ => lifted_deep os started H enc)

/-- The tied card. -/
theorem deep_proved : Rows.FnDeepCardSaid :=
  Claim7.holds_tied_plain_at .later [] [.data, .sentinel, .sentinel, .sentinel, .pinned, .pinned, .pinned, .pinned, .pinned, .pinned] true (true, "388ef19d390778b73a774aae1387191cc8744289854789a4e44d894634ce03c8") true
    deep_row (fun _ h => by cases h) (by kernel_rfl) (fun _ h => by cases h) fnDeep_row_tie rfl ⟨rfl, rfl⟩ (by kernel_rfl) rfl
    (fun f fn hf hfn => by
      obtain rfl : f = 4 := Option.some.inj ((show Tryd.prog.funcNamed "pub-transcriber/laws.FnDeep" = some 4 by kernel_rfl).symm.trans hf) |>.symm
      obtain rfl : fn = Tryd.f4 := (Option.some.inj (Tryd.func4.symm.trans hfn)).symm
      exact ⟨by kernel_rfl, fun j t ht => by
        rw [Tryd.params4] at ht
        have hm : t ∈ [25, 4] := by simpa using Array.mem_of_getElem? ht
        have hall : ([25, 4].all fun u => !Tryd.prog.wantsStandIn u) = true := by kernel_rfl
        exact (show Tryd.prog.wantsStandIn t = false by simpa using List.all_eq_true.1 hall t hm)⟩)
    (by kernel_rfl)

#print axioms deep_proved

end Go.Proofs.YtlmhpmbgalmpgaaDoor
