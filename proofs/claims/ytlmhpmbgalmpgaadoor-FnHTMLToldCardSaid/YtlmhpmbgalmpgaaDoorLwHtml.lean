/-
  FnHTMLTold: for every text the law answers true; the row lists bytes.ErrTooLarge, which the card ties to the program's text.
-/
import Derived.Test.YtlmhpmbgalmpgaaDoorRows
import Derived.Test.YtlmhpmbgalmpgaaDoorTie
import Derived.Test.YtlmhpmbgalmpgaaDoorCards
import Derived.Test.YtlmhpmbgalmpgaaDoorRd
import Derived.Test.YtlmhpmbgalmpgaaDoorHt3
import Derived.ProofKit
import Derived.OpenShut
import Derived.ShutString
import Derived.LaidMore
import Derived.Lay
import Derived.SevenTiedAt
import Derived.Stop.Joined
namespace Go.Proofs.YtlmhpmbgalmpgaaDoor
open Go.ChangeShapes Go.WideShapes Go.ChangeAt Go.RowKit
open Go.ChangeMaps (open_string shut_string)

theorem own : ownKnob Tryd.prog.godebug = none := by kernel_rfl

set_option maxHeartbeats 1000000 in
theorem law_html (s : ByteArray) (hs : s.size ≤ maxLen) (w : World) :
    Calls Tryd.prog 3 #[.string s] w fun e w' => e = .returned (.bool true) ∧ Below w.heap.size w w' := by
  unfold maxLen at hs
  by_cases h1 : s.size ≤ 2147483647
  · by_cases h2 : s.size ≤ 8000
    · have v1 := fun W => ihtml_any s h2 W
      have v2 := fun W => forHTML_any s h2 W
      have V1 := fun W => Lib.hid (v1 W)
      have V2 := fun W => Lib.hid (v2 W)
      clear v1 v2
      go_enter Tryd.func3, Tryd.ntmps3
      go_wp2_with fail
      refine (V1 _).out.mono ?_
      rintro e w1 ⟨rfl, hb1⟩
      go_wp2_with fail
      refine (V2 _).out.mono ?_
      rintro e w2 ⟨rfl, hb2⟩
      go_wp2_with fail
      refine (reads_any _).mono ?_
      rintro e w3 ⟨rfl, hb3⟩
      go_wp2_with fail
      go_ret
      exact ⟨rfl, (hb1.trans (hb2.mono hb1.size)).trans (hb3.mono (Nat.le_trans hb1.size hb2.size))⟩
    · go_enter Tryd.func3, Tryd.ntmps3
      go_wp2_with fail
      refine (reads_any _).mono ?_
      rintro e w3 ⟨rfl, hb3⟩
      go_wp2_with fail
      go_ret
      exact ⟨rfl, hb3⟩
  · go_enter Tryd.func3, Tryd.ntmps3
    go_wp2_with fail
    go_ret
    exact ⟨rfl, Below.refl _ _⟩

set_option maxRecDepth 100000 in
theorem lifted_html (os : Os) (started : os.Started) (H : Type) (enc : TypeId × Value → H) :
    ReturnsInHanded {} Tryd.checked os 3 .any (fun w args => (Rows.fnHTMLToldSpec.pre enc Tryd.prog Tryd.f3 Rows.fnHTMLToldRow.domain false w args ∧ laidMetH Tryd.prog Rows.fnHTMLToldRow.laid w) ∧ sizedMet enc Tryd.prog Tryd.f3 (OpenSpec.ofChange Rows.fnHTMLToldSpec) false w args)
      (Rows.fnHTMLToldSpec.post enc Tryd.prog Tryd.f3 false true false false) := by
  refine returnsInHanded_of_change_and (C := Tryd.checked) (X := fun w _ => laidMetH Tryd.prog Rows.fnHTMLToldRow.laid w) (fun _ _ _ hh h => h.of_heap hh) own started (by kernel_rfl) Tryd.func3
    (ChangeSpec.witness_shaped (enc := enc) (C := Tryd.checked) (os := os) (X := fun w _ => laidMetH Tryd.prog Rows.fnHTMLToldRow.laid w) false (World.laidAll Tryd.prog os Rows.fnHTMLToldRow.laid) #[.string ByteArray.empty] 8 (World.laidAll_os _ _ _)
      (World.shaped_of_ZipB (by kernel_rfl) (by kernel_rfl)) (by kernel_rfl) (by kernel_rfl) (by kernel_rfl)
      (by rw [MakeChecks.laidMetH_plain _ _ _ (by kernel_rfl)]; exact laidMet_laidAll _ (by kernel_rfl) (by kernel_rfl))) ?_
  intro W base args ds gs before hval0 hW _ _ _ _
  have hval : ∀ (j : Nat) t v, Tryd.f3.params[j]? = some t → args[j]? = some v → Value.okWide Tryd.prog W .any base t v := hval0
  have hW' := hW
  obtain ⟨p, q, hA0, hV, rfl, hfz, hnd⟩ := hW
  have hA : DataW.TrodAll enc Tryd.prog W 0 (fun _ => true) true Tryd.f3.params.toList args.toList ds p := hA0
  rw [Tryd.params3] at hA hval
  obtain ⟨v0, vs0, d0, ds0, p0, q0, hargs, rfl, rfl, h0, r0⟩ := trodAll_cons hA
  obtain ⟨rfl, rfl, rfl⟩ := trodAll_nil r0
  obtain rfl : args = #[v0] := by cases args; simp_all
  obtain ⟨rfl, rfl⟩ := trodVars_none hV
  obtain ⟨a0, rfl, rfl, rfl, w0⟩ := open_string Tryd.underlying9 (hval 0 9 v0 rfl rfl) h0
  clear hA0 hval0
  simp only [List.append_nil] at hW'
  refine (law_html a0 w0 W).mono fun e W' ⟨he, hg⟩ => ?_
  subst he
  exact ⟨_, rfl, post_of_below (pa := []) (pv := []) hW' (fun _ _ _ => (trodAll_cons_mk (shut_bool Tryd.underlying4 _) trodAll_mk0)) (fun sp _ => (trodAll_cons_mk (shut_string Tryd.underlying9 w0) trodAll_mk0)) (fun _ _ => rfl) rfl
    hg (ok_one (by kernel_rfl) rfl (okWide_bool_mk Tryd.underlying4 _))⟩

/-- The row: for every text the law answers true. -/
theorem html_row : Rows.FnHTMLToldSaid :=
  OpenClaim.holds_of_wide 3 Tryd.f3 rfl rfl rfl rfl rfl rfl rfl ⟨rfl, rfl, rfl, rfl, rfl⟩ rfl rfl rfl rfl rfl (by kernel_rfl) Tryd.func3 (by kernel_rfl)
    (of_decide_eq_true (by kernel_rfl)) (by unfold Func.isWrapper; first | (rw [if_pos (by decide +kernel)]; kernel_rfl) | (rw [if_neg (by decide +kernel)]; exact ⟨rfl, rfl⟩))
    (fun os started H enc _ => lifted_html os started H enc)

/-- The tied card. -/
theorem html_proved : Rows.FnHTMLToldCardSaid :=
  Claim7.holds_tied_plain_at .later [] [.sentinel] true (true, "388ef19d390778b73a774aae1387191cc8744289854789a4e44d894634ce03c8") true
    html_row (fun _ h => by cases h) (by kernel_rfl) (fun _ h => by cases h) fnHTMLTold_row_tie rfl ⟨rfl, rfl⟩ (by kernel_rfl) rfl
    (fun f fn hf hfn => by
      obtain rfl : f = 3 := Option.some.inj ((show Tryd.prog.funcNamed "pub-transcriber/laws.FnHTMLTold" = some 3 by kernel_rfl).symm.trans hf) |>.symm
      obtain rfl : fn = Tryd.f3 := (Option.some.inj (Tryd.func3.symm.trans hfn)).symm
      exact ⟨by kernel_rfl, fun j t ht => by
        rw [Tryd.params3] at ht
        have hm : t ∈ [9] := by simpa using Array.mem_of_getElem? ht
        have hall : ([9].all fun u => !Tryd.prog.wantsStandIn u) = true := by kernel_rfl
        exact (show Tryd.prog.wantsStandIn t = false by simpa using List.all_eq_true.1 hall t hm)⟩)
    (by kernel_rfl)

#print axioms html_proved

end Go.Proofs.YtlmhpmbgalmpgaaDoor
