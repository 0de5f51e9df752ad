/-
  FnValidTold: for every text the law answers true; no condition.
-/
import Derived.Test.YtlmhpmbgalmpgaaRows
import Derived.Test.YtlmhpmbgalmpgaaRd
import Derived.ProofKit
import Derived.OpenShut
import Derived.ShutString
namespace Go.Proofs.Ytlmhpmbgalmpgaa
open Go.ChangeShapes Go.WideShapes Go.ChangeAt Go.RowKit
open Go.ChangeMaps (open_string shut_string)

theorem own : ownKnob Try.prog.godebug = none := by kernel_rfl

set_option maxHeartbeats 1000000 in
theorem law_valid (s : ByteArray) (hs : s.size ≤ maxLen) (w : World) :
    Calls Try.prog 3 #[.string s] w fun e w' => e = .returned (.bool true) ∧ Below w.heap.size w w' := by
  unfold maxLen at hs
  have hs2 : s.size ≤ 9223372036854775807 := hs
  clear hs
  by_cases h1 : s.size ≤ 2147483647
  · by_cases h2 : s.size ≤ 8000
    · have v1 := fun W => valid_any s (by omega) W
      have v2 := fun W => check_any' s (by omega) W
      have V1 := fun W => Lib.hid (v1 W)
      have V2 := fun W => Lib.hid (v2 W)
      clear v1 v2
      have hfo := field_ok
      cases ha : Js.acc Js.init s.data.toList
      all_goals
        rw [ha] at V1 V2
        clear ha
        go_enter Try.func3, Try.ntmps3
        go_wp2_with fail
        refine (V1 _).out.mono ?_
        rintro e w1 ⟨rfl, hb1⟩
        go_wp2_with fail
        refine (V2 _).out.mono ?_
        rintro e w2 ⟨en, n, rfl, hb2⟩
        go_wp2_with fail
        refine (reads_any _).mono ?_
        rintro e w3 ⟨rfl, hb3⟩
        go_wp2_with fail
        go_ret
        exact ⟨rfl, (hb1.trans (hb2.mono hb1.size)).trans (hb3.mono (Nat.le_trans hb1.size hb2.size))⟩
    · go_enter Try.func3, Try.ntmps3
      go_wp2_with fail
      refine (reads_any _).mono ?_
      rintro e w3 ⟨rfl, hb3⟩
      go_wp2_with fail
      go_ret
      exact ⟨rfl, hb3⟩
  · go_enter Try.func3, Try.ntmps3
    go_wp2_with fail
    go_ret
    exact ⟨rfl, Below.refl _ _⟩

set_option maxRecDepth 100000 in
theorem lifted (os : Os) (started : os.Started) (H : Type) (enc : TypeId × Value → H) :
    ReturnsInHanded {} Try.checked os 3 .any (Rows.fnValidToldSpec.pre6 enc Try.prog Try.f3 Rows.fnValidToldRow.domain false) (Rows.fnValidToldSpec.post enc Try.prog Try.f3 false true false false) := by
  refine returnsInHanded_of_change (C := Try.checked) own started (by kernel_rfl) Try.func3
    (ChangeSpec.witness6 (enc := enc) (C := Try.checked) false ⟨#[], #[.string ByteArray.empty], []⟩ 8 (by kernel_rfl) (by kernel_rfl) (by kernel_rfl) (by kernel_rfl)) ?_
  intro W base args ds gs before hval0 hW hcnd _
  have hval : ∀ (j : Nat) t v, Try.f3.params[j]? = some t → args[j]? = some v → Value.okWide Try.prog W .any base t v := hval0
  have hW' := hW
  obtain ⟨p, q, hA0, hV, rfl, hfz, hnd⟩ := hW
  have hA : DataW.TrodAll enc Try.prog W 0 (fun _ => true) true Try.f3.params.toList args.toList ds p := hA0
  rw [Try.params3] at hA hval
  obtain ⟨v0, vs0, d0, ds0, p0, q0, hargs, rfl, rfl, h0, r0⟩ := trodAll_cons hA
  obtain ⟨rfl, rfl, rfl⟩ := trodAll_nil r0
  obtain rfl : args = #[v0] := by cases args; simp_all
  obtain ⟨rfl, rfl⟩ := trodVars_none hV
  obtain ⟨a0, rfl, rfl, rfl, w0⟩ := open_string Try.underlying9 (hval 0 9 v0 rfl rfl) h0
  clear hA0 hval0
  simp only [List.append_nil] at hW'
  refine (law_valid a0 w0 W).mono fun e W' ⟨he, hg⟩ => ?_
  subst he
  exact ⟨_, rfl, post_of_below (pa := []) (pv := []) hW' (fun _ _ _ => (trodAll_cons_mk (shut_bool Try.underlying4 _) trodAll_mk0)) (fun sp _ => (trodAll_cons_mk (shut_string Try.underlying9 w0) trodAll_mk0)) (fun _ _ => rfl) rfl
    hg (ok_one (by kernel_rfl) rfl (okWide_bool_mk Try.underlying4 _))⟩

/-- For every text the law answers true. -/
theorem valid_proved : Rows.FnValidToldSaid :=
  OpenClaim.holds_of_wide 3 Try.f3 rfl rfl rfl rfl rfl rfl rfl ⟨rfl, rfl, rfl, rfl, rfl⟩ rfl rfl rfl rfl rfl (by kernel_rfl) Try.func3 (by kernel_rfl)
    (of_decide_eq_true (by kernel_rfl)) (by unfold Func.isWrapper; first | (rw [if_pos (by decide +kernel)]; kernel_rfl) | (rw [if_neg (by decide +kernel)]; exact ⟨rfl, rfl⟩))
    (fun os started H enc _ => lifted os started H enc)

#print axioms valid_proved

end Go.Proofs.Ytlmhpmbgalmpgaa
