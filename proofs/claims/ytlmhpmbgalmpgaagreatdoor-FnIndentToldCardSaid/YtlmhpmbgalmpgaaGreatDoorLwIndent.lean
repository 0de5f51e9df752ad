/-
  FnIndentTold: for every text, prefix and indent the law answers true; the row lists ten variables, which the card ties to the program's text.
-/
import Derived.Test.YtlmhpmbgalmpgaaGreatDoorRows
import Derived.Test.YtlmhpmbgalmpgaaGreatDoorTie
import Derived.Test.YtlmhpmbgalmpgaaGreatDoorCards
import Derived.Test.YtlmhpmbgalmpgaaGreatDoorRd
import Derived.Test.YtlmhpmbgalmpgaaGreatDoorIn4
import Derived.Test.YtlmhpmbgalmpgaaGreatDoorSi2
import Derived.ProofKit
import Derived.OpenShut
import Derived.ShutString
import Derived.LaidMore
import Derived.Lay
import Derived.SevenTiedAt
import Derived.Stop.Joined
namespace Go.Proofs.YtlmhpmbgalmpgaaGreatDoor
open Go.ChangeShapes Go.WideShapes Go.ChangeAt Go.RowKit
open Go.ChangeMaps (open_string shut_string)

theorem own : ownKnob Tryz.prog.godebug = none := by kernel_rfl

theorem fcell {w2 w4 : World} {cs : Array Value} {T : TypeId} {v : Value} (h : Below (w2.alloc (.cells cs T)).heap.size (w2.alloc (.cells cs T)) w4) (h0 : cs[0]? = some v) : w4.cell? ⟨w2.heap.size, 0, none⟩ = some v := by
  rw [Lib.cell_of_heap ((h.block w2.heap.size (by simp)).trans (heap_alloc_new w2 _))]
  exact h0

theorem cell_over {w w' : World} {a : Addr} {v : Value} (h : Below w.heap.size w w') (hc : w.cell? a = some v) : w'.cell? a = some v := by
  by_cases hlt : a.block < w.heap.size
  · rw [h.cell hlt]; exact hc
  · exfalso
    unfold World.cell? at hc
    rw [Array.getElem?_eq_none (by omega)] at hc
    cases hc

theorem over {w w1 w2 : World} (h : Below w.heap.size w w1) (h2 : Below w1.heap.size w1 w2) : Below w.heap.size w w2 := h.trans (h2.mono h.size)

set_option maxHeartbeats 4000000 in
theorem indent_true (s p i : ByteArray) (h1 : s.size ≤ 4000) (h2 : p.size ≤ 20) (h3 : i.size ≤ 20) (ha : Js.acc Js.init s.data.toList = true) (w : World) :
    Calls Tryz.prog 4 #[.string s, .string p, .string i] w fun e w' => e = .returned (.bool true) ∧ Below w.heap.size w w' := by
  have v2 := fun W => check_any' s (by omega) W
  rw [ha] at v2
  have V2 := fun W => Lib.hid (v2 W)
  have V3 := fun W => Lib.hid (sindent_any s p i h1 h2 h3 ha W)
  have V4 := fun W => Lib.hid (depth_any s (by omega) ha W)
  have HA := Lib.hid ha
  have hfo := field_ok
  clear v2 ha
  go_enter Tryz.func4, Tryz.ntmps4
  go_wp2_with (go_at_call 8; refine (V2 _).out.mono ?_; rintro e w4 ⟨en, n, rfl, hb4⟩; have HB4 := Lib.hid hb4; clear hb4)
  refine (V4 _).out.mono ?_
  rintro e w5 ⟨⟨dn, rfl⟩, hb5⟩
  have hf5 := fcell hb5 rfl
  have HB5 := Lib.hid (over (HB4.out.alloc HB4.out.size _) hb5)
  clear hb5
  by_cases hdn : 200 < dn
  · have hd : decide (200 < dn) = true := decide_eq_true hdn
    go_wp2_with (go_at_call 6; refine (reads_any _).mono ?_; rintro e w9 ⟨rfl, hb9⟩; have HB9 := Lib.hid hb9; clear hb9)
    go_ret
    exact ⟨rfl, over HB5.out HB9.out⟩
  · have hd : decide (200 < dn) = false := decide_eq_false hdn
    go_wp2_with fail
    refine (iindent_any s p i h1 h2 h3 _).mono ?_
    rintro e w6 ⟨hb6, h | ⟨-, h⟩ | ⟨h, -⟩⟩
    · subst h
      have hf6 := fun o => cell_over ((Below.refl _ w6).alloc (Nat.le_refl _) o) (cell_over hb6 hf5)
      have HB6 := Lib.hid (over HB5.out hb6)
      clear hb6 hf5
      unfold noFault
      go_wp2_with (go_at_call 6; refine (reads_any _).mono ?_; rintro e w9 ⟨rfl, hb9⟩; have HB9 := Lib.hid hb9; clear hb9)
      go_ret
      exact ⟨rfl, over (HB6.out.alloc HB6.out.size _) HB9.out⟩
    · subst h
      have hf6 := fun o => cell_over ((Below.refl _ w6).alloc (Nat.le_refl _) o) (cell_over hb6 hf5)
      have HB6 := Lib.hid (over HB5.out hb6)
      clear hb6 hf5
      unfold noFault
      go_wp2_with (first
        | (go_at_call 12; refine (V3 _).out.mono ?_; rintro e w7 ⟨rfl, hb7⟩; have HB7 := Lib.hid (over (HB6.out.alloc HB6.out.size _) hb7); clear hb7; unfold bs)
        | (go_at_call 6; refine (reads_any _).mono ?_; rintro e w9 ⟨rfl, hb9⟩; have HB9 := Lib.hid hb9; clear hb9))
      go_ret
      exact ⟨rfl, over HB7.out HB9.out⟩
    · exact nomatch (HA.out.symm.trans h : true = false)

set_option maxHeartbeats 4000000 in
theorem indent_false (s p i : ByteArray) (h1 : s.size ≤ 4000) (h2 : p.size ≤ 20) (h3 : i.size ≤ 20) (ha : Js.acc Js.init s.data.toList = false) (w : World) :
    Calls Tryz.prog 4 #[.string s, .string p, .string i] w fun e w' => e = .returned (.bool true) ∧ Below w.heap.size w w' := by
  have v2 := fun W => check_any' s (by omega) W
  rw [ha] at v2
  have V2 := fun W => Lib.hid (v2 W)
  have HA := Lib.hid ha
  have hfo := field_ok
  clear v2 ha
  go_enter Tryz.func4, Tryz.ntmps4
  go_wp2_with (go_at_call 8; refine (V2 _).out.mono ?_; rintro e w4 ⟨en, n, rfl, hb4⟩; have HB4 := Lib.hid hb4; clear hb4)
  refine (iindent_any s p i h1 h2 h3 _).mono ?_
  rintro e w6 ⟨hb6, h | ⟨h, -⟩ | ⟨-, v, ⟨k, hv⟩, h⟩⟩
  · subst h
    have hf6 := fun o => cell_over ((Below.refl _ w6).alloc (Nat.le_refl _) o) (fcell hb6 rfl)
    have HB6 := Lib.hid (over (HB4.out.alloc HB4.out.size _) hb6)
    clear hb6
    unfold noFault
    go_wp2_with (go_at_call 6; refine (reads_any _).mono ?_; rintro e w9 ⟨rfl, hb9⟩; have HB9 := Lib.hid hb9; clear hb9)
    go_ret
    exact ⟨rfl, over (HB6.out.alloc HB6.out.size _) HB9.out⟩
  · exact nomatch (HA.out.symm.trans h : false = true)
  · subst hv
    subst h
    have hf6 := fun o => cell_over ((Below.refl _ w6).alloc (Nat.le_refl _) o) (fcell hb6 rfl)
    have HB6 := Lib.hid (over (HB4.out.alloc HB4.out.size _) hb6)
    clear hb6
    go_wp2_with (go_at_call 6; refine (reads_any _).mono ?_; rintro e w9 ⟨rfl, hb9⟩; have HB9 := Lib.hid hb9; clear hb9)
    go_ret
    exact ⟨rfl, over (HB6.out.alloc HB6.out.size _) HB9.out⟩

set_option maxHeartbeats 4000000 in
theorem law_indent (s p i : ByteArray) (hs : s.size ≤ maxLen) (hp : p.size ≤ maxLen) (hi : i.size ≤ maxLen) (w : World) :
    Calls Tryz.prog 4 #[.string s, .string p, .string i] w fun e w' => e = .returned (.bool true) ∧ Below w.heap.size w w' := by
  unfold maxLen at hs hp hi
  have one : ∀ w : World, ((2147483647 < s.size ∨ 2147483647 < p.size) ∨ 2147483647 < i.size) → Calls Tryz.prog 4 #[.string s, .string p, .string i] w fun e w' => e = .returned (.bool true) ∧ Below w.heap.size w w' := by
    intro w h
    rcases h with (h | h) | h
    · go_enter Tryz.func4, Tryz.ntmps4
      go_wp2_with fail
      go_ret
      exact ⟨rfl, Below.refl _ _⟩
    · by_cases h1 : s.size ≤ 2147483647
      · go_enter Tryz.func4, Tryz.ntmps4
        go_wp2_with fail
        go_ret
        exact ⟨rfl, Below.refl _ _⟩
      · go_enter Tryz.func4, Tryz.ntmps4
        go_wp2_with fail
        go_ret
        exact ⟨rfl, Below.refl _ _⟩
    · by_cases h1 : s.size ≤ 2147483647
      · by_cases h2 : p.size ≤ 2147483647
        · go_enter Tryz.func4, Tryz.ntmps4
          go_wp2_with fail
          go_ret
          exact ⟨rfl, Below.refl _ _⟩
        · go_enter Tryz.func4, Tryz.ntmps4
          go_wp2_with fail
          go_ret
          exact ⟨rfl, Below.refl _ _⟩
      · go_enter Tryz.func4, Tryz.ntmps4
        go_wp2_with fail
        go_ret
        exact ⟨rfl, Below.refl _ _⟩
  by_cases h1 : 2147483647 < s.size
  · exact one w (.inl (.inl h1))
  by_cases h2 : 2147483647 < p.size
  · exact one w (.inl (.inr h2))
  by_cases h3 : 2147483647 < i.size
  · exact one w (.inr h3)
  by_cases h4 : s.size ≤ 4000
  · by_cases h5 : p.size ≤ 20
    · by_cases h6 : i.size ≤ 20
      · cases ha : Js.acc Js.init s.data.toList with
        | true => exact indent_true s p i h4 h5 h6 ha w
        | false => exact indent_false s p i h4 h5 h6 ha w
      · go_enter Tryz.func4, Tryz.ntmps4
        go_wp2_with (go_at_call 6; refine (reads_any _).mono ?_; rintro e w9 ⟨rfl, hb9⟩; have HB9 := Lib.hid hb9; clear hb9)
        go_ret
        exact ⟨rfl, HB9.out⟩
    · go_enter Tryz.func4, Tryz.ntmps4
      go_wp2_with (go_at_call 6; refine (reads_any _).mono ?_; rintro e w9 ⟨rfl, hb9⟩; have HB9 := Lib.hid hb9; clear hb9)
      go_ret
      exact ⟨rfl, HB9.out⟩
  · go_enter Tryz.func4, Tryz.ntmps4
    go_wp2_with (go_at_call 6; refine (reads_any _).mono ?_; rintro e w9 ⟨rfl, hb9⟩; have HB9 := Lib.hid hb9; clear hb9)
    go_ret
    exact ⟨rfl, HB9.out⟩

set_option maxRecDepth 100000 in
theorem lifted_indent (os : Os) (started : os.Started) (H : Type) (enc : TypeId × Value → H) :
    ReturnsInHanded {} Tryz.checked os 4 .any (fun w args => (Rows.fnIndentToldSpec.pre enc Tryz.prog Tryz.f4 Rows.fnIndentToldRow.domain false w args ∧ laidMetH Tryz.prog Rows.fnIndentToldRow.laid w) ∧ sizedMet enc Tryz.prog Tryz.f4 (OpenSpec.ofChange Rows.fnIndentToldSpec) false w args)
      (Rows.fnIndentToldSpec.post enc Tryz.prog Tryz.f4 false true false false) := by
  refine returnsInHanded_of_change_and (C := Tryz.checked) (X := fun w _ => laidMetH Tryz.prog Rows.fnIndentToldRow.laid w) (fun _ _ _ hh h => h.of_heap hh) own started (by kernel_rfl) Tryz.func4
    (ChangeSpec.witness_shaped (enc := enc) (C := Tryz.checked) (os := os) (X := fun w _ => laidMetH Tryz.prog Rows.fnIndentToldRow.laid w) false (World.laidAll Tryz.prog os Rows.fnIndentToldRow.laid) #[.string ByteArray.empty, .string ByteArray.empty, .string ByteArray.empty] 8 (World.laidAll_os _ _ _)
      (World.shaped_of_ZipB (by kernel_rfl) (by kernel_rfl)) (by kernel_rfl) (by kernel_rfl) (by kernel_rfl)
      (by rw [MakeChecks.laidMetH_plain _ _ _ (by kernel_rfl)]; exact laidMet_laidAll _ (by kernel_rfl) (by kernel_rfl))) ?_
  intro W base args ds gs before hval0 hW _ _ _ _
  have hval : ∀ (j : Nat) t v, Tryz.f4.params[j]? = some t → args[j]? = some v → Value.okWide Tryz.prog W .any base t v := hval0
  have hW' := hW
  obtain ⟨p, q, hA0, hV, rfl, hfz, hnd⟩ := hW
  have hA : DataW.TrodAll enc Tryz.prog W 0 (fun _ => true) true Tryz.f4.params.toList args.toList ds p := hA0
  rw [Tryz.params4] at hA hval
  obtain ⟨v0, vs0, d0, ds0, p0, q0, hargs, rfl, rfl, h0, r0⟩ := trodAll_cons hA
  obtain ⟨v1, vs1, d1, ds1, p1, q1, hargs1, rfl, rfl, h1, r1⟩ := trodAll_cons r0
  obtain ⟨v2, vs2, d2, ds2, p2, q2, hargs2, rfl, rfl, h2, r2⟩ := trodAll_cons r1
  obtain ⟨rfl, rfl, rfl⟩ := trodAll_nil r2
  subst hargs2
  subst hargs1
  obtain rfl : args = #[v0, v1, v2] := by cases args; simp_all
  obtain ⟨rfl, rfl⟩ := trodVars_none hV
  obtain ⟨a0, rfl, rfl, rfl, w0⟩ := open_string Tryz.underlying9 (hval 0 9 v0 rfl rfl) h0
  obtain ⟨a1, rfl, rfl, rfl, w1⟩ := open_string Tryz.underlying9 (hval 1 9 v1 rfl rfl) h1
  obtain ⟨a2, rfl, rfl, rfl, w2⟩ := open_string Tryz.underlying9 (hval 2 9 v2 rfl rfl) h2
  clear hA0 hval0
  simp only [List.append_nil] at hW'
  refine (law_indent a0 a1 a2 w0 w1 w2 W).mono fun e W' ⟨he, hg⟩ => ?_
  subst he
  exact ⟨_, rfl, post_of_below (pa := []) (pv := []) hW' (fun _ _ _ => (trodAll_cons_mk (shut_bool Tryz.underlying4 _) trodAll_mk0)) (fun sp _ => (trodAll_cons_mk (shut_string Tryz.underlying9 w0) (trodAll_cons_mk (shut_string Tryz.underlying9 w1) (trodAll_cons_mk (shut_string Tryz.underlying9 w2) trodAll_mk0)))) (fun _ _ => rfl) rfl
    hg (ok_one (by kernel_rfl) rfl (okWide_bool_mk Tryz.underlying4 _))⟩

/-- The row: for every text, prefix and indent the law answers true. -/
theorem indent_row : Rows.FnIndentToldSaid :=
  OpenClaim.holds_of_wide 4 Tryz.f4 rfl rfl rfl rfl rfl rfl rfl ⟨rfl, rfl, rfl, rfl, rfl⟩ rfl rfl rfl rfl rfl (by kernel_rfl) Tryz.func4 (by kernel_rfl)
    (of_decide_eq_true (by kernel_rfl)) (by unfold Func.isWrapper; first | (rw [if_pos (by decide +kernel)]; kernel_rfl) | (rw [if_neg (by decide +kernel)]; exact ⟨rfl, rfl⟩))
    (fun os started H enc _ => lifted_indent os started H enc)

/-- The tied card. -/
theorem indent_proved : Rows.FnIndentToldCardSaid :=
  Claim7.holds_tied_plain_at .later [] [.data, .sentinel, .sentinel, .sentinel, .pinned, .pinned, .pinned, .pinned, .pinned, .pinned] true (true, "f57af97c18ef0edb94ff1d6741135b84a278536e3072ac40f3187e549fc301e3") true
    indent_row (fun _ h => by cases h) (by kernel_rfl) (fun _ h => by cases h) fnIndentTold_row_tie rfl ⟨rfl, rfl⟩ (by kernel_rfl) rfl
    (fun f fn hf hfn => by
      obtain rfl : f = 4 := Option.some.inj ((show Tryz.prog.funcNamed "pub-transcriber/laws.FnIndentTold" = some 4 by kernel_rfl).symm.trans hf) |>.symm
      obtain rfl : fn = Tryz.f4 := (Option.some.inj (Tryz.func4.symm.trans hfn)).symm
      exact ⟨by kernel_rfl, fun j t ht => by
        rw [Tryz.params4] at ht
        have hm : t ∈ [9, 9, 9] := by simpa using Array.mem_of_getElem? ht
        have hall : ([9, 9, 9].all fun u => !Tryz.prog.wantsStandIn u) = true := by kernel_rfl
        exact (show Tryz.prog.wantsStandIn t = false by simpa using List.all_eq_true.1 hall t hm)⟩)
    (by kernel_rfl)

#print axioms indent_proved

end Go.Proofs.YtlmhpmbgalmpgaaGreatDoor
