/-
  FnDeep's walk.
-/
import Derived.Test.YtlmhpmbgalmpgaaDoorDp1
namespace Go.Proofs.YtlmhpmbgalmpgaaDoor
open Go.RowKit

theorem u16_in (n : Int) (h : 0 ≤ n ∧ n ≤ 65535) : IntKind.u16.wrap n = n := by
  simp [IntKind.wrap, IntKind.bits, IntKind.signed]
  omega

set_option maxRecDepth 100000 in
set_option maxHeartbeats 16000000 in
theorem deep_arr (n : Nat) (h1 : 1 ≤ n) (h2 : n ≤ 10050) (hd : decide ((n : Int) < 9950) = false ∨ (decide ((n : Int) < 9950) = true ∧ decide ((300 : Int) < n) = false)) (w : World) :
    Calls Tryd.prog 4 #[.int .u16 n, .bool false] w (fun e w' => e = .returned (.bool true) ∧ Below w.heap.size w w') := by
  have d1 : decide ((n : Int) < 1) = false := decide_eq_false (by omega)
  have d2 : decide ((10050 : Int) < n) = false := decide_eq_false (by omega)
  have hw0 : IntKind.i64.wrap (n : Int) = n := by rw [IntKind.wrap_i64]; omega
  have hw1 : IntKind.i64.wrap ((n : Int) * 5) = (n : Int) * 5 := by rw [IntKind.wrap_i64]; omega
  have hw2 : IntKind.i64.wrap ((n : Int) + 1) = ((n : Int) + 1) := by rw [IntKind.wrap_i64]; omega
  obtain ⟨i0, hi, hz0, hz1, hz2⟩ := info_parts Tryd.infoU8
  obtain ⟨Z, hZ⟩ : ∃ Z : Nat → Array Value, ∀ c, Z c = madeCells (Value.int .u8 0).cells (c * i0.size) := ⟨_, fun _ => rfl⟩
  have hZs : ∀ c, (Z c).size = c := fun c => by rw [hZ, size_madeCells, hz1]; simp
  have hmk : ∀ (W : World) (c : Nat), c ≤ 100000 → (Instr.makeSlice 26 (.int .i64 0) (.int .i64 (c : Int))).run Tryd.prog W = .ok (.slice (some ⟨W.heap.size, 0, none⟩) 0 c) (W.alloc (.cells (Z c) 5)) := fun W c hc => by
    have h := run_makeSlice (P := Tryd.prog) W 26 5 i0 (.int .u8 0) Tryd.underlying26 hi hz0 .i64 .i64 0 (c : Int) (by omega) (by omega) (by rw [hz1]; omega) (by rw [hz2]; omega) (by omega)
    rw [hZ]
    simpa using h
  have hm1 : ∀ W : World, (Instr.makeSlice 26 (.int .i64 0) (.int .i64 (n : Int))).run Tryd.prog W = .ok (.slice (some ⟨W.heap.size, 0, none⟩) 0 n) (W.alloc (.cells (Z n) 5)) := fun W => hmk W n (by omega)
  have hm2 : ∀ W : World, (Instr.makeSlice 26 (.int .i64 0) (.int .i64 ((n : Int) + 1))).run Tryd.prog W = .ok (.slice (some ⟨W.heap.size, 0, none⟩) 0 (n + 1)) (W.alloc (.cells (Z (n + 1)) 5)) := fun W => by
    have := hmk W (n + 1) (by omega)
    simpa using this
  have HT1 := Lib.hid (two_new w (Z (n + 1)) (Z n) (n + 1) n (hZs _) (hZs _) (by unfold maxLen; omega) (by unfold maxLen; omega))
  have HT2 := Lib.hid (two_new w (Z n) (Z (n + 1)) n (n + 1) (hZs _) (hZs _) (by unfold maxLen; omega) (by unfold maxLen; omega)).swap
  have HVL := fun W => Lib.hid (nest_valid n false h1 h2 W)
  have HCY := fun h W => Lib.hid (nest_yes n false h1 h W)
  have HCN := fun h W => Lib.hid (nest_no n false h1 h2 h W)
  clear hmk hZ hZs
  have hadd1 : ∀ X : World, (Op.stringOp .add ⟨(Js.rep n (Js.opn false)).toArray⟩ ⟨#[49]⟩).run Tryd.prog X = .ok (.string (⟨(Js.rep n (Js.opn false)).toArray⟩ ++ ⟨#[49]⟩)) X := fun X =>
    run_string_add_sum X _ _ (by show (Js.rep n (Js.opn false)).toArray.size + 1 ≤ _; rw [List.size_toArray, Js.rep_length]; show n * 1 + 1 ≤ _; omega)
  have hadd2 : ∀ X : World, (Op.stringOp .add (⟨(Js.rep n (Js.opn false)).toArray⟩ ++ ⟨#[49]⟩) ⟨(Js.rep n (Js.cls false)).toArray⟩).run Tryd.prog X = .ok (.string (⟨(Js.rep n (Js.opn false)).toArray⟩ ++ ⟨#[49]⟩ ++ ⟨(Js.rep n (Js.cls false)).toArray⟩)) X := fun X =>
    run_string_add_sum X _ _ (by rw [ByteArray.size_append]; show (Js.rep n (Js.opn false)).toArray.size + 1 + (Js.rep n (Js.cls false)).toArray.size ≤ _; rw [List.size_toArray, List.size_toArray, Js.rep_length, Js.rep_length]; show n * 1 + 1 + n * 1 ≤ _; omega)
  have HA1 := Lib.hid hadd1
  have HA2 := Lib.hid hadd2
  clear hadd1 hadd2
  rcases hd with d3 | ⟨d3, d4⟩
  all_goals
    go_enter Tryd.func4, Tryd.ntmps4
    go_wp2_with fail
    go_region_held3 (fun _ => True) (trivial) (fail)
    all_goals
      rename_i hHeld
      clear hHeld hm1 hm2 hw1 hw2
      go_wp2_with fail
      go_loopg [7, 8, 42] n (fun gk a b i wr => ∃ k : Nat, gk + k = n ∧ i = .int .u16 (k : Int) ∧ Two w wr a b (Js.rep k (Js.opn false)) (Js.rep k (Js.cls false)))
      case atStart =>
        first
          | exact ⟨0, by omega, rfl, HT1.out⟩
          | exact ⟨0, by omega, rfl, HT2.out⟩
      case round =>
        obtain ⟨k, hgk, rfl, htwo⟩ := hrel
        have HT := Lib.hid htwo
        clear htwo
        have hl1 : (Js.rep k (Js.opn false)).length ≤ 60000 := by rw [Js.rep_length]; show k * 1 ≤ _; omega
        have hl2 : (Js.rep k (Js.cls false)).length ≤ 60000 := by rw [Js.rep_length]; show k * 1 ≤ _; omega
        by_cases hlt : k < n
        · have dk : decide ((k : Int) < n) = true := decide_eq_true (by omega)
          have hwk : IntKind.u16.wrap ((k : Int) + 1) = k + 1 := u16_in _ (by omega)
          go_wp2_with (first
            | (at_builtin; refine wpList_append_str _ rfl _ _ 26 9 rfl 5 i0 Tryd.underlying26 Tryd.underlying9 hi hz0 hz1 hz2 rfl HTa.out.ob ⟨#[93]⟩ rfl (by show _ + 1 ≤ _; omega) HTa.out.below.size ?_; rintro b2 w3 ho hg hat; have HTb := Lib.hid (HTa.out.right ho hg hat); clear ho hg hat)
            | (at_builtin; refine wpList_append_str _ rfl _ _ 26 9 rfl 5 i0 Tryd.underlying26 Tryd.underlying9 hi hz0 hz1 hz2 rfl HT.out.oa ⟨#[91]⟩ rfl (by show _ + 1 ≤ _; omega) HT.out.below.size ?_; rintro a2 w2 ho hg hat; have HTa := Lib.hid (HT.out.left ho hg hat); clear ho hg hat))
          go_roundg (n - (k + 1))
          case rel => exact ⟨k + 1, by omega, by simp, HTb.out⟩
          case measure => omega
        · have hk : k = n := by omega
          subst hk
          have dk : decide ((k : Int) < k) = false := decide_eq_false (by omega)
          have hc1 := row_string HT.out.oa (by rw [Js.rep_length]; show 0 < k * 1; omega)
          have hc2 := row_string HT.out.ob (by rw [Js.rep_length]; show 0 < k * 1; omega)
          have hadd1 := HA1.out
          have hadd2 := HA2.out
          clear hl1 hl2
          by_cases h5 : k ≤ 10000
          · have d5 : decide ((k : Int) ≤ 10000) = true := decide_eq_true (by omega)
            go_wp2_with fail
            refine (HCY h5 _).out.mono ?_
            rintro e w2 ⟨out, rfl, hb2⟩
            have HB2 := Lib.hid (HT.out.below.trans (hb2.mono HT.out.below.size))
            clear hb2
            go_wp2_with (first
              | (go_at_call 9; refine (HVL _).out.mono ?_; rintro e w4 ⟨rfl, hb4⟩; have HB4 := Lib.hid hb4; clear hb4)
              | (go_at_call 7; refine (reads_any _).mono ?_; rintro e w5 ⟨rfl, hb5⟩; have HB5 := Lib.hid hb5; clear hb5))
            go_ret
            exact ⟨rfl, chain (HB2.out.alloc HB2.out.size _) HB4.out HB5.out⟩
          · have d5 : decide ((k : Int) ≤ 10000) = false := decide_eq_false (by omega)
            go_wp2_with fail
            refine (HCN h5 _).out.mono ?_
            rintro e w2 ⟨out, rfl, hb2⟩
            have HB2 := Lib.hid (HT.out.below.trans (hb2.mono HT.out.below.size))
            clear hb2
            go_wp2_with (first
              | (go_at_call 9; refine (HVL _).out.mono ?_; rintro e w4 ⟨rfl, hb4⟩; have HB4 := Lib.hid hb4; clear hb4)
              | (go_at_call 7; refine (reads_any _).mono ?_; rintro e w5 ⟨rfl, hb5⟩; have HB5 := Lib.hid hb5; clear hb5))
            go_ret
            exact ⟨rfl, chain (HB2.out.alloc HB2.out.size _) HB4.out HB5.out⟩

set_option maxRecDepth 100000 in
set_option maxHeartbeats 16000000 in
theorem deep_obj (n : Nat) (h1 : 1 ≤ n) (h2 : n ≤ 10050) (hd : decide ((n : Int) < 9950) = false ∨ (decide ((n : Int) < 9950) = true ∧ decide ((300 : Int) < n) = false)) (w : World) :
    Calls Tryd.prog 4 #[.int .u16 n, .bool true] w (fun e w' => e = .returned (.bool true) ∧ Below w.heap.size w w') := by
  have d1 : decide ((n : Int) < 1) = false := decide_eq_false (by omega)
  have d2 : decide ((10050 : Int) < n) = false := decide_eq_false (by omega)
  have hw0 : IntKind.i64.wrap (n : Int) = n := by rw [IntKind.wrap_i64]; omega
  have hw1 : IntKind.i64.wrap ((n : Int) * 5) = (n : Int) * 5 := by rw [IntKind.wrap_i64]; omega
  have hw2 : IntKind.i64.wrap ((n : Int) * 5 + 1) = ((n : Int) * 5 + 1) := by rw [IntKind.wrap_i64]; omega
  obtain ⟨i0, hi, hz0, hz1, hz2⟩ := info_parts Tryd.infoU8
  obtain ⟨Z, hZ⟩ : ∃ Z : Nat → Array Value, ∀ c, Z c = madeCells (Value.int .u8 0).cells (c * i0.size) := ⟨_, fun _ => rfl⟩
  have hZs : ∀ c, (Z c).size = c := fun c => by rw [hZ, size_madeCells, hz1]; simp
  have hmk : ∀ (W : World) (c : Nat), c ≤ 100000 → (Instr.makeSlice 26 (.int .i64 0) (.int .i64 (c : Int))).run Tryd.prog W = .ok (.slice (some ⟨W.heap.size, 0, none⟩) 0 c) (W.alloc (.cells (Z c) 5)) := fun W c hc => by
    have h := run_makeSlice (P := Tryd.prog) W 26 5 i0 (.int .u8 0) Tryd.underlying26 hi hz0 .i64 .i64 0 (c : Int) (by omega) (by omega) (by rw [hz1]; omega) (by rw [hz2]; omega) (by omega)
    rw [hZ]
    simpa using h
  have hm1 : ∀ W : World, (Instr.makeSlice 26 (.int .i64 0) (.int .i64 (n : Int))).run Tryd.prog W = .ok (.slice (some ⟨W.heap.size, 0, none⟩) 0 n) (W.alloc (.cells (Z n) 5)) := fun W => hmk W n (by omega)
  have hm2 : ∀ W : World, (Instr.makeSlice 26 (.int .i64 0) (.int .i64 ((n : Int) * 5 + 1))).run Tryd.prog W = .ok (.slice (some ⟨W.heap.size, 0, none⟩) 0 (n * 5 + 1)) (W.alloc (.cells (Z (n * 5 + 1)) 5)) := fun W => by
    have := hmk W (n * 5 + 1) (by omega)
    simpa using this
  have HT1 := Lib.hid (two_new w (Z (n * 5 + 1)) (Z n) (n * 5 + 1) n (hZs _) (hZs _) (by unfold maxLen; omega) (by unfold maxLen; omega))
  have HT2 := Lib.hid (two_new w (Z n) (Z (n * 5 + 1)) n (n * 5 + 1) (hZs _) (hZs _) (by unfold maxLen; omega) (by unfold maxLen; omega)).swap
  have HVL := fun W => Lib.hid (nest_valid n true h1 h2 W)
  have HCY := fun h W => Lib.hid (nest_yes n true h1 h W)
  have HCN := fun h W => Lib.hid (nest_no n true h1 h2 h W)
  clear hmk hZ hZs
  have hadd1 : ∀ X : World, (Op.stringOp .add ⟨(Js.rep n (Js.opn true)).toArray⟩ ⟨#[49]⟩).run Tryd.prog X = .ok (.string (⟨(Js.rep n (Js.opn true)).toArray⟩ ++ ⟨#[49]⟩)) X := fun X =>
    run_string_add_sum X _ _ (by show (Js.rep n (Js.opn true)).toArray.size + 1 ≤ _; rw [List.size_toArray, Js.rep_length]; show n * 5 + 1 ≤ _; omega)
  have hadd2 : ∀ X : World, (Op.stringOp .add (⟨(Js.rep n (Js.opn true)).toArray⟩ ++ ⟨#[49]⟩) ⟨(Js.rep n (Js.cls true)).toArray⟩).run Tryd.prog X = .ok (.string (⟨(Js.rep n (Js.opn true)).toArray⟩ ++ ⟨#[49]⟩ ++ ⟨(Js.rep n (Js.cls true)).toArray⟩)) X := fun X =>
    run_string_add_sum X _ _ (by rw [ByteArray.size_append]; show (Js.rep n (Js.opn true)).toArray.size + 1 + (Js.rep n (Js.cls true)).toArray.size ≤ _; rw [List.size_toArray, List.size_toArray, Js.rep_length, Js.rep_length]; show n * 5 + 1 + n * 1 ≤ _; omega)
  have HA1 := Lib.hid hadd1
  have HA2 := Lib.hid hadd2
  clear hadd1 hadd2
  rcases hd with d3 | ⟨d3, d4⟩
  all_goals
    go_enter Tryd.func4, Tryd.ntmps4
    go_wp2_with fail
    go_region_held3 (fun _ => True) (trivial) (fail)
    all_goals
      rename_i hHeld
      clear hHeld hm1 hm2 hw1 hw2
      go_wp2_with fail
      go_loopg [7, 8, 42] n (fun gk a b i wr => ∃ k : Nat, gk + k = n ∧ i = .int .u16 (k : Int) ∧ Two w wr a b (Js.rep k (Js.opn true)) (Js.rep k (Js.cls true)))
      case atStart =>
        first
          | exact ⟨0, by omega, rfl, HT1.out⟩
          | exact ⟨0, by omega, rfl, HT2.out⟩
      case round =>
        obtain ⟨k, hgk, rfl, htwo⟩ := hrel
        have HT := Lib.hid htwo
        clear htwo
        have hl1 : (Js.rep k (Js.opn true)).length ≤ 60000 := by rw [Js.rep_length]; show k * 5 ≤ _; omega
        have hl2 : (Js.rep k (Js.cls true)).length ≤ 60000 := by rw [Js.rep_length]; show k * 1 ≤ _; omega
        by_cases hlt : k < n
        · have dk : decide ((k : Int) < n) = true := decide_eq_true (by omega)
          have hwk : IntKind.u16.wrap ((k : Int) + 1) = k + 1 := u16_in _ (by omega)
          go_wp2_with (first
            | (at_builtin; refine wpList_append_str _ rfl _ _ 26 9 rfl 5 i0 Tryd.underlying26 Tryd.underlying9 hi hz0 hz1 hz2 rfl HTa.out.ob ⟨#[125]⟩ rfl (by show _ + 1 ≤ _; omega) HTa.out.below.size ?_; rintro b2 w3 ho hg hat; have HTb := Lib.hid (HTa.out.right ho hg hat); clear ho hg hat)
            | (at_builtin; refine wpList_append_str _ rfl _ _ 26 9 rfl 5 i0 Tryd.underlying26 Tryd.underlying9 hi hz0 hz1 hz2 rfl HT.out.oa ⟨#[123, 34, 97, 34, 58]⟩ rfl (by show _ + 5 ≤ _; omega) HT.out.below.size ?_; rintro a2 w2 ho hg hat; have HTa := Lib.hid (HT.out.left ho hg hat); clear ho hg hat))
          go_roundg (n - (k + 1))
          case rel => exact ⟨k + 1, by omega, by simp, HTb.out⟩
          case measure => omega
        · have hk : k = n := by omega
          subst hk
          have dk : decide ((k : Int) < k) = false := decide_eq_false (by omega)
          have hc1 := row_string HT.out.oa (by rw [Js.rep_length]; show 0 < k * 5; omega)
          have hc2 := row_string HT.out.ob (by rw [Js.rep_length]; show 0 < k * 1; omega)
          have hadd1 := HA1.out
          have hadd2 := HA2.out
          clear hl1 hl2
          by_cases h5 : k ≤ 10000
          · have d5 : decide ((k : Int) ≤ 10000) = true := decide_eq_true (by omega)
            go_wp2_with fail
            refine (HCY h5 _).out.mono ?_
            rintro e w2 ⟨out, rfl, hb2⟩
            have HB2 := Lib.hid (HT.out.below.trans (hb2.mono HT.out.below.size))
            clear hb2
            go_wp2_with (first
              | (go_at_call 9; refine (HVL _).out.mono ?_; rintro e w4 ⟨rfl, hb4⟩; have HB4 := Lib.hid hb4; clear hb4)
              | (go_at_call 7; refine (reads_any _).mono ?_; rintro e w5 ⟨rfl, hb5⟩; have HB5 := Lib.hid hb5; clear hb5))
            go_ret
            exact ⟨rfl, chain (HB2.out.alloc HB2.out.size _) HB4.out HB5.out⟩
          · have d5 : decide ((k : Int) ≤ 10000) = false := decide_eq_false (by omega)
            go_wp2_with fail
            refine (HCN h5 _).out.mono ?_
            rintro e w2 ⟨out, rfl, hb2⟩
            have HB2 := Lib.hid (HT.out.below.trans (hb2.mono HT.out.below.size))
            clear hb2
            go_wp2_with (first
              | (go_at_call 9; refine (HVL _).out.mono ?_; rintro e w4 ⟨rfl, hb4⟩; have HB4 := Lib.hid hb4; clear hb4)
              | (go_at_call 7; refine (reads_any _).mono ?_; rintro e w5 ⟨rfl, hb5⟩; have HB5 := Lib.hid hb5; clear hb5))
            go_ret
            exact ⟨rfl, chain (HB2.out.alloc HB2.out.size _) HB4.out HB5.out⟩

end Go.Proofs.YtlmhpmbgalmpgaaDoor
