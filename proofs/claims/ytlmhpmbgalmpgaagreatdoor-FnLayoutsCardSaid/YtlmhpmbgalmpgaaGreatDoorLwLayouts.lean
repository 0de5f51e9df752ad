/-
  FnLayouts: for every text and both numbers the law answers true; the row lists ten variables, which the card ties to the program's text.
-/
import Derived.Test.YtlmhpmbgalmpgaaGreatDoorRows
import Derived.Test.YtlmhpmbgalmpgaaGreatDoorTie
import Derived.Test.YtlmhpmbgalmpgaaGreatDoorCards
import Derived.Test.YtlmhpmbgalmpgaaGreatDoorRd
import Derived.Test.YtlmhpmbgalmpgaaGreatDoorLo1
import Derived.ProofKit
import Derived.OpenShut
import Derived.ShutString
import Derived.LaidMore
import Derived.Lay
import Derived.SevenTiedAt
import Derived.Stop.Joined
namespace Go.Proofs.YtlmhpmbgalmpgaaGreatDoor
open Go.ChangeShapes Go.WideShapes Go.ChangeAt Go.RowKit
open Go.ChangeMaps (open_string shut_string)

theorem own : ownKnob Tryz.prog.godebug = none := by kernel_rfl

theorem fcell {w2 w4 : World} {cs : Array Value} {T : TypeId} {v : Value} (h : Below (w2.alloc (.cells cs T)).heap.size (w2.alloc (.cells cs T)) w4) (h0 : cs[0]? = some v) : w4.cell? ⟨w2.heap.size, 0, none⟩ = some v := by
  rw [Lib.cell_of_heap ((h.block w2.heap.size (by simp)).trans (heap_alloc_new w2 _))]
  exact h0

theorem cell_over {w w' : World} {a : Addr} {v : Value} (h : Below w.heap.size w w') (hc : w.cell? a = some v) : w'.cell? a = some v := by
  by_cases hlt : a.block < w.heap.size
  · rw [h.cell hlt]; exact hc
  · exfalso
    unfold World.cell? at hc
    rw [Array.getElem?_eq_none (by omega)] at hc
    cases hc

theorem over {w w1 w2 : World} (h : Below w.heap.size w w1) (h2 : Below w1.heap.size w1 w2) : Below w.heap.size w w2 := h.trans (h2.mono h.size)


set_option maxRecDepth 100000 in
set_option maxHeartbeats 8000000 in
theorem layouts_true (s : ByteArray) (x y : Int) (hx0 : 0 ≤ x) (hx1 : x ≤ 255) (hy0 : 0 ≤ y) (hy1 : y ≤ 255) (h2 : s.size ≤ 3000) (ha : Js.acc Js.init s.data.toList = true) (w : World) :
    Calls Tryz.prog 5 #[.string s, .int .u8 x, .int .u8 y] w fun e w' => e = .returned (.bool true) ∧ Below w.heap.size w w' := by
  have v2 := fun W => check_any' s (by omega) W
  rw [ha] at v2
  have V2 := fun W => Lib.hid (v2 W)
  have V4 := fun W => Lib.hid (depth_any s (by omega) ha W)
  have HA := Lib.hid ha
  have hfo := field_ok
  clear v2 ha
  go_enter Tryz.func5, Tryz.ntmps5
  go_wp2_with (go_at_call 8; refine (V2 _).out.mono ?_; rintro e w4 ⟨en, n, rfl, hb4⟩; have HB4 := Lib.hid hb4; clear hb4)
  refine (V4 _).out.mono ?_
  rintro e w5 ⟨⟨dn, rfl⟩, hb5⟩
  have HB5 := Lib.hid (over HB4.out hb5)
  clear hb5
  by_cases hdn : 100 < dn
  · have hd : decide (100 < dn) = true := decide_eq_true hdn
    go_wp2_with (go_at_call 6; refine (reads_any _).mono ?_; rintro e w20 ⟨rfl, hb20⟩; have HB20 := Lib.hid hb20; clear hb20)
    go_ret
    exact ⟨rfl, over HB5.out HB20.out⟩
  · have hd : decide (100 < dn) = false := decide_eq_false hdn
    go_wp2_with fail
    clear hd hdn
    refine (blanksOf_any (x % 4) (by omega) _).mono ?_
    rintro e w6 ⟨⟨pl, rfl, hpb, hpl⟩, hb6⟩
    have HB6 := Lib.hid (over HB5.out hb6)
    clear hb6
    go_wp2_with fail
    refine (blanksOf_any (y % 6) (by omega) _).mono ?_
    rintro e w7 ⟨⟨ql, rfl, hqb, hql⟩, hb7⟩
    have HB7 := Lib.hid (over HB6.out hb7)
    clear hb7
    have hlist : s.data.toList.length = s.size := by simp
    have hcle := Js.comp_le s.data.toList Js.init
    obtain ⟨y1, y2, y3, y4, ⟨z, y5, y6⟩, y7, y8, y9⟩ := Js.layouts HA.out hpb hqb
    obtain ⟨LB, hLB⟩ : ∃ LB, Js.ind pl ql Js.init false 0 s.data.toList = LB := ⟨_, rfl⟩
    have v1 := fun W => (icompact_big s (by omega) W).mono (R' := fun e w' => e = .returned (.tuple #[.string (sb (Js.comp Js.init s.data.toList)), .agg #[.int .i64 0, .int .i64 0, .string ⟨#[]⟩, .string ⟨#[]⟩, .string ⟨#[]⟩, .string ⟨#[]⟩], .bool true]) ∧ Below W.heap.size W w') (fun _ _ ⟨hb, hy, _⟩ => ⟨hy HA.out, hb⟩)
    have g2 := fun W => ind_gen s (sb pl) (sb ql) (by omega) (by rw [sb_size]; omega) (by rw [sb_size]; omega) HA.out W
    have e2 : Js.ind (sb pl).data.toList (sb ql).data.toList Js.init false 0 s.data.toList = LB := by rw [sb_list, sb_list]; exact hLB
    rw [hLB] at y1 y2 y6 y7 y8
    obtain ⟨LA, hLA⟩ : ∃ LA, Js.comp Js.init s.data.toList = LA := ⟨_, rfl⟩
    rw [hLA] at v1 y2 y3 y4 y6 y8 y9 hcle
    obtain ⟨LE, hLE⟩ : ∃ LE, Js.ind pl ql Js.init false 0 LA = LE := ⟨_, rfl⟩
    rw [hLE] at y6
    obtain ⟨LF, hLF⟩ : ∃ LF, Js.esc LA = LF := ⟨_, rfl⟩
    rw [hLF] at y8 y9
    have hlf := Js.esc_len (LA.length + 1) LA (Nat.lt_succ_self _)
    rw [hLF] at hlf
    obtain ⟨A, hA⟩ : ∃ A, sb LA = A := ⟨_, rfl⟩
    obtain ⟨B, hB⟩ : ∃ B, sb LB = B := ⟨_, rfl⟩
    obtain ⟨E, hE⟩ : ∃ E, sb LE = E := ⟨_, rfl⟩
    obtain ⟨F, hF⟩ : ∃ F, sb LF = F := ⟨_, rfl⟩
    have lA : A.data.toList = LA := by rw [← hA, sb_list]
    have lB : B.data.toList = LB := by rw [← hB, sb_list]
    have lF : F.data.toList = LF := by rw [← hF, sb_list]
    have zA : A.size = LA.length := by rw [← hA, sb_size]
    have zB : B.size = LB.length := by rw [← hB, sb_size]
    have zE : E.size = LE.length := by rw [← hE, sb_size]
    have zF : F.size = LF.length := by rw [← hF, sb_size]
    rw [hA] at v1
    have V1 := fun W => Lib.hid (v1 W)
    have VD := fun W => Lib.hid ((icompact_big A (by omega) W).mono (R' := fun e w' => e = .returned (.tuple #[.string A, .agg #[.int .i64 0, .int .i64 0, .string ⟨#[]⟩, .string ⟨#[]⟩, .string ⟨#[]⟩, .string ⟨#[]⟩], .bool true]) ∧ Below W.heap.size W w') (fun _ _ ⟨hb, hy, _⟩ => ⟨by
      have h := hy (by rw [lA]; exact y3)
      rw [lA, y4] at h
      rw [h, ← hA]
      rfl, hb⟩))
    have VH := fun W => Lib.hid ((ihtml_big A (by omega) W).mono (R' := fun e w' => e = .returned (.string F) ∧ Below W.heap.size W w') (fun _ _ ⟨h, hb⟩ => ⟨by
      rw [lA, hLF] at h
      rw [h, ← hF]
      rfl, hb⟩))
    have vv := fun W => valid_any F (by omega) W
    rw [lF, y9] at vv
    have VV := fun W => Lib.hid (vv W)
    have G2 := fun W => Lib.hid (g2 W)
    have G5 := fun W => Lib.hid (ind_gen A (sb pl) (sb ql) (by omega) (by rw [sb_size]; omega) (by rw [sb_size]; omega) (by rw [lA]; exact y3) W)
    have E5 : Hid (Js.ind (sb pl).data.toList (sb ql).data.toList Js.init false 0 A.data.toList = LE) := Lib.hid (by rw [sb_list, sb_list, lA]; exact hLE)
    have E2 := Lib.hid e2
    have hle : E.size ≤ B.size := by rw [zE, zB, y6, List.length_append]; omega
    have hx : B.extract 0 E.size = E := by
      rw [zE, ← hE, ← sb_of (B.extract 0 LE.length), ByteArray.data_extract, Array.toList_extract, lB, y6]
      congr 1
      simp
    have hend : ∀ n, n ≤ B.size → At B n = Js.skip (At B E.size) → n = B.size := by
      intro n hn hat
      have h1 : At B E.size = z := by
        show B.data.toList.drop E.size = z
        rw [lB, zE, y6, List.drop_left' rfl]
      have h2 : ∀ z : List UInt8, Js.Bl z → Js.skip z = [] := by
        intro z
        induction z with
        | nil => exact fun _ => rfl
        | cons c z ih =>
          intro hz
          rw [Js.skip, if_pos (hz c (List.mem_cons_self ..))]
          exact ih fun d hd => hz d (List.mem_cons_of_mem _ hd)
      rw [h1, h2 z y5] at hat
      have h3 := At_len B n
      rw [hat, List.length_nil] at h3
      omega
    have HEND := Lib.hid hend
    have HCB : Hid (Js.acc Js.init B.data.toList = true ∧ Js.comp Js.init B.data.toList = LA) := Lib.hid (by rw [lB]; exact ⟨y1, y2⟩)
    have HCF : Hid (Js.acc Js.init (⟨(Js.esc B.data.toList).toArray⟩ : ByteArray).data.toList = true ∧ Js.comp Js.init (⟨(Js.esc B.data.toList).toArray⟩ : ByteArray).data.toList = LF) := Lib.hid (by
      have h : (⟨(Js.esc B.data.toList).toArray⟩ : ByteArray).data.toList = Js.esc LB := by rw [lB]
      rw [h]
      exact ⟨y7, y8⟩)
    have HAs := Lib.hid hA
    have HBs := Lib.hid hB
    have HEs := Lib.hid hE
    have HFs := Lib.hid hF
    clear v1 g2 vv e2 y1 y2 y3 y4 y5 y6 y7 y8 y9 hLA hLB hLE hLF hA hB hE hF lA lB lF hend hpb hqb
    go_wp2_with fail
    refine (V1 _).out.mono ?_
    rintro e w8 ⟨rfl, hb8⟩
    have HB8 := Lib.hid (over HB7.out hb8)
    clear hb8
    go_wp2_with fail
    refine (G2 _).out.mono ?_
    rintro e w9 ⟨hb9, o2, ok2, bad2, rfl, ho2, hi2⟩
    have HB9 := Lib.hid (over (HB8.out.alloc HB8.out.size _) hb9)
    have HI2 := Lib.hid hi2
    clear hb9 hi2
    go_wp2_with fail
    refine (cmp_gen o2 (by omega) _).mono ?_
    rintro e w10 ⟨hb10, o3, c3, n3, ok3, rfl, hc3⟩
    have HB10 := Lib.hid (over (HB9.out.alloc HB9.out.size _) hb10)
    have HC3 := Lib.hid hc3
    clear hb10 hc3
    go_wp2_with fail
    refine (VD _).out.mono ?_
    rintro e w11 ⟨rfl, hb11⟩
    have HB11 := Lib.hid (over (HB10.out.alloc HB10.out.size _) hb11)
    clear hb11
    go_wp2_with fail
    refine (G5 _).out.mono ?_
    rintro e w12 ⟨hb12, o5, ok5, bad5, rfl, ho5, hi5⟩
    have HB12 := Lib.hid (over (HB11.out.alloc HB11.out.size _) hb12)
    have HI5 := Lib.hid hi5
    clear hb12 hi5
    go_wp2_with fail
    refine (ihtml_big o2 (by omega) _).mono ?_
    rintro e w13 ⟨rfl, hb13⟩
    have HB13 := Lib.hid (over (HB12.out.alloc HB12.out.size _) hb13)
    clear hb13
    have hz6 : (⟨(Js.esc o2.data.toList).toArray⟩ : ByteArray).size ≤ 100000000000 := by
      have h1 := Js.esc_len (o2.data.toList.length + 1) o2.data.toList (Nat.lt_succ_self _)
      have h2 : (⟨(Js.esc o2.data.toList).toArray⟩ : ByteArray).size = (Js.esc o2.data.toList).length := sb_size _
      have h3 : o2.data.toList.length = o2.size := by simp
      omega
    go_wp2_with fail
    refine (cmp_gen _ hz6 _).mono ?_
    rintro e w14 ⟨hb14, o6, c6, n6, ok6, rfl, hc6⟩
    have HB14 := Lib.hid (over HB13.out hb14)
    have HC6 := Lib.hid hc6
    clear hb14 hc6 hz6
    cases bad2 with
    | true =>
      go_wp2_with (go_at_call 6; refine (reads_any _).mono ?_; rintro e w20 ⟨rfl, hb20⟩; have HB20 := Lib.hid hb20; clear hb20)
      go_ret
      exact ⟨rfl, over (HB14.out.alloc HB14.out.size _) HB20.out⟩
    | false =>
      cases bad5 with
      | true =>
        go_wp2_with (go_at_call 6; refine (reads_any _).mono ?_; rintro e w20 ⟨rfl, hb20⟩; have HB20 := Lib.hid hb20; clear hb20)
        go_ret
        exact ⟨rfl, over (HB14.out.alloc HB14.out.size _) HB20.out⟩
      | false =>
        obtain ⟨hh2, rfl⟩ := HI2.out rfl
        rw [E2.out, HBs.out] at hh2
        subst hh2
        obtain ⟨hh3, rfl⟩ := HC3.out HCB.out.1
        rw [HCB.out.2, HAs.out] at hh3
        subst hh3
        obtain ⟨hh5, rfl⟩ := HI5.out rfl
        rw [E5.out, HEs.out] at hh5
        subst hh5
        obtain ⟨hh6, rfl⟩ := HC6.out HCF.out.1
        rw [HCF.out.2, HFs.out] at hh6
        subst hh6
        clear HI2 HC3 HI5 HC6 HEs HFs HAs HBs E2 E5 HCB HCF zA zB zE zF hcle hlf hlist ho5
        have hle2 : decide ((o5.size : Int) ≤ (o2.size : Int)) = true := decide_eq_true (by omega)
        have BE := fun W => Lib.hid ((blankEnd_big o2 (by omega) (o5.size : Int) o5.size rfl hle W).mono (R' := fun e w' => e = .returned (.int .i64 (o2.size : Int)) ∧ w' = W) (fun _ _ ⟨n, he, hn, hat, hw⟩ => ⟨by rw [he, HEND.out n hn hat], hw.symm⟩))
        go_wp2_with (first
          | (go_at_call 15; refine (BE _).out.mono ?_; rintro e w15 ⟨rfl, rfl⟩)
          | (go_at_call 14; refine (VH _).out.mono ?_; rintro e w16 ⟨rfl, hb16⟩; have HB16 := Lib.hid (over (HB14.out.alloc HB14.out.size _) hb16); clear hb16)
          | (go_at_call 16; refine (VV _).out.mono ?_; rintro e w17 ⟨rfl, hb17⟩; have HB17 := Lib.hid (over HB16.out hb17); clear hb17)
          | (go_at_call 6; refine (reads_any _).mono ?_; rintro e w20 ⟨rfl, hb20⟩; have HB20 := Lib.hid hb20; clear hb20))
        go_ret
        exact ⟨rfl, over HB17.out HB20.out⟩

set_option maxRecDepth 100000 in
set_option maxHeartbeats 4000000 in
theorem law_layouts (s : ByteArray) (x y : Int) (hs : s.size ≤ maxLen) (hx : 0 ≤ x ∧ x ≤ 255) (hy : 0 ≤ y ∧ y ≤ 255) (w : World) :
    Calls Tryz.prog 5 #[.string s, .int .u8 x, .int .u8 y] w fun e w' => e = .returned (.bool true) ∧ Below w.heap.size w w' := by
  unfold maxLen at hs
  by_cases h1 : s.size ≤ 2147483647
  · by_cases h2 : s.size ≤ 3000
    · cases ha : Js.acc Js.init s.data.toList with
      | true => exact layouts_true s x y hx.1 hx.2 hy.1 hy.2 h2 ha w
      | false =>
        have v2 := fun W => check_any' s (by omega) W
        rw [ha] at v2
        have V2 := fun W => Lib.hid (v2 W)
        have hfo := field_ok
        clear v2 ha
        go_enter Tryz.func5, Tryz.ntmps5
        go_wp2_with (first
          | (go_at_call 8; refine (V2 _).out.mono ?_; rintro e w4 ⟨en, n, rfl, hb4⟩; have HB4 := Lib.hid hb4; clear hb4)
          | (go_at_call 6; refine (reads_any _).mono ?_; rintro e w20 ⟨rfl, hb20⟩; have HB20 := Lib.hid hb20; clear hb20))
        go_ret
        exact ⟨rfl, over HB4.out HB20.out⟩
    · go_enter Tryz.func5, Tryz.ntmps5
      go_wp2_with (go_at_call 6; refine (reads_any _).mono ?_; rintro e w20 ⟨rfl, hb20⟩; have HB20 := Lib.hid hb20; clear hb20)
      go_ret
      exact ⟨rfl, HB20.out⟩
  · go_enter Tryz.func5, Tryz.ntmps5
    go_wp2_with fail
    go_ret
    exact ⟨rfl, Below.refl _ _⟩

set_option maxRecDepth 100000 in
theorem lifted_layouts (os : Os) (started : os.Started) (H : Type) (enc : TypeId × Value → H) :
    ReturnsInHanded {} Tryz.checked os 5 .any (fun w args => (Rows.fnLayoutsSpec.pre enc Tryz.prog Tryz.f5 Rows.fnLayoutsRow.domain false w args ∧ laidMetH Tryz.prog Rows.fnLayoutsRow.laid w) ∧ sizedMet enc Tryz.prog Tryz.f5 (OpenSpec.ofChange Rows.fnLayoutsSpec) false w args)
      (Rows.fnLayoutsSpec.post enc Tryz.prog Tryz.f5 false true false false) := by
  refine returnsInHanded_of_change_and (C := Tryz.checked) (X := fun w _ => laidMetH Tryz.prog Rows.fnLayoutsRow.laid w) (fun _ _ _ hh h => h.of_heap hh) own started (by kernel_rfl) Tryz.func5
    (ChangeSpec.witness_shaped (enc := enc) (C := Tryz.checked) (os := os) (X := fun w _ => laidMetH Tryz.prog Rows.fnLayoutsRow.laid w) false (World.laidAll Tryz.prog os Rows.fnLayoutsRow.laid) #[.string ByteArray.empty, .int .u8 0, .int .u8 0] 8 (World.laidAll_os _ _ _)
      (World.shaped_of_ZipB (by kernel_rfl) (by kernel_rfl)) (by kernel_rfl) (by kernel_rfl) (by kernel_rfl)
      (by rw [MakeChecks.laidMetH_plain _ _ _ (by kernel_rfl)]; exact laidMet_laidAll _ (by kernel_rfl) (by kernel_rfl))) ?_
  intro W base args ds gs before hval0 hW _ _ _ _
  have hval : ∀ (j : Nat) t v, Tryz.f5.params[j]? = some t → args[j]? = some v → Value.okWide Tryz.prog W .any base t v := hval0
  have hW' := hW
  obtain ⟨p, q, hA0, hV, rfl, hfz, hnd⟩ := hW
  have hA : DataW.TrodAll enc Tryz.prog W 0 (fun _ => true) true Tryz.f5.params.toList args.toList ds p := hA0
  rw [Tryz.params5] at hA hval
  obtain ⟨v0, vs0, d0, ds0, p0, q0, hargs, rfl, rfl, h0, r0⟩ := trodAll_cons hA
  obtain ⟨v1, vs1, d1, ds1, p1, q1, hargs1, rfl, rfl, h1, r1⟩ := trodAll_cons r0
  obtain ⟨v2, vs2, d2, ds2, p2, q2, hargs2, rfl, rfl, h2, r2⟩ := trodAll_cons r1
  obtain ⟨rfl, rfl, rfl⟩ := trodAll_nil r2
  subst hargs2
  subst hargs1
  obtain rfl : args = #[v0, v1, v2] := by cases args; simp_all
  obtain ⟨rfl, rfl⟩ := trodVars_none hV
  obtain ⟨a0, rfl, rfl, rfl, w0⟩ := open_string Tryz.underlying9 (hval 0 9 v0 rfl rfl) h0
  obtain ⟨a1, rfl, rfl, rfl, w1⟩ := open_int Tryz.underlying5 (hval 1 5 v1 rfl rfl) h1
  obtain ⟨a2, rfl, rfl, rfl, w2⟩ := open_int Tryz.underlying5 (hval 2 5 v2 rfl rfl) h2
  have ha1 : 0 ≤ a1 ∧ a1 ≤ 255 := by
    have h3 : IntKind.u8.min ≤ a1 ∧ a1 ≤ IntKind.u8.max := by simpa [Lit.wf] using w1
    exact h3
  have ha2 : 0 ≤ a2 ∧ a2 ≤ 255 := by
    have h3 : IntKind.u8.min ≤ a2 ∧ a2 ≤ IntKind.u8.max := by simpa [Lit.wf] using w2
    exact h3
  clear hA0 hval0
  simp only [List.append_nil] at hW'
  refine (law_layouts a0 a1 a2 w0 ha1 ha2 W).mono fun e W' ⟨he, hg⟩ => ?_
  subst he
  exact ⟨_, rfl, post_of_below (pa := []) (pv := []) hW' (fun _ _ _ => (trodAll_cons_mk (shut_bool Tryz.underlying4 _) trodAll_mk0)) (fun sp _ => (trodAll_cons_mk (shut_string Tryz.underlying9 w0) (trodAll_cons_mk (shut_int Tryz.underlying5 w1) (trodAll_cons_mk (shut_int Tryz.underlying5 w2) trodAll_mk0)))) (fun _ _ => rfl) rfl
    hg (ok_one (by kernel_rfl) rfl (okWide_bool_mk Tryz.underlying4 _))⟩

/-- The row: for every text and both numbers the law answers true. -/
theorem layouts_row : Rows.FnLayoutsSaid :=
  OpenClaim.holds_of_wide 5 Tryz.f5 rfl rfl rfl rfl rfl rfl rfl ⟨rfl, rfl, rfl, rfl, rfl⟩ rfl rfl rfl rfl rfl (by kernel_rfl) Tryz.func5 (by kernel_rfl)
    (of_decide_eq_true (by kernel_rfl)) (by unfold Func.isWrapper; first | (rw [if_pos (by decide +kernel)]; kernel_rfl) | (rw [if_neg (by decide +kernel)]; exact ⟨rfl, rfl⟩))
    (fun os started H enc _ => lifted_layouts os started H enc)

/-- The tied card. -/
theorem layouts_proved : Rows.FnLayoutsCardSaid :=
  Claim7.holds_tied_plain_at .later [] [.data, .sentinel, .sentinel, .sentinel, .pinned, .pinned, .pinned, .pinned, .pinned, .pinned] true (true, "f57af97c18ef0edb94ff1d6741135b84a278536e3072ac40f3187e549fc301e3") true
    layouts_row (fun _ h => by cases h) (by kernel_rfl) (fun _ h => by cases h) fnLayouts_row_tie rfl ⟨rfl, rfl⟩ (by kernel_rfl) rfl
    (fun f fn hf hfn => by
      obtain rfl : f = 5 := Option.some.inj ((show Tryz.prog.funcNamed "pub-transcriber/laws.FnLayouts" = some 5 by kernel_rfl).symm.trans hf) |>.symm
      obtain rfl : fn = Tryz.f5 := (Option.some.inj (Tryz.func5.symm.trans hfn)).symm
      exact ⟨by kernel_rfl, fun j t ht => by
        rw [Tryz.params5] at ht
        have hm : t ∈ [9, 5, 5] := by simpa using Array.mem_of_getElem? ht
        have hall : ([9, 5, 5].all fun u => !Tryz.prog.wantsStandIn u) = true := by kernel_rfl
        exact (show Tryz.prog.wantsStandIn t = false by simpa using List.all_eq_true.1 hall t hm)⟩)
    (by kernel_rfl)

#print axioms layouts_proved

end Go.Proofs.YtlmhpmbgalmpgaaGreatDoor
