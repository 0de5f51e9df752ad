/-
  appendHTMLEscape.
-/
import Derived.Test.YtlmhpmbgalmpgaaGreatDoorBf4
import Derived.Test.YtlmhpmbgalmpgaaGreatDoorPl3
import Derived.Deep.RegionHeld3
namespace Go.Proofs.YtlmhpmbgalmpgaaGreatDoor
open Go.RowKit

/-- What appendHTMLEscape comes to. -/
def Esced (B : Nat) (v0 : Value) (l : List UInt8) (W : World) (e : Ending) (w' : World) : Prop := ∃ v, e = .returned v ∧ Ap 5 B v0.ownBlock W w' v (Js.esc l)

theorem Ap.bytes {e : TypeId} {B : Nat} {d : Option Nat} {W w : World} {v : Value} {ks l : List UInt8} {ds : Nat} (h : Ap e B d W w v ks) (hd : d ≠ some ds) (hlt : ds < W.heap.size) (hb : Bytes W ds l) : Bytes w ds l :=
  hb.kept (h.block ds hlt hd)

/-- The bytes of a part of a text. -/
theorem part_cells {w : World} {ds : Nat} {l : List UInt8} (h : Bytes w ds l) (st n : Nat) : ∀ j (hj : j < ((l.drop st).take n).length), w.cell? ((⟨ds, st, none⟩ : Addr).add j) = some (.int .u8 (((l.drop st).take n)[j].toNat : Int)) := by
  intro j hj
  rw [Lib.addr_add]
  have h1 : st + j < l.length := by rw [List.length_take, List.length_drop] at hj; omega
  rw [h (st + j) h1]
  congr 3
  rw [List.getElem_take, List.getElem_drop]

theorem part_len {l : List UInt8} {st k : Nat} (hk : k ≤ l.length) : ((l.drop st).take (k - st)).length = k - st := by
  rw [List.length_take, List.length_drop]; omega

theorem part_rest {l : List UInt8} {st : Nat} : (l.drop st).take (l.length - st) = l.drop st := List.take_of_length_le (by simp)

theorem byte_ne {c n : UInt8} (h : c ≠ n) : ((c.toNat : Int) == (n.toNat : Int)) = false := by
  rw [beq_eq_false_iff_ne]
  exact fun e => h (UInt8.toNat_inj.1 (by omega))

theorem sep_bits : ∀ n : Fin 256, (bits BinOp.andNot IntKind.u8 (n.val : Int) 1 == 168) = (n.val == 168 || n.val == 169) := by decide +kernel

theorem sep_bit {x : UInt8} (h3 : x ≠ 168) (h4 : x ≠ 169) : (bits BinOp.andNot IntKind.u8 (x.toNat : Int) 1 == 168) = false := by
  have h := sep_bits ⟨x.toNat, x.toNat_lt⟩
  rw [h]
  simp only [Bool.or_eq_false_iff, beq_eq_false_iff_ne]
  exact ⟨fun e => h3 (UInt8.toNat_inj.1 e), fun e => h4 (UInt8.toNat_inj.1 e)⟩

/-- The bytes of a slice that was just laid. -/
theorem new_bytes (w : World) (T : TypeId) (cs : Array Value) (ns : List UInt8) (h : cs.toList = Lib.byteCells ns) : ∀ j (hj : j < ns.length), (w.alloc (.cells cs T)).cell? ((⟨w.heap.size, 0, none⟩ : Addr).add j) = some (.int .u8 (ns[j].toNat : Int)) := by
  intro j hj
  rw [Lib.addr_add, Nat.zero_add, Lib.cell_of_heap (heap_alloc_new w _)]
  rw [← Array.getElem?_toList, h]
  simp [Lib.byteCells, hj]

set_option maxRecDepth 100000 in
set_option maxHeartbeats 4000000 in
theorem html_any (B ds cap : Nat) (v0 : Value) (l : List UInt8) (hl : l.length ≤ 10000000000) (W : World) (hB : B ≤ W.heap.size) (hv0 : W.ownsRow B 5 1 v0 0 []) (hd : v0.ownBlock ≠ some ds) (hds : ds < W.heap.size) (hby : Bytes W ds l) (hcap : l.length ≤ cap) (_hcm : cap ≤ maxLen) :
    Calls Tryz.prog 42 #[v0, .slice (some ⟨ds, 0, none⟩) l.length cap] W (Esced B v0 l W) := by
  have HA := Lib.hid (Ap.start hv0 hB)
  have HY := Lib.hid hby
  unfold maxLen at _hcm
  obtain ⟨i0, hi, hz0, hz1, hz2⟩ := info_parts Tryz.infoU8
  have b60 : bits BinOp.and IntKind.u8 60 15 = 12 := by rfl
  have b62 : bits BinOp.and IntKind.u8 62 15 = 14 := by rfl
  have b38 : bits BinOp.and IntKind.u8 38 15 = 6 := by rfl
  have b168 : bits BinOp.and IntKind.u8 168 15 = 8 := by rfl
  have b169 : bits BinOp.and IntKind.u8 169 15 = 9 := by rfl
  clear hv0 hby
  go_enter Tryz.func42, Tryz.ntmps42
  go_wp2_with fail
  go_loopg [0, 5, 10] l.length (fun gk v s i wr => ∃ (k st : Nat) (ks : List UInt8), gk + k = l.length ∧ s = .int .i64 (st : Int) ∧ i = .int .i64 (k : Int) ∧ Js.HInv l k st ks ∧ Ap 5 B v0.ownBlock W wr v ks)
  case atStart => exact ⟨0, 0, [], by omega, rfl, rfl, Js.HInv.start l, HA.out⟩
  case round =>
    obtain ⟨k, st, ks, hgk, rfl, rfl, hin, hap⟩ := hrel
    have HAP := Lib.hid hap
    have HIN := Lib.hid hin
    have hsle := hin.sle
    have hkle := hin.kle
    have hksl := hin.len
    have HYB := Lib.hid (hap.bytes hd hds HY.out)
    clear hap hin
    by_cases hlt : k < l.length
    · have hcell : wr.cell? ⟨ds, k, none⟩ = some (.int .u8 (l[k].toNat : Int)) := HYB.out k hlt
      cases hsp : Js.spec1 l[k] with
      | true =>
        obtain ⟨hst, hin2⟩ := HIN.out.spec hlt hsp
        have hc3 : l[k] = 60 ∨ l[k] = 62 ∨ l[k] = 38 := by simpa [Js.spec1, or_assoc] using hsp
        clear hsp
        rcases hc3 with h | h | h
        · have hcc : wr.cell? ⟨ds, k, none⟩ = some (.int .u8 60) := by rw [hcell, h]; rfl
          have hin3 : Js.HInv l (k + 1) (k + 1) (ks ++ (l.drop st).take (k - st) ++ [92, 117, 48, 48, 51, 99]) := by rw [h] at hin2; exact hin2
          have HIN3 := Lib.hid hin3
          clear h hcell hin2 hin3
          go_wp2_with (at_builtin; refine wpList_append_ap _ rfl _ _ 40 rfl 5 i0 Tryz.underlying40 hi hz0 hz1 hz2 rfl HAP.out _ _ _ ((l.drop st).take (k - st)) rfl (part_len hkle) (part_cells HYB.out _ _) (by omega) ?_; rintro v1 w1 hap1 -)
          go_region_held3 (fun _ => True) (trivial) ((refine step_append_ap _ (by rfl) _ _ 40 (by rfl) 5 i0 Tryz.underlying40 hi hz0 hz1 hz2 (by rfl) (by first | exact hap1.alloc _ | exact hap1.drew.alloc _) _ _ _ [92, 117, 48, 48, 51, 99] (by rfl) (by rfl) (new_bytes _ _ _ _ (by rfl)) (by simp only [List.length_append, List.length_take, List.length_drop]; omega) ?_; rintro v2 w2 hap2 -))
          all_goals
            rename_i hHeld
            clear hHeld
            have HAP2 := Lib.hid hap2
            clear hap1 hap2
            go_wp2
            go_roundg (l.length - (k + 1))
            case rel => exact ⟨k + 1, k + 1, _, by omega, by go_num, by go_num, HIN3.out, HAP2.out⟩
            case measure => omega
        · have hcc : wr.cell? ⟨ds, k, none⟩ = some (.int .u8 62) := by rw [hcell, h]; rfl
          have hin3 : Js.HInv l (k + 1) (k + 1) (ks ++ (l.drop st).take (k - st) ++ [92, 117, 48, 48, 51, 101]) := by rw [h] at hin2; exact hin2
          have HIN3 := Lib.hid hin3
          clear h hcell hin2 hin3
          go_wp2_with (at_builtin; refine wpList_append_ap _ rfl _ _ 40 rfl 5 i0 Tryz.underlying40 hi hz0 hz1 hz2 rfl HAP.out _ _ _ ((l.drop st).take (k - st)) rfl (part_len hkle) (part_cells HYB.out _ _) (by omega) ?_; rintro v1 w1 hap1 -)
          go_region_held3 (fun _ => True) (trivial) ((refine step_append_ap _ (by rfl) _ _ 40 (by rfl) 5 i0 Tryz.underlying40 hi hz0 hz1 hz2 (by rfl) (by first | exact hap1.alloc _ | exact hap1.drew.alloc _) _ _ _ [92, 117, 48, 48, 51, 101] (by rfl) (by rfl) (new_bytes _ _ _ _ (by rfl)) (by simp only [List.length_append, List.length_take, List.length_drop]; omega) ?_; rintro v2 w2 hap2 -))
          all_goals
            rename_i hHeld
            clear hHeld
            have HAP2 := Lib.hid hap2
            clear hap1 hap2
            go_wp2
            go_roundg (l.length - (k + 1))
            case rel => exact ⟨k + 1, k + 1, _, by omega, by go_num, by go_num, HIN3.out, HAP2.out⟩
            case measure => omega
        · have hcc : wr.cell? ⟨ds, k, none⟩ = some (.int .u8 38) := by rw [hcell, h]; rfl
          have hin3 : Js.HInv l (k + 1) (k + 1) (ks ++ (l.drop st).take (k - st) ++ [92, 117, 48, 48, 50, 54]) := by rw [h] at hin2; exact hin2
          have HIN3 := Lib.hid hin3
          clear h hcell hin2 hin3
          go_wp2_with (at_builtin; refine wpList_append_ap _ rfl _ _ 40 rfl 5 i0 Tryz.underlying40 hi hz0 hz1 hz2 rfl HAP.out _ _ _ ((l.drop st).take (k - st)) rfl (part_len hkle) (part_cells HYB.out _ _) (by omega) ?_; rintro v1 w1 hap1 -)
          go_region_held3 (fun _ => True) (trivial) ((refine step_append_ap _ (by rfl) _ _ 40 (by rfl) 5 i0 Tryz.underlying40 hi hz0 hz1 hz2 (by rfl) (by first | exact hap1.alloc _ | exact hap1.drew.alloc _) _ _ _ [92, 117, 48, 48, 50, 54] (by rfl) (by rfl) (new_bytes _ _ _ _ (by rfl)) (by simp only [List.length_append, List.length_take, List.length_drop]; omega) ?_; rintro v2 w2 hap2 -))
          all_goals
            rename_i hHeld
            clear hHeld
            have HAP2 := Lib.hid hap2
            clear hap1 hap2
            go_wp2
            go_roundg (l.length - (k + 1))
            case rel => exact ⟨k + 1, k + 1, _, by omega, by go_num, by go_num, HIN3.out, HAP2.out⟩
            case measure => omega
      | false =>
        have h60 : ((l[k].toNat : Int) == 60) = false := byte_ne (c := l[k]) (n := 60) (by rintro h; rw [h] at hsp; exact absurd hsp (by decide))
        have h62 : ((l[k].toNat : Int) == 62) = false := byte_ne (c := l[k]) (n := 62) (by rintro h; rw [h] at hsp; exact absurd hsp (by decide))
        have h38 : ((l[k].toNat : Int) == 38) = false := byte_ne (c := l[k]) (n := 38) (by rintro h; rw [h] at hsp; exact absurd hsp (by decide))
        cases hse : Js.isSep (l.drop k) with
        | true =>
          obtain ⟨h2, e0, e1, e2⟩ := Js.isSep_yes hlt hse
          obtain ⟨hst, hin2⟩ := HIN.out.sep h2 e0 e1 e2
          have hcc : wr.cell? ⟨ds, k, none⟩ = some (.int .u8 226) := by rw [hcell, e0]; rfl
          have hc1 : wr.cell? ⟨ds, k + 1, none⟩ = some (.int .u8 128) := by rw [HYB.out (k + 1) (by omega), e1]; rfl
          clear hsp hse h60 h62 h38 hcell
          rcases e2 with h | h
          · have hc2 : wr.cell? ⟨ds, k + 2, none⟩ = some (.int .u8 168) := by rw [HYB.out (k + 2) h2, h]; rfl
            have hin3 : Js.HInv l (k + 1) (k + 3) (ks ++ (l.drop st).take (k - st) ++ [92, 117, 50, 48, 50, 56]) := by rw [h] at hin2; exact hin2
            have HIN3 := Lib.hid hin3
            have hcx : ∀ w1 v1 ks1, Ap 5 B v0.ownBlock W w1 v1 ks1 → w1.cell? ⟨ds, k + 2, none⟩ = some (.int .u8 168) := fun w1 v1 ks1 hap => by rw [(hap.bytes hd hds HY.out) (k + 2) h2, h]; rfl
            have HCX := Lib.hid hcx
            clear h hin2 hin3 e0 e1 hcx
            go_wp2_with (first
              | (at_builtin; refine wpList_append_ap _ rfl _ _ 40 rfl 5 i0 Tryz.underlying40 hi hz0 hz1 hz2 rfl (hap1.alloc _) _ _ _ [92, 117, 50, 48, 50, 56] rfl rfl (new_bytes _ _ _ _ rfl) (by simp only [List.length_append, List.length_take, List.length_drop]; omega) ?_; rintro v2 w2 hap2 -)
              | (at_builtin; refine wpList_append_ap _ rfl _ _ 40 rfl 5 i0 Tryz.underlying40 hi hz0 hz1 hz2 rfl HAP.out _ _ _ ((l.drop st).take (k - st)) rfl (part_len hkle) (part_cells HYB.out _ _) (by omega) ?_; rintro v1 w1 hap1 -; have hdx := HCX.out _ _ _ hap1))
            have HAP2 := Lib.hid hap2
            clear hap1 hap2 hdx
            go_roundg (l.length - (k + 1))
            case rel => exact ⟨k + 1, k + 3, _, by omega, by go_num, by go_num, HIN3.out, HAP2.out⟩
            case measure => omega
          · have hc2 : wr.cell? ⟨ds, k + 2, none⟩ = some (.int .u8 169) := by rw [HYB.out (k + 2) h2, h]; rfl
            have hin3 : Js.HInv l (k + 1) (k + 3) (ks ++ (l.drop st).take (k - st) ++ [92, 117, 50, 48, 50, 57]) := by rw [h] at hin2; exact hin2
            have HIN3 := Lib.hid hin3
            have hcx : ∀ w1 v1 ks1, Ap 5 B v0.ownBlock W w1 v1 ks1 → w1.cell? ⟨ds, k + 2, none⟩ = some (.int .u8 169) := fun w1 v1 ks1 hap => by rw [(hap.bytes hd hds HY.out) (k + 2) h2, h]; rfl
            have HCX := Lib.hid hcx
            clear h hin2 hin3 e0 e1 hcx
            go_wp2_with (first
              | (at_builtin; refine wpList_append_ap _ rfl _ _ 40 rfl 5 i0 Tryz.underlying40 hi hz0 hz1 hz2 rfl (hap1.alloc _) _ _ _ [92, 117, 50, 48, 50, 57] rfl rfl (new_bytes _ _ _ _ rfl) (by simp only [List.length_append, List.length_take, List.length_drop]; omega) ?_; rintro v2 w2 hap2 -)
              | (at_builtin; refine wpList_append_ap _ rfl _ _ 40 rfl 5 i0 Tryz.underlying40 hi hz0 hz1 hz2 rfl HAP.out _ _ _ ((l.drop st).take (k - st)) rfl (part_len hkle) (part_cells HYB.out _ _) (by omega) ?_; rintro v1 w1 hap1 -; have hdx := HCX.out _ _ _ hap1))
            have HAP2 := Lib.hid hap2
            clear hap1 hap2 hdx
            go_roundg (l.length - (k + 1))
            case rel => exact ⟨k + 1, k + 3, _, by omega, by go_num, by go_num, HIN3.out, HAP2.out⟩
            case measure => omega
        | false =>
          have hin2 := HIN.out.skip hlt hsp (.inl hse)
          have HIN2 := Lib.hid hin2
          rcases Js.isSep_no hlt hse with h0 | ⟨h0, h1⟩ | ⟨h2, h0, h1⟩ | ⟨h2, h0, h1, h3, h4⟩
          · have h226 : ((l[k].toNat : Int) == 226) = false := byte_ne h0
            clear h0 hsp hse hin2
            go_wp2
            go_roundg (l.length - (k + 1))
            case rel => exact ⟨k + 1, st, _, by omega, rfl, by go_num, HIN2.out, HAP.out⟩
            case measure => omega
          · have hcc : wr.cell? ⟨ds, k, none⟩ = some (.int .u8 226) := by rw [hcell, h0]; rfl
            clear h0 hsp hse hin2 h60 h62 h38 hcell
            go_wp2
            go_roundg (l.length - (k + 1))
            case rel => exact ⟨k + 1, st, _, by omega, rfl, by go_num, HIN2.out, HAP.out⟩
            case measure => omega
          · have hcc : wr.cell? ⟨ds, k, none⟩ = some (.int .u8 226) := by rw [hcell, h0]; rfl
            have hc1 : wr.cell? ⟨ds, k + 1, none⟩ = some (.int .u8 (l[k + 1].toNat : Int)) := HYB.out (k + 1) (by omega)
            have h128 : ((l[k + 1].toNat : Int) == 128) = false := byte_ne h1
            clear h0 h1 hsp hse hin2 h60 h62 h38 hcell
            go_wp2
            go_roundg (l.length - (k + 1))
            case rel => exact ⟨k + 1, st, _, by omega, rfl, by go_num, HIN2.out, HAP.out⟩
            case measure => omega
          · have hcc : wr.cell? ⟨ds, k, none⟩ = some (.int .u8 226) := by rw [hcell, h0]; rfl
            have hc1 : wr.cell? ⟨ds, k + 1, none⟩ = some (.int .u8 128) := by rw [HYB.out (k + 1) (by omega), h1]; rfl
            have hc2 : wr.cell? ⟨ds, k + 2, none⟩ = some (.int .u8 (l[k + 2].toNat : Int)) := HYB.out (k + 2) h2
            have hbit := sep_bit h3 h4
            clear h0 h1 h3 h4 hsp hse hin2 h60 h62 h38 hcell
            go_wp2
            go_roundg (l.length - (k + 1))
            case rel => exact ⟨k + 1, st, _, by omega, rfl, by go_num, HIN2.out, HAP.out⟩
            case measure => omega
    · have hk : k = l.length := by omega
      subst hk
      clear hlt
      go_wp2_with (at_builtin; refine wpList_append_ap_if _ rfl _ _ 40 rfl 5 i0 Tryz.underlying40 hi hz0 hz1 hz2 rfl HAP.out ((l.drop st).take (l.length - st)) rfl (part_len (Nat.le_refl _)) (fun _ => by omega) (part_cells HYB.out _ _) (by omega) ?_; rintro v1 w1 hap1 -)
      all_goals (go_ret; exact ⟨_, rfl, by rw [← HIN.out.done, ← part_rest]; exact hap1⟩)

end Go.Proofs.YtlmhpmbgalmpgaaGreatDoor
