/-
  spec.ForHTML.
-/
import Derived.Test.YtlmhpmbgalmpgaaDoorHt2
namespace Go.Proofs.YtlmhpmbgalmpgaaDoor
open Go.RowKit

theorem beq_byte {c n : UInt8} (h : c = n) : ((c.toNat : Int) == (n.toNat : Int)) = true := by rw [h]; simp

/-- The reference's loop: what is written, and what is still to be read. -/
structure FInv (s o : ByteArray) (k : Nat) : Prop where
  kle : k ≤ s.size
  eq : o.data.toList ++ Js.esc (s.data.toList.drop k) = Js.esc s.data.toList
  len : o.size ≤ 6 * k

theorem FInv.start (s : ByteArray) : FInv s ⟨#[]⟩ 0 := ⟨Nat.zero_le _, by simp, by simp [ByteArray.size]⟩

theorem FInv.done {s o : ByteArray} (h : FInv s o s.size) : o = ⟨(Js.esc s.data.toList).toArray⟩ := by
  have := h.eq
  rw [List.drop_of_length_le (by simp), Js.esc_nil, List.append_nil] at this
  rw [← this]

theorem dropc {s : ByteArray} {k : Nat} (hk : k < s.size) : s.data.toList.drop k = s[k] :: s.data.toList.drop (k + 1) := by
  rw [List.drop_eq_getElem_cons (by simpa using hk)]
  rfl

theorem FInv.spec {s o t : ByteArray} {k : Nat} (h : FInv s o k) (hk : k < s.size) (hs : Js.spec1 s[k] = true) (ht : t.data.toList = Js.escOf s[k]) : FInv s (o ++ t) (k + 1) := by
  refine ⟨hk, ?_, ?_⟩
  · have := h.eq
    rw [dropc hk, Js.esc_spec hs] at this
    rw [← this, ← ht]
    simp
  · have := h.len
    have h6 : t.size = 6 := by
      have := congrArg List.length ht
      rw [Js.escOf_length] at this
      simpa using this
    rw [ByteArray.size_append]
    omega

theorem FInv.skip {s o t : ByteArray} {k : Nat} (h : FInv s o k) (hk : k < s.size) (hs : Js.spec1 s[k] = false) (hp : Js.isSep (s.data.toList.drop k) = false) (ht : t.data.toList = [s[k]]) : FInv s (o ++ t) (k + 1) := by
  refine ⟨hk, ?_, ?_⟩
  · have := h.eq
    rw [dropc hk] at hp
    rw [dropc hk, Js.esc_plain hs hp] at this
    rw [← this]
    simp [ht]
  · have := h.len
    have h6 : t.size = 1 := by
      have := congrArg List.length ht
      simpa using this
    rw [ByteArray.size_append]
    omega

theorem FInv.sep {s o t : ByteArray} {k : Nat} (h : FInv s o k) (hk : k + 2 < s.size) (h0 : s[k] = 226) (h1 : s[k + 1] = 128) (h2 : s[k + 2] = 168 ∨ s[k + 2] = 169) (ht : t.data.toList = [92, 117, 50, 48, 50, if s[k + 2] == 168 then 56 else 57]) : FInv s (o ++ t) (k + 3) := by
  refine ⟨hk, ?_, ?_⟩
  · have := h.eq
    rw [dropc (by omega : k < s.size), dropc (by omega : k + 1 < s.size), dropc hk, h0, h1, Js.esc_sep (by decide) (Js.isSep_iff.2 ⟨_, _, rfl, h2⟩)] at this
    rw [← this]
    simp [ht, Js.sepOf]
  · have := h.len
    have h6 : t.size = 6 := by
      have := congrArg List.length ht
      simpa using this
    rw [ByteArray.size_append]
    omega

theorem extract_one (s : ByteArray) (k : Nat) (hk : k < s.size) : (s.extract k (k + 1)).data.toList = [s[k]] := by
  rw [ByteArray.data_extract, Array.toList_extract]
  simp only [List.extract, Nat.add_sub_cancel_left]
  rw [dropc hk]
  rfl

/-- A slice of one byte as a string. -/
theorem one_byte (d : UInt8) (w : World) : (convert 26 9 (.slice (some ⟨w.heap.size, 0, none⟩) 1 1)).run Tryd.prog (w.alloc (.cells #[.int .u8 (d.toNat : Int)] 5)) = .ok (.string ⟨#[d]⟩) (w.alloc (.cells #[.int .u8 (d.toNat : Int)] 5)) :=
  run_convert_bytes_back (P := Tryd.prog) _ 26 9 5 ⟨w.heap.size, 0, none⟩ 1 [d] Tryd.underlying26 Tryd.underlying5 Tryd.underlying9 (new_bytes w 5 #[.int .u8 (d.toNat : Int)] [d] rfl)

set_option maxRecDepth 100000 in
set_option maxHeartbeats 4000000 in
theorem forHTML_any (s : ByteArray) (hs : s.size ≤ 8000) (w : World) :
    Calls Tryd.prog 6 #[.string s] w (fun e w' => e = .returned (.string ⟨(Js.esc s.data.toList).toArray⟩) ∧ Below w.heap.size w w') := by
  go_enter Tryd.func6, Tryd.ntmps6
  go_wp2_with fail
  go_loopg [3, 4] s.size (fun gk out i wr => ∃ (k : Nat) (o : ByteArray), gk + k = s.size ∧ out = .string o ∧ i = .int .i64 (k : Int) ∧ FInv s o k ∧ Below w.heap.size w wr)
  case atStart => exact ⟨0, ⟨#[]⟩, by omega, rfl, rfl, FInv.start s, Below.refl _ _⟩
  case round =>
    obtain ⟨k, o, hgk, rfl, rfl, hin, hbe⟩ := hrel
    have HIN := Lib.hid hin
    have HBE := Lib.hid hbe
    have hkle := hin.kle
    have hol := hin.len
    clear hin hbe
    have hadd : ∀ (t : ByteArray) (_ : t.size ≤ 6) (X : World), (Op.stringOp .add o t).run Tryd.prog X = .ok (.string (o ++ t)) X := fun t ht X => run_string_add_sum X o t (by omega)
    by_cases hlt : k < s.size
    · cases hsp : Js.spec1 s[k] with
      | true =>
        have hc3 : s[k] = 60 ∨ s[k] = 62 ∨ s[k] = 38 := by simpa [Js.spec1, or_assoc] using hsp
        rcases hc3 with h | h | h
        · have hb : ((s[k].toNat : Int) == 60) = true := beq_byte h
          have HI2 := Lib.hid (HIN.out.spec hlt hsp (t := ⟨#[92, 117, 48, 48, 51, 99]⟩) (by rw [h]; rfl))
          have ha := hadd ⟨#[92, 117, 48, 48, 51, 99]⟩ (by decide)
          clear h hsp hadd
          go_wp2
          go_roundg (s.size - (k + 1))
          case rel => exact ⟨k + 1, _, by omega, rfl, by go_num, HI2.out, HBE.out⟩
          case measure => omega
        · have hb0 : ((s[k].toNat : Int) == 60) = false := byte_ne (n := 60) (by rw [h]; decide)
          have hb : ((s[k].toNat : Int) == 62) = true := beq_byte h
          have HI2 := Lib.hid (HIN.out.spec hlt hsp (t := ⟨#[92, 117, 48, 48, 51, 101]⟩) (by rw [h]; rfl))
          have ha := hadd ⟨#[92, 117, 48, 48, 51, 101]⟩ (by decide)
          clear h hsp hadd
          go_wp2
          go_roundg (s.size - (k + 1))
          case rel => exact ⟨k + 1, _, by omega, rfl, by go_num, HI2.out, HBE.out⟩
          case measure => omega
        · have hb0 : ((s[k].toNat : Int) == 60) = false := byte_ne (n := 60) (by rw [h]; decide)
          have hb1 : ((s[k].toNat : Int) == 62) = false := byte_ne (n := 62) (by rw [h]; decide)
          have hb : ((s[k].toNat : Int) == 38) = true := beq_byte h
          have HI2 := Lib.hid (HIN.out.spec hlt hsp (t := ⟨#[92, 117, 48, 48, 50, 54]⟩) (by rw [h]; rfl))
          have ha := hadd ⟨#[92, 117, 48, 48, 50, 54]⟩ (by decide)
          clear h hsp hadd
          go_wp2
          go_roundg (s.size - (k + 1))
          case rel => exact ⟨k + 1, _, by omega, rfl, by go_num, HI2.out, HBE.out⟩
          case measure => omega
      | false =>
        have hb0 : ((s[k].toNat : Int) == 60) = false := byte_ne (c := s[k]) (n := 60) (by rintro h; rw [h] at hsp; exact absurd hsp (by decide))
        have hb1 : ((s[k].toNat : Int) == 62) = false := byte_ne (c := s[k]) (n := 62) (by rintro h; rw [h] at hsp; exact absurd hsp (by decide))
        have hb2 : ((s[k].toNat : Int) == 38) = false := byte_ne (c := s[k]) (n := 38) (by rintro h; rw [h] at hsp; exact absurd hsp (by decide))
        have hl : s.data.toList.length = s.size := by simp
        cases hse : Js.isSep (s.data.toList.drop k) with
        | true =>
          obtain ⟨h2, e0, e1, e2⟩ := Js.isSep_yes (by rw [hl]; exact hlt) hse
          rw [hl] at h2
          have e0 : s[k] = 226 := e0
          have e1 : s[k + 1] = 128 := e1
          have e2 : s[k + 2] = 168 ∨ s[k + 2] = 169 := e2
          have hb3 : ((s[k].toNat : Int) == 226) = true := beq_byte e0
          have hb4 : ((s[k + 1].toNat : Int) == 128) = true := beq_byte e1
          rcases e2 with h | h
          · have hx : (s[k + 2].toNat : Int) = 168 := by rw [h]; rfl
            have HI2 := Lib.hid (HIN.out.sep h2 e0 e1 (.inl h) (t := ⟨#[92, 117, 50, 48, 50, 56]⟩) (by rw [h]; rfl))
            have ha := hadd ⟨#[92, 117, 50, 48, 50, 56]⟩ (by decide)
            have hn1 : bits BinOp.andNot IntKind.u8 168 1 = 168 := by rfl
            have hn2 : bits BinOp.and IntKind.u8 168 1 = 0 := by rfl
            have hcv : (convert 26 9 (.slice (some ⟨wr.heap.size, 0, none⟩) 1 1)).run Tryd.prog (wr.alloc (.cells #[.int .u8 56] 5)) = .ok (.string ⟨#[56]⟩) (wr.alloc (.cells #[.int .u8 56] 5)) := one_byte 56 wr
            have hcc : (⟨#[92, 117, 50, 48, 50]⟩ : ByteArray) ++ ⟨#[56]⟩ = ⟨#[92, 117, 50, 48, 50, 56]⟩ := rfl
            have HB2 := Lib.hid (HBE.out.alloc HBE.out.size (.cells #[.int .u8 56] 5))
            clear h hsp hadd e0 e1 hse HBE
            go_wp2
            go_roundg (s.size - (k + 3))
            case rel => exact ⟨k + 3, _, by omega, rfl, by go_num, HI2.out, HB2.out⟩
            case measure => omega
          · have hx : (s[k + 2].toNat : Int) = 169 := by rw [h]; rfl
            have HI2 := Lib.hid (HIN.out.sep h2 e0 e1 (.inr h) (t := ⟨#[92, 117, 50, 48, 50, 57]⟩) (by rw [h]; rfl))
            have ha := hadd ⟨#[92, 117, 50, 48, 50, 57]⟩ (by decide)
            have hn1 : bits BinOp.andNot IntKind.u8 169 1 = 168 := by rfl
            have hn2 : bits BinOp.and IntKind.u8 169 1 = 1 := by rfl
            have hcv : (convert 26 9 (.slice (some ⟨wr.heap.size, 0, none⟩) 1 1)).run Tryd.prog (wr.alloc (.cells #[.int .u8 57] 5)) = .ok (.string ⟨#[57]⟩) (wr.alloc (.cells #[.int .u8 57] 5)) := one_byte 57 wr
            have hcc : (⟨#[92, 117, 50, 48, 50]⟩ : ByteArray) ++ ⟨#[57]⟩ = ⟨#[92, 117, 50, 48, 50, 57]⟩ := rfl
            have HB2 := Lib.hid (HBE.out.alloc HBE.out.size (.cells #[.int .u8 57] 5))
            clear h hsp hadd e0 e1 hse HBE
            go_wp2
            go_roundg (s.size - (k + 3))
            case rel => exact ⟨k + 3, _, by omega, rfl, by go_num, HI2.out, HB2.out⟩
            case measure => omega
        | false =>
          have hex : (s.extract k (k + 1)).data.toList = [s[k]] := extract_one s k hlt
          have HI2 := Lib.hid (HIN.out.skip hlt hsp hse hex)
          have ha := hadd (s.extract k (k + 1)) (by rw [ByteArray.size_extract]; omega)
          rcases Js.isSep_no (by rw [hl]; exact hlt) hse with h0 | ⟨h0, h1⟩ | ⟨h2, h0, h1⟩ | ⟨h2, h0, h1, h3, h4⟩
          · have h226 : ((s[k].toNat : Int) == 226) = false := byte_ne h0
            clear h0 hsp hse hadd hex
            go_wp2
            go_roundg (s.size - (k + 1))
            case rel => exact ⟨k + 1, _, by omega, rfl, by go_num, HI2.out, HBE.out⟩
            case measure => omega
          · have h226 : ((s[k].toNat : Int) == 226) = true := beq_byte h0
            rw [hl] at h1
            clear h0 hsp hse hadd hex
            go_wp2
            go_roundg (s.size - (k + 1))
            case rel => exact ⟨k + 1, _, by omega, rfl, by go_num, HI2.out, HBE.out⟩
            case measure => omega
          · have h226 : ((s[k].toNat : Int) == 226) = true := beq_byte h0
            rw [hl] at h2
            have h1 : s[k + 1] ≠ 128 := h1
            have h128 : ((s[k + 1].toNat : Int) == 128) = false := byte_ne h1
            clear h0 h1 hsp hse hadd hex
            go_wp2
            go_roundg (s.size - (k + 1))
            case rel => exact ⟨k + 1, _, by omega, rfl, by go_num, HI2.out, HBE.out⟩
            case measure => omega
          · have h226 : ((s[k].toNat : Int) == 226) = true := beq_byte h0
            rw [hl] at h2
            have h1 : s[k + 1] = 128 := h1
            have h3 : s[k + 2] ≠ 168 := h3
            have h4 : s[k + 2] ≠ 169 := h4
            have h128 : ((s[k + 1].toNat : Int) == 128) = true := beq_byte h1
            have hbit := sep_bit h3 h4
            clear h0 h1 h3 h4 hsp hse hadd hex
            go_wp2
            go_roundg (s.size - (k + 1))
            case rel => exact ⟨k + 1, _, by omega, rfl, by go_num, HI2.out, HBE.out⟩
            case measure => omega
    · have hk : k = s.size := by omega
      subst hk
      go_wp2
      go_ret
      exact ⟨congrArg (fun o => Ending.returned (.string o)) HIN.out.done, HBE.out⟩

end Go.Proofs.YtlmhpmbgalmpgaaDoor
