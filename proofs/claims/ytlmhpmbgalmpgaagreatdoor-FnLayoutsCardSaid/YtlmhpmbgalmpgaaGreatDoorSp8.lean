/-
  The reference's reader of values.
-/
import Derived.Test.YtlmhpmbgalmpgaaGreatDoorSp7
namespace Go.Proofs.YtlmhpmbgalmpgaaGreatDoor
open Go.RowKit

theorem Rd.split {s : ByteArray} {g : Nat} {w : World} {o : Option (List UInt8)} {e : Ending} {w' : World} (h : Rd s g w o e w') : ∃ n : Nat, e = .returned (.int .i64 (n : Int)) ∧ Rd s g w o (.returned (.int .i64 (n : Int))) w' := by
  cases o with
  | none => obtain ⟨n, b, he, r⟩ := h; exact ⟨n, he, n, b, rfl, r⟩
  | some l => obtain ⟨n, he, r⟩ := h; exact ⟨n, he, n, rfl, r⟩

theorem true_ascii : ∀ p (h : p < (⟨#[116, 114, 117, 101]⟩ : ByteArray).size), (⟨#[116, 114, 117, 101]⟩ : ByteArray)[p].toNat < 128 := by
  intro p h
  match p, h with
  | 0, _ => exact (by decide : (116 : UInt8).toNat < 128)
  | 1, _ => exact (by decide : (114 : UInt8).toNat < 128)
  | 2, _ => exact (by decide : (117 : UInt8).toNat < 128)
  | 3, _ => exact (by decide : (101 : UInt8).toNat < 128)
theorem false_ascii : ∀ p (h : p < (⟨#[102, 97, 108, 115, 101]⟩ : ByteArray).size), (⟨#[102, 97, 108, 115, 101]⟩ : ByteArray)[p].toNat < 128 := by
  intro p h
  match p, h with
  | 0, _ => exact (by decide : (102 : UInt8).toNat < 128)
  | 1, _ => exact (by decide : (97 : UInt8).toNat < 128)
  | 2, _ => exact (by decide : (108 : UInt8).toNat < 128)
  | 3, _ => exact (by decide : (115 : UInt8).toNat < 128)
  | 4, _ => exact (by decide : (101 : UInt8).toNat < 128)
theorem null_ascii : ∀ p (h : p < (⟨#[110, 117, 108, 108]⟩ : ByteArray).size), (⟨#[110, 117, 108, 108]⟩ : ByteArray)[p].toNat < 128 := by
  intro p h
  match p, h with
  | 0, _ => exact (by decide : (110 : UInt8).toNat < 128)
  | 1, _ => exact (by decide : (117 : UInt8).toNat < 128)
  | 2, _ => exact (by decide : (108 : UInt8).toNat < 128)
  | 3, _ => exact (by decide : (108 : UInt8).toNat < 128)

/-- A value by what its first byte is. -/
def valOf (f deep : Nat) (c : UInt8) (l : List UInt8) : Option (List UInt8) :=
  if (c.toNat : Int) == 91 then (if deep < 10000 then arrOf f (deep + 1) l else none)
  else if (c.toNat : Int) == 123 then (if deep < 10000 then objOf f (deep + 1) l else none)
  else if (c.toNat : Int) == 34 then Js.pStr l
  else if (c.toNat : Int) == 116 then Js.pWord [116, 114, 117, 101] (c :: l)
  else if (c.toNat : Int) == 102 then Js.pWord [102, 97, 108, 115, 101] (c :: l)
  else if (c.toNat : Int) == 110 then Js.pWord [110, 117, 108, 108] (c :: l)
  else if (c.toNat : Int) == 45 || dgI (c.toNat : Int) then Js.pNum (c :: l)
  else none

theorem pVal_cons (f deep : Nat) (l l' : List UInt8) (c : UInt8) (h : Js.skip l = c :: l') : Js.pVal (f + 1) deep l = valOf f deep c l' := by
  have hd := dgI_dig (c.toNat : Int) (by omega)
  rw [Int.toNat_natCast] at hd
  rw [Js.pVal, h]
  dsimp only
  unfold valOf arrOf objOf
  simp only [bn, hd]
  by_cases h1 : ((c.toNat : Int) == 91) = true
  · rw [if_pos h1]; exact if_pos h1
  · rw [if_neg h1]
    refine (if_neg h1).trans ?_
    by_cases h2 : ((c.toNat : Int) == 123) = true
    · rw [if_pos h2]; exact if_pos h2
    · rw [if_neg h2]
      refine (if_neg h2).trans ?_
      by_cases h3 : ((c.toNat : Int) == 34) = true
      · rw [if_pos h3]; exact if_pos h3
      · rw [if_neg h3]
        refine (if_neg h3).trans ?_
        by_cases h4 : ((c.toNat : Int) == 116) = true
        · rw [if_pos h4]
          refine (if_pos h4).trans ?_
          rw [Js.pWord.eq_def [116, 114, 117, 101]]
          dsimp only
          rw [if_pos (by rw [bn]; exact h4)]
        · rw [if_neg h4]
          refine (if_neg h4).trans ?_
          by_cases h5 : ((c.toNat : Int) == 102) = true
          · rw [if_pos h5]
            refine (if_pos h5).trans ?_
            rw [Js.pWord.eq_def [102, 97, 108, 115, 101]]
            dsimp only
            rw [if_pos (by rw [bn]; exact h5)]
          · rw [if_neg h5]
            refine (if_neg h5).trans ?_
            by_cases h6 : ((c.toNat : Int) == 110) = true
            · rw [if_pos h6]
              refine (if_pos h6).trans ?_
              rw [Js.pWord.eq_def [110, 117, 108, 108]]
              dsimp only
              rw [if_pos (by rw [bn]; exact h6)]
            · rw [if_neg h6]
              exact if_neg h6

set_option maxRecDepth 100000 in
set_option maxHeartbeats 4000000 in
theorem val_arr_deep (s : ByteArray) (hs : s.size ≤ 1000000) (g : Nat) (f : Nat) (_hV : ∀ f', f' < f + 1 → Vc s g f') (k deep n : Nat) (hk : k ≤ s.size) (hn : n < s.size) (hkn : k ≤ n) (hat : At s n = Js.skip (At s k)) (_hdeep : deep ≤ 10000)
    (_hf : 2 * (s.size - k) + 2 ≤ f + 1) (h91 : ((s[n].toNat : Int) == 91) = true) (hdd : deep = 10000) (w : World) (h : Rs w g s (-1)) :
    Calls Tryz.prog 20 #[.pointer (some ⟨g, 0, none⟩), .int .i64 (k : Int), .int .i64 (deep : Int)] w (Rd s g w (valOf f deep s[n] (At s (n + 1)))) := by
  obtain ⟨c0, c1, f0, f1⟩ := h.cells
  have HE : Hid (valOf f deep s[n] (At s (n + 1)) = none) := by
    show valOf f deep s[n] (At s (n + 1)) = none
    unfold valOf
    rw [if_pos h91]; rw [if_neg (by omega)]
  have HR := Lib.hid h
  have HAT := Lib.hid hat
  clear h hat _hV c1 f0 f1
  go_enter Tryz.func20, Tryz.ntmps20
  go_wp2_with fail
  refine (blankEnd_any s hs (k : Int) k rfl hk w).mono ?_
  rintro e w' ⟨n', rfl, hn', hat', hw'⟩
  subst hw'
  have hnn : n' = n := by
    have h1 := congrArg List.length (hat'.trans HAT.out.symm)
    rw [At_length, At_length] at h1
    omega
  subst hnn
  clear hat'
  go_wp2_with (first | (go_at_call 21; refine (fail_any s g _ n' rfl (Nat.le_of_lt hn) _ HR.out).mono ?_; rintro e w' hrd0; obtain ⟨n2, rfl, hrd⟩ := Rd.split (o := none) hrd0))
  go_ret
  rw [HE.out]
  exact hrd

set_option maxRecDepth 100000 in
set_option maxHeartbeats 4000000 in
theorem val_arr (s : ByteArray) (hs : s.size ≤ 1000000) (g : Nat) (f : Nat) (hV : ∀ f', f' < f + 1 → Vc s g f') (k deep n : Nat) (hk : k ≤ s.size) (hn : n < s.size) (hkn : k ≤ n) (hat : At s n = Js.skip (At s k)) (hdeep : deep ≤ 10000)
    (hf : 2 * (s.size - k) + 2 ≤ f + 1) (h91 : ((s[n].toNat : Int) == 91) = true) (hdd : deep < 10000) (w : World) (h : Rs w g s (-1)) :
    Calls Tryz.prog 20 #[.pointer (some ⟨g, 0, none⟩), .int .i64 (k : Int), .int .i64 (deep : Int)] w (Rd s g w (valOf f deep s[n] (At s (n + 1)))) := by
  obtain ⟨c0, c1, f0, f1⟩ := h.cells
  have HE : Hid (valOf f deep s[n] (At s (n + 1)) = arrOf f (deep + 1) (At s (n + 1))) := by
    show valOf f deep s[n] (At s (n + 1)) = arrOf f (deep + 1) (At s (n + 1))
    unfold valOf
    rw [if_pos h91]; rw [if_pos hdd]
  have hc := array_any s hs g f (fun f' h' => hV f' (by omega)) (n : Int) ((deep : Int) + 1) n (deep + 1) rfl (by omega) hn (by omega) (by omega) w h
  have HC := Lib.hid hc
  clear hc
  have HR := Lib.hid h
  have HAT := Lib.hid hat
  clear h hat hV c1 f0 f1
  go_enter Tryz.func20, Tryz.ntmps20
  go_wp2_with fail
  refine (blankEnd_any s hs (k : Int) k rfl hk w).mono ?_
  rintro e w' ⟨n', rfl, hn', hat', hw'⟩
  subst hw'
  have hnn : n' = n := by
    have h1 := congrArg List.length (hat'.trans HAT.out.symm)
    rw [At_length, At_length] at h1
    omega
  subst hnn
  clear hat'
  go_wp2_with (first | (go_at_call 35; refine HC.out.mono ?_; rintro e w' hrd0; obtain ⟨n2, rfl, hrd⟩ := Rd.split hrd0))
  go_ret
  rw [HE.out]
  exact hrd

set_option maxRecDepth 100000 in
set_option maxHeartbeats 4000000 in
theorem val_obj_deep (s : ByteArray) (hs : s.size ≤ 1000000) (g : Nat) (f : Nat) (_hV : ∀ f', f' < f + 1 → Vc s g f') (k deep n : Nat) (hk : k ≤ s.size) (hn : n < s.size) (hkn : k ≤ n) (hat : At s n = Js.skip (At s k)) (_hdeep : deep ≤ 10000)
    (_hf : 2 * (s.size - k) + 2 ≤ f + 1) (h91 : ((s[n].toNat : Int) == 91) = false) (h123 : ((s[n].toNat : Int) == 123) = true) (hdd : deep = 10000) (w : World) (h : Rs w g s (-1)) :
    Calls Tryz.prog 20 #[.pointer (some ⟨g, 0, none⟩), .int .i64 (k : Int), .int .i64 (deep : Int)] w (Rd s g w (valOf f deep s[n] (At s (n + 1)))) := by
  obtain ⟨c0, c1, f0, f1⟩ := h.cells
  have HE : Hid (valOf f deep s[n] (At s (n + 1)) = none) := by
    show valOf f deep s[n] (At s (n + 1)) = none
    unfold valOf
    rw [if_neg (by rw [h91]; decide)]; rw [if_pos h123]; rw [if_neg (by omega)]
  have HR := Lib.hid h
  have HAT := Lib.hid hat
  clear h hat _hV c1 f0 f1
  go_enter Tryz.func20, Tryz.ntmps20
  go_wp2_with fail
  refine (blankEnd_any s hs (k : Int) k rfl hk w).mono ?_
  rintro e w' ⟨n', rfl, hn', hat', hw'⟩
  subst hw'
  have hnn : n' = n := by
    have h1 := congrArg List.length (hat'.trans HAT.out.symm)
    rw [At_length, At_length] at h1
    omega
  subst hnn
  clear hat'
  go_wp2_with (first | (go_at_call 21; refine (fail_any s g _ n' rfl (Nat.le_of_lt hn) _ HR.out).mono ?_; rintro e w' hrd0; obtain ⟨n2, rfl, hrd⟩ := Rd.split (o := none) hrd0))
  go_ret
  rw [HE.out]
  exact hrd

set_option maxRecDepth 100000 in
set_option maxHeartbeats 4000000 in
theorem val_obj (s : ByteArray) (hs : s.size ≤ 1000000) (g : Nat) (f : Nat) (hV : ∀ f', f' < f + 1 → Vc s g f') (k deep n : Nat) (hk : k ≤ s.size) (hn : n < s.size) (hkn : k ≤ n) (hat : At s n = Js.skip (At s k)) (hdeep : deep ≤ 10000)
    (hf : 2 * (s.size - k) + 2 ≤ f + 1) (h91 : ((s[n].toNat : Int) == 91) = false) (h123 : ((s[n].toNat : Int) == 123) = true) (hdd : deep < 10000) (w : World) (h : Rs w g s (-1)) :
    Calls Tryz.prog 20 #[.pointer (some ⟨g, 0, none⟩), .int .i64 (k : Int), .int .i64 (deep : Int)] w (Rd s g w (valOf f deep s[n] (At s (n + 1)))) := by
  obtain ⟨c0, c1, f0, f1⟩ := h.cells
  have HE : Hid (valOf f deep s[n] (At s (n + 1)) = objOf f (deep + 1) (At s (n + 1))) := by
    show valOf f deep s[n] (At s (n + 1)) = objOf f (deep + 1) (At s (n + 1))
    unfold valOf
    rw [if_neg (by rw [h91]; decide)]; rw [if_pos h123]; rw [if_pos hdd]
  have hc := object_any s hs g f (fun f' h' => hV f' (by omega)) (n : Int) ((deep : Int) + 1) n (deep + 1) rfl (by omega) hn (by omega) (by omega) w h
  have HC := Lib.hid hc
  clear hc
  have HR := Lib.hid h
  have HAT := Lib.hid hat
  clear h hat hV c1 f0 f1
  go_enter Tryz.func20, Tryz.ntmps20
  go_wp2_with fail
  refine (blankEnd_any s hs (k : Int) k rfl hk w).mono ?_
  rintro e w' ⟨n', rfl, hn', hat', hw'⟩
  subst hw'
  have hnn : n' = n := by
    have h1 := congrArg List.length (hat'.trans HAT.out.symm)
    rw [At_length, At_length] at h1
    omega
  subst hnn
  clear hat'
  go_wp2_with (first | (go_at_call 36; refine HC.out.mono ?_; rintro e w' hrd0; obtain ⟨n2, rfl, hrd⟩ := Rd.split hrd0))
  go_ret
  rw [HE.out]
  exact hrd

set_option maxRecDepth 100000 in
set_option maxHeartbeats 4000000 in
theorem val_str (s : ByteArray) (hs : s.size ≤ 1000000) (g : Nat) (f : Nat) (_hV : ∀ f', f' < f + 1 → Vc s g f') (k deep n : Nat) (hk : k ≤ s.size) (hn : n < s.size) (hkn : k ≤ n) (hat : At s n = Js.skip (At s k)) (_hdeep : deep ≤ 10000)
    (_hf : 2 * (s.size - k) + 2 ≤ f + 1) (h91 : ((s[n].toNat : Int) == 91) = false) (h123 : ((s[n].toNat : Int) == 123) = false) (h34 : ((s[n].toNat : Int) == 34) = true) (w : World) (h : Rs w g s (-1)) :
    Calls Tryz.prog 20 #[.pointer (some ⟨g, 0, none⟩), .int .i64 (k : Int), .int .i64 (deep : Int)] w (Rd s g w (valOf f deep s[n] (At s (n + 1)))) := by
  obtain ⟨c0, c1, f0, f1⟩ := h.cells
  have HE : Hid (valOf f deep s[n] (At s (n + 1)) = Js.pStr (At s (n + 1))) := by
    show valOf f deep s[n] (At s (n + 1)) = Js.pStr (At s (n + 1))
    unfold valOf
    rw [if_neg (by rw [h91]; decide)]; rw [if_neg (by rw [h123]; decide)]; rw [if_pos h34]
  have hc := text_any s hs g (n : Int) n rfl hn w h
  have HC := Lib.hid hc
  clear hc
  have HR := Lib.hid h
  have HAT := Lib.hid hat
  clear h hat _hV c1 f0 f1
  go_enter Tryz.func20, Tryz.ntmps20
  go_wp2_with fail
  refine (blankEnd_any s hs (k : Int) k rfl hk w).mono ?_
  rintro e w' ⟨n', rfl, hn', hat', hw'⟩
  subst hw'
  have hnn : n' = n := by
    have h1 := congrArg List.length (hat'.trans HAT.out.symm)
    rw [At_length, At_length] at h1
    omega
  subst hnn
  clear hat'
  go_wp2_with (first | (go_at_call 37; refine HC.out.mono ?_; rintro e w' hrd0; obtain ⟨n2, rfl, hrd⟩ := Rd.split hrd0))
  go_ret
  rw [HE.out]
  exact hrd

set_option maxRecDepth 100000 in
set_option maxHeartbeats 4000000 in
theorem val_true (s : ByteArray) (hs : s.size ≤ 1000000) (g : Nat) (f : Nat) (_hV : ∀ f', f' < f + 1 → Vc s g f') (k deep n : Nat) (hk : k ≤ s.size) (hn : n < s.size) (hkn : k ≤ n) (hat : At s n = Js.skip (At s k)) (_hdeep : deep ≤ 10000)
    (_hf : 2 * (s.size - k) + 2 ≤ f + 1) (h91 : ((s[n].toNat : Int) == 91) = false) (h123 : ((s[n].toNat : Int) == 123) = false) (h34 : ((s[n].toNat : Int) == 34) = false) (h116 : ((s[n].toNat : Int) == 116) = true) (w : World) (h : Rs w g s (-1)) :
    Calls Tryz.prog 20 #[.pointer (some ⟨g, 0, none⟩), .int .i64 (k : Int), .int .i64 (deep : Int)] w (Rd s g w (valOf f deep s[n] (At s (n + 1)))) := by
  obtain ⟨c0, c1, f0, f1⟩ := h.cells
  have HE : Hid (valOf f deep s[n] (At s (n + 1)) = Js.pWord [116, 114, 117, 101] (At s n)) := by
    show valOf f deep s[n] (At s (n + 1)) = Js.pWord [116, 114, 117, 101] (At s n)
    unfold valOf
    rw [if_neg (by rw [h91]; decide)]; rw [if_neg (by rw [h123]; decide)]; rw [if_neg (by rw [h34]; decide)]; rw [if_pos h116]; rw [← At_cons s n hn]
  have hc := word_any s hs ⟨#[116, 114, 117, 101]⟩ (by decide) true_ascii g (n : Int) n rfl (Nat.le_of_lt hn) w h
  rw [show wordOf ⟨#[116, 114, 117, 101]⟩ = [116, 114, 117, 101] from rfl] at hc
  have HC := Lib.hid hc
  clear hc
  have HR := Lib.hid h
  have HAT := Lib.hid hat
  clear h hat _hV c1 f0 f1
  go_enter Tryz.func20, Tryz.ntmps20
  go_wp2_with fail
  refine (blankEnd_any s hs (k : Int) k rfl hk w).mono ?_
  rintro e w' ⟨n', rfl, hn', hat', hw'⟩
  subst hw'
  have hnn : n' = n := by
    have h1 := congrArg List.length (hat'.trans HAT.out.symm)
    rw [At_length, At_length] at h1
    omega
  subst hnn
  clear hat'
  go_wp2_with (first | (go_at_call 38; refine HC.out.mono ?_; rintro e w' hrd0; obtain ⟨n2, rfl, hrd⟩ := Rd.split hrd0))
  go_ret
  rw [HE.out]
  exact hrd

set_option maxRecDepth 100000 in
set_option maxHeartbeats 4000000 in
theorem val_false (s : ByteArray) (hs : s.size ≤ 1000000) (g : Nat) (f : Nat) (_hV : ∀ f', f' < f + 1 → Vc s g f') (k deep n : Nat) (hk : k ≤ s.size) (hn : n < s.size) (hkn : k ≤ n) (hat : At s n = Js.skip (At s k)) (_hdeep : deep ≤ 10000)
    (_hf : 2 * (s.size - k) + 2 ≤ f + 1) (h91 : ((s[n].toNat : Int) == 91) = false) (h123 : ((s[n].toNat : Int) == 123) = false) (h34 : ((s[n].toNat : Int) == 34) = false) (h116 : ((s[n].toNat : Int) == 116) = false) (h102 : ((s[n].toNat : Int) == 102) = true) (w : World) (h : Rs w g s (-1)) :
    Calls Tryz.prog 20 #[.pointer (some ⟨g, 0, none⟩), .int .i64 (k : Int), .int .i64 (deep : Int)] w (Rd s g w (valOf f deep s[n] (At s (n + 1)))) := by
  obtain ⟨c0, c1, f0, f1⟩ := h.cells
  have HE : Hid (valOf f deep s[n] (At s (n + 1)) = Js.pWord [102, 97, 108, 115, 101] (At s n)) := by
    show valOf f deep s[n] (At s (n + 1)) = Js.pWord [102, 97, 108, 115, 101] (At s n)
    unfold valOf
    rw [if_neg (by rw [h91]; decide)]; rw [if_neg (by rw [h123]; decide)]; rw [if_neg (by rw [h34]; decide)]; rw [if_neg (by rw [h116]; decide)]; rw [if_pos h102]; rw [← At_cons s n hn]
  have hc := word_any s hs ⟨#[102, 97, 108, 115, 101]⟩ (by decide) false_ascii g (n : Int) n rfl (Nat.le_of_lt hn) w h
  rw [show wordOf ⟨#[102, 97, 108, 115, 101]⟩ = [102, 97, 108, 115, 101] from rfl] at hc
  have HC := Lib.hid hc
  clear hc
  have HR := Lib.hid h
  have HAT := Lib.hid hat
  clear h hat _hV c1 f0 f1
  go_enter Tryz.func20, Tryz.ntmps20
  go_wp2_with fail
  refine (blankEnd_any s hs (k : Int) k rfl hk w).mono ?_
  rintro e w' ⟨n', rfl, hn', hat', hw'⟩
  subst hw'
  have hnn : n' = n := by
    have h1 := congrArg List.length (hat'.trans HAT.out.symm)
    rw [At_length, At_length] at h1
    omega
  subst hnn
  clear hat'
  go_wp2_with (first | (go_at_call 38; refine HC.out.mono ?_; rintro e w' hrd0; obtain ⟨n2, rfl, hrd⟩ := Rd.split hrd0))
  go_ret
  rw [HE.out]
  exact hrd

set_option maxRecDepth 100000 in
set_option maxHeartbeats 4000000 in
theorem val_null (s : ByteArray) (hs : s.size ≤ 1000000) (g : Nat) (f : Nat) (_hV : ∀ f', f' < f + 1 → Vc s g f') (k deep n : Nat) (hk : k ≤ s.size) (hn : n < s.size) (hkn : k ≤ n) (hat : At s n = Js.skip (At s k)) (_hdeep : deep ≤ 10000)
    (_hf : 2 * (s.size - k) + 2 ≤ f + 1) (h91 : ((s[n].toNat : Int) == 91) = false) (h123 : ((s[n].toNat : Int) == 123) = false) (h34 : ((s[n].toNat : Int) == 34) = false) (h116 : ((s[n].toNat : Int) == 116) = false) (h102 : ((s[n].toNat : Int) == 102) = false) (h110 : ((s[n].toNat : Int) == 110) = true) (w : World) (h : Rs w g s (-1)) :
    Calls Tryz.prog 20 #[.pointer (some ⟨g, 0, none⟩), .int .i64 (k : Int), .int .i64 (deep : Int)] w (Rd s g w (valOf f deep s[n] (At s (n + 1)))) := by
  obtain ⟨c0, c1, f0, f1⟩ := h.cells
  have HE : Hid (valOf f deep s[n] (At s (n + 1)) = Js.pWord [110, 117, 108, 108] (At s n)) := by
    show valOf f deep s[n] (At s (n + 1)) = Js.pWord [110, 117, 108, 108] (At s n)
    unfold valOf
    rw [if_neg (by rw [h91]; decide)]; rw [if_neg (by rw [h123]; decide)]; rw [if_neg (by rw [h34]; decide)]; rw [if_neg (by rw [h116]; decide)]; rw [if_neg (by rw [h102]; decide)]; rw [if_pos h110]; rw [← At_cons s n hn]
  have hc := word_any s hs ⟨#[110, 117, 108, 108]⟩ (by decide) null_ascii g (n : Int) n rfl (Nat.le_of_lt hn) w h
  rw [show wordOf ⟨#[110, 117, 108, 108]⟩ = [110, 117, 108, 108] from rfl] at hc
  have HC := Lib.hid hc
  clear hc
  have HR := Lib.hid h
  have HAT := Lib.hid hat
  clear h hat _hV c1 f0 f1
  go_enter Tryz.func20, Tryz.ntmps20
  go_wp2_with fail
  refine (blankEnd_any s hs (k : Int) k rfl hk w).mono ?_
  rintro e w' ⟨n', rfl, hn', hat', hw'⟩
  subst hw'
  have hnn : n' = n := by
    have h1 := congrArg List.length (hat'.trans HAT.out.symm)
    rw [At_length, At_length] at h1
    omega
  subst hnn
  clear hat'
  go_wp2_with (first | (go_at_call 38; refine HC.out.mono ?_; rintro e w' hrd0; obtain ⟨n2, rfl, hrd⟩ := Rd.split hrd0))
  go_ret
  rw [HE.out]
  exact hrd

set_option maxRecDepth 100000 in
set_option maxHeartbeats 4000000 in
theorem val_neg (s : ByteArray) (hs : s.size ≤ 1000000) (g : Nat) (f : Nat) (_hV : ∀ f', f' < f + 1 → Vc s g f') (k deep n : Nat) (hk : k ≤ s.size) (hn : n < s.size) (hkn : k ≤ n) (hat : At s n = Js.skip (At s k)) (_hdeep : deep ≤ 10000)
    (_hf : 2 * (s.size - k) + 2 ≤ f + 1) (h91 : ((s[n].toNat : Int) == 91) = false) (h123 : ((s[n].toNat : Int) == 123) = false) (h34 : ((s[n].toNat : Int) == 34) = false) (h116 : ((s[n].toNat : Int) == 116) = false) (h102 : ((s[n].toNat : Int) == 102) = false) (h110 : ((s[n].toNat : Int) == 110) = false) (h45 : ((s[n].toNat : Int) == 45) = true) (w : World) (h : Rs w g s (-1)) :
    Calls Tryz.prog 20 #[.pointer (some ⟨g, 0, none⟩), .int .i64 (k : Int), .int .i64 (deep : Int)] w (Rd s g w (valOf f deep s[n] (At s (n + 1)))) := by
  obtain ⟨c0, c1, f0, f1⟩ := h.cells
  have HE : Hid (valOf f deep s[n] (At s (n + 1)) = Js.pNum (At s n)) := by
    show valOf f deep s[n] (At s (n + 1)) = Js.pNum (At s n)
    unfold valOf
    rw [if_neg (by rw [h91]; decide)]; rw [if_neg (by rw [h123]; decide)]; rw [if_neg (by rw [h34]; decide)]; rw [if_neg (by rw [h116]; decide)]; rw [if_neg (by rw [h102]; decide)]; rw [if_neg (by rw [h110]; decide)]; rw [h45, ← At_cons s n hn]; rfl
  have hc := number_any s hs g (n : Int) n rfl hn w h
  have HC := Lib.hid hc
  clear hc
  have HR := Lib.hid h
  have HAT := Lib.hid hat
  clear h hat _hV c1 f0 f1
  go_enter Tryz.func20, Tryz.ntmps20
  go_wp2_with fail
  refine (blankEnd_any s hs (k : Int) k rfl hk w).mono ?_
  rintro e w' ⟨n', rfl, hn', hat', hw'⟩
  subst hw'
  have hnn : n' = n := by
    have h1 := congrArg List.length (hat'.trans HAT.out.symm)
    rw [At_length, At_length] at h1
    omega
  subst hnn
  clear hat'
  go_wp2_with (first | (go_at_call 39; refine (digit_any _ _).mono ?_; rintro e w' ⟨rfl, rfl⟩) | (go_at_call 40; refine HC.out.mono ?_; rintro e w' hrd0; obtain ⟨n2, rfl, hrd⟩ := Rd.split hrd0))
  go_ret
  rw [HE.out]
  exact hrd

set_option maxRecDepth 100000 in
set_option maxHeartbeats 4000000 in
theorem val_dig (s : ByteArray) (hs : s.size ≤ 1000000) (g : Nat) (f : Nat) (_hV : ∀ f', f' < f + 1 → Vc s g f') (k deep n : Nat) (hk : k ≤ s.size) (hn : n < s.size) (hkn : k ≤ n) (hat : At s n = Js.skip (At s k)) (_hdeep : deep ≤ 10000)
    (_hf : 2 * (s.size - k) + 2 ≤ f + 1) (h91 : ((s[n].toNat : Int) == 91) = false) (h123 : ((s[n].toNat : Int) == 123) = false) (h34 : ((s[n].toNat : Int) == 34) = false) (h116 : ((s[n].toNat : Int) == 116) = false) (h102 : ((s[n].toNat : Int) == 102) = false) (h110 : ((s[n].toNat : Int) == 110) = false) (h45 : ((s[n].toNat : Int) == 45) = false) (hd : dgI (s[n].toNat : Int) = true) (w : World) (h : Rs w g s (-1)) :
    Calls Tryz.prog 20 #[.pointer (some ⟨g, 0, none⟩), .int .i64 (k : Int), .int .i64 (deep : Int)] w (Rd s g w (valOf f deep s[n] (At s (n + 1)))) := by
  obtain ⟨c0, c1, f0, f1⟩ := h.cells
  have HE : Hid (valOf f deep s[n] (At s (n + 1)) = Js.pNum (At s n)) := by
    show valOf f deep s[n] (At s (n + 1)) = Js.pNum (At s n)
    unfold valOf
    rw [if_neg (by rw [h91]; decide)]; rw [if_neg (by rw [h123]; decide)]; rw [if_neg (by rw [h34]; decide)]; rw [if_neg (by rw [h116]; decide)]; rw [if_neg (by rw [h102]; decide)]; rw [if_neg (by rw [h110]; decide)]; rw [h45, hd, ← At_cons s n hn]; rfl
  have hc := number_any s hs g (n : Int) n rfl hn w h
  have HC := Lib.hid hc
  clear hc
  have HR := Lib.hid h
  have HAT := Lib.hid hat
  clear h hat _hV c1 f0 f1
  go_enter Tryz.func20, Tryz.ntmps20
  go_wp2_with fail
  refine (blankEnd_any s hs (k : Int) k rfl hk w).mono ?_
  rintro e w' ⟨n', rfl, hn', hat', hw'⟩
  subst hw'
  have hnn : n' = n := by
    have h1 := congrArg List.length (hat'.trans HAT.out.symm)
    rw [At_length, At_length] at h1
    omega
  subst hnn
  clear hat'
  go_wp2_with (first | (go_at_call 39; refine (digit_any _ _).mono ?_; rintro e w' ⟨rfl, rfl⟩) | (go_at_call 40; refine HC.out.mono ?_; rintro e w' hrd0; obtain ⟨n2, rfl, hrd⟩ := Rd.split hrd0))
  go_ret
  rw [HE.out]
  exact hrd

set_option maxRecDepth 100000 in
set_option maxHeartbeats 4000000 in
theorem val_no (s : ByteArray) (hs : s.size ≤ 1000000) (g : Nat) (f : Nat) (_hV : ∀ f', f' < f + 1 → Vc s g f') (k deep n : Nat) (hk : k ≤ s.size) (hn : n < s.size) (hkn : k ≤ n) (hat : At s n = Js.skip (At s k)) (_hdeep : deep ≤ 10000)
    (_hf : 2 * (s.size - k) + 2 ≤ f + 1) (h91 : ((s[n].toNat : Int) == 91) = false) (h123 : ((s[n].toNat : Int) == 123) = false) (h34 : ((s[n].toNat : Int) == 34) = false) (h116 : ((s[n].toNat : Int) == 116) = false) (h102 : ((s[n].toNat : Int) == 102) = false) (h110 : ((s[n].toNat : Int) == 110) = false) (h45 : ((s[n].toNat : Int) == 45) = false) (hd : dgI (s[n].toNat : Int) = false) (w : World) (h : Rs w g s (-1)) :
    Calls Tryz.prog 20 #[.pointer (some ⟨g, 0, none⟩), .int .i64 (k : Int), .int .i64 (deep : Int)] w (Rd s g w (valOf f deep s[n] (At s (n + 1)))) := by
  obtain ⟨c0, c1, f0, f1⟩ := h.cells
  have HE : Hid (valOf f deep s[n] (At s (n + 1)) = none) := by
    show valOf f deep s[n] (At s (n + 1)) = none
    unfold valOf
    rw [if_neg (by rw [h91]; decide)]; rw [if_neg (by rw [h123]; decide)]; rw [if_neg (by rw [h34]; decide)]; rw [if_neg (by rw [h116]; decide)]; rw [if_neg (by rw [h102]; decide)]; rw [if_neg (by rw [h110]; decide)]; rw [h45, hd]; rfl
  have HR := Lib.hid h
  have HAT := Lib.hid hat
  clear h hat _hV c1 f0 f1
  go_enter Tryz.func20, Tryz.ntmps20
  go_wp2_with fail
  refine (blankEnd_any s hs (k : Int) k rfl hk w).mono ?_
  rintro e w' ⟨n', rfl, hn', hat', hw'⟩
  subst hw'
  have hnn : n' = n := by
    have h1 := congrArg List.length (hat'.trans HAT.out.symm)
    rw [At_length, At_length] at h1
    omega
  subst hnn
  clear hat'
  go_wp2_with (first | (go_at_call 39; refine (digit_any _ _).mono ?_; rintro e w' ⟨rfl, rfl⟩) | (go_at_call 21; refine (fail_any s g _ n' rfl (Nat.le_of_lt hn) _ HR.out).mono ?_; rintro e w' hrd0; obtain ⟨n2, rfl, hrd⟩ := Rd.split (o := none) hrd0))
  go_ret
  rw [HE.out]
  exact hrd

set_option maxRecDepth 100000 in
set_option maxHeartbeats 4000000 in
theorem val_end (s : ByteArray) (hs : s.size ≤ 1000000) (g : Nat) (k deep : Nat) (hk : k ≤ s.size) (hat : Js.skip (At s k) = []) (w : World) (h : Rs w g s (-1)) :
    Calls Tryz.prog 20 #[.pointer (some ⟨g, 0, none⟩), .int .i64 (k : Int), .int .i64 (deep : Int)] w (No s g w) := by
  obtain ⟨c0, c1, f0, f1⟩ := h.cells
  have HR := Lib.hid h
  have HAT := Lib.hid hat
  clear h hat c1 f0 f1
  go_enter Tryz.func20, Tryz.ntmps20
  go_wp2_with fail
  refine (blankEnd_any s hs (k : Int) k rfl hk w).mono ?_
  rintro e w' ⟨n, rfl, hn, hat', hw'⟩
  subst hw'
  have hne : n = s.size := At_nil hn (hat'.trans HAT.out)
  subst hne
  clear hat'
  go_wp2_with (first | (go_at_call 21; refine (fail_any s g _ s.size rfl (Nat.le_refl _) _ HR.out).mono ?_; rintro e w' ⟨n2, b, rfl, hn2, hr2, ho2⟩))
  go_ret
  exact ⟨n2, b, rfl, hn2, hr2, ho2⟩

theorem value_any (s : ByteArray) (hs : s.size ≤ 1000000) (g : Nat) (F : Nat) : Vc s g F := by
  induction F using Nat.strongRecOn with
  | ind F hV =>
    intro a d k deep ha hd hk hdeep hF w h
    subst ha hd
    obtain ⟨f, rfl⟩ : ∃ f, F = f + 1 := ⟨F - 1, by omega⟩
    cases hat : Js.skip (At s k) with
    | nil =>
      have he : Js.pVal (f + 1) deep (At s k) = none := by rw [Js.pVal, hat]
      rw [he]
      exact val_end s hs g k deep hk hat w h
    | cons c l' =>
      rw [pVal_cons f deep _ _ _ hat]
      have hle := Js.skip_le (At s k)
      rw [hat, At_length] at hle
      simp only [List.length_cons] at hle
      obtain ⟨n, hn, hkn, hatn⟩ : ∃ n, n < s.size ∧ k ≤ n ∧ At s n = c :: l' := by
        have hsuf : ∀ l : List UInt8, ∃ m, Js.skip l = l.drop m := by
          intro l
          induction l with
          | nil => exact ⟨0, rfl⟩
          | cons x l ih =>
            simp only [Js.skip]
            split
            · obtain ⟨m, hm⟩ := ih; exact ⟨m + 1, hm⟩
            · exact ⟨0, rfl⟩
        obtain ⟨m, hm⟩ := hsuf (At s k)
        have hdrop : At s (k + m) = c :: l' := by
          rw [← hat, hm]
          unfold At
          rw [List.drop_drop]
        obtain ⟨hlt, _, _⟩ := At_inj hdrop
        exact ⟨k + m, hlt, by omega, hdrop⟩
      obtain ⟨_, hc, hl⟩ := At_inj hatn
      subst hc hl
      have hat2 : At s n = Js.skip (At s k) := by rw [hat]; exact At_cons s n hn
      rcases beq_or' (s[n].toNat : Int) 91 with h91 | h91
      · by_cases hdd : deep < 10000
        · exact val_arr s hs g f hV k deep n hk hn hkn hat2 hdeep hF h91 hdd w h
        · exact val_arr_deep s hs g f hV k deep n hk hn hkn hat2 hdeep hF h91 (by omega) w h
      rcases beq_or' (s[n].toNat : Int) 123 with h123 | h123
      · by_cases hdd : deep < 10000
        · exact val_obj s hs g f hV k deep n hk hn hkn hat2 hdeep hF h91 h123 hdd w h
        · exact val_obj_deep s hs g f hV k deep n hk hn hkn hat2 hdeep hF h91 h123 (by omega) w h
      rcases beq_or' (s[n].toNat : Int) 34 with h34 | h34
      · exact val_str s hs g f hV k deep n hk hn hkn hat2 hdeep hF h91 h123 h34 w h
      rcases beq_or' (s[n].toNat : Int) 116 with h116 | h116
      · exact val_true s hs g f hV k deep n hk hn hkn hat2 hdeep hF h91 h123 h34 h116 w h
      rcases beq_or' (s[n].toNat : Int) 102 with h102 | h102
      · exact val_false s hs g f hV k deep n hk hn hkn hat2 hdeep hF h91 h123 h34 h116 h102 w h
      rcases beq_or' (s[n].toNat : Int) 110 with h110 | h110
      · exact val_null s hs g f hV k deep n hk hn hkn hat2 hdeep hF h91 h123 h34 h116 h102 h110 w h
      rcases beq_or' (s[n].toNat : Int) 45 with h45 | h45
      · exact val_neg s hs g f hV k deep n hk hn hkn hat2 hdeep hF h91 h123 h34 h116 h102 h110 h45 w h
      cases hd : dgI (s[n].toNat : Int) with
      | true => exact val_dig s hs g f hV k deep n hk hn hkn hat2 hdeep hF h91 h123 h34 h116 h102 h110 h45 hd w h
      | false => exact val_no s hs g f hV k deep n hk hn hkn hat2 hdeep hF h91 h123 h34 h116 h102 h110 h45 hd w h

end Go.Proofs.YtlmhpmbgalmpgaaGreatDoor
