/-
  spec.pieceEnd: where a token ends.
-/
import Derived.Test.YtlmhpmbgalmpgaaGreatDoorSp9
import Derived.Test.YtlmhpmbgalmpgaaGreatDoorPl8
namespace Go.Proofs.YtlmhpmbgalmpgaaGreatDoor
open Go.RowKit

/-- What pieceEnd comes to: what stands behind the token. -/
def Pc (s : ByteArray) (k : Nat) (w : World) (e : Ending) (w' : World) : Prop :=
  ∃ n : Nat, e = .returned (.int .i64 (n : Int)) ∧ n ≤ s.size ∧ At s n = (Js.piece (At s k)).2 ∧ Below w.heap.size w w'

theorem byte_no {c n : UInt8} (h : c ≠ n) : ((c.toNat : Int) == (n.toNat : Int)) = false := by
  rw [beq_eq_false_iff_ne]
  exact fun e => h (UInt8.toNat_inj.1 (by omega))
theorem byte_yes {c n : UInt8} (h : c = n) : ((c.toNat : Int) == (n.toNat : Int)) = true := by rw [h]; simp

theorem struc_cases {c : UInt8} (h : Js.struc c = true) : c = 91 ∨ c = 93 ∨ c = 123 ∨ c = 125 ∨ c = 44 ∨ c = 58 := by
  simp only [Js.struc, Bool.or_eq_true, beq_iff_eq] at h
  rcases h with ((((h | h) | h) | h) | h) | h <;> simp [h]

theorem struc_not {c : UInt8} (h : Js.struc c = false) : c ≠ 91 ∧ c ≠ 93 ∧ c ≠ 123 ∧ c ≠ 125 ∧ c ≠ 44 ∧ c ≠ 58 := by
  simp only [Js.struc, Bool.or_eq_false_iff, beq_eq_false_iff_ne] at h
  obtain ⟨⟨⟨⟨⟨h1, h2⟩, h3⟩, h4⟩, h5⟩, h6⟩ := h
  exact ⟨h1, h2, h3, h4, h5, h6⟩

set_option maxRecDepth 100000 in
set_option maxHeartbeats 4000000 in
theorem piece_str (s : ByteArray) (hs : s.size ≤ 1000000) (k : Nat) (hk : k < s.size) (h : s[k] = 34) (r : List UInt8) (hp : Js.pStr (At s (k + 1)) = some r) (w : World) :
    Calls Tryz.prog 23 #[.string s, .int .i64 (k : Int)] w (Pc s k w) := by
  have hb : ((s[k].toNat : Int) == 34) = true := byte_yes h
  have hR : Rs (w.alloc (.cells #[.string s, .int .i64 (-1)] 53)) w.heap.size s (-1) := heap_alloc_new w _
  have hT := text_any s hs w.heap.size k k rfl hk _ hR
  rw [hp] at hT
  have HT := Lib.hid hT
  have HP : Hid ((Js.piece (At s k)).2 = r) := by
    show (Js.piece (At s k)).2 = r
    rw [At_cons s k hk, h]
    simp [Js.piece, hp]
  clear hT hR hp h
  go_enter Tryz.func23, Tryz.ntmps23
  go_wp2_with fail
  refine HT.out.mono ?_
  rintro e w2 ⟨n, rfl, hn, hat, _, ho⟩
  go_wp2
  go_ret
  exact ⟨n, rfl, hn, by rw [hat, HP.out], ((Below.refl _ w).alloc (Nat.le_refl _) _).grown ho (by simp) (fun k hk => by simp at hk; omega)⟩

set_option maxRecDepth 100000 in
set_option maxHeartbeats 4000000 in
theorem piece_one (s : ByteArray) (hs : s.size ≤ 1000000) (k : Nat) (hk : k < s.size) (h : Js.struc s[k] = true) (w : World) :
    Calls Tryz.prog 23 #[.string s, .int .i64 (k : Int)] w (Pc s k w) := by
  have HP : Hid (At s (k + 1) = (Js.piece (At s k)).2) := by
    show At s (k + 1) = (Js.piece (At s k)).2
    rw [At_cons s k hk]
    have h34 : (s[k] == 34) = false := by
      rw [beq_eq_false_iff_ne]
      intro e
      rw [e] at h
      revert h; decide
    simp [Js.piece, h34, h]
  have hcs := struc_cases h
  clear h
  rcases hcs with h | h | h | h | h | h
  · have hb0 : ((s[k].toNat : Int) == 34) = false := by rw [h]; rfl
    have q91 : ((s[k].toNat : Int) == 91) = true := by rw [h]; rfl
    clear h
    go_enter Tryz.func23, Tryz.ntmps23
    go_wp2
    go_ret
    exact ⟨k + 1, by go_num, hk, HP.out, Below.refl _ _⟩
  · have hb0 : ((s[k].toNat : Int) == 34) = false := by rw [h]; rfl
    have q91 : ((s[k].toNat : Int) == 91) = false := by rw [h]; rfl
    have q93 : ((s[k].toNat : Int) == 93) = true := by rw [h]; rfl
    clear h
    go_enter Tryz.func23, Tryz.ntmps23
    go_wp2
    go_ret
    exact ⟨k + 1, by go_num, hk, HP.out, Below.refl _ _⟩
  · have hb0 : ((s[k].toNat : Int) == 34) = false := by rw [h]; rfl
    have q91 : ((s[k].toNat : Int) == 91) = false := by rw [h]; rfl
    have q93 : ((s[k].toNat : Int) == 93) = false := by rw [h]; rfl
    have q123 : ((s[k].toNat : Int) == 123) = true := by rw [h]; rfl
    clear h
    go_enter Tryz.func23, Tryz.ntmps23
    go_wp2
    go_ret
    exact ⟨k + 1, by go_num, hk, HP.out, Below.refl _ _⟩
  · have hb0 : ((s[k].toNat : Int) == 34) = false := by rw [h]; rfl
    have q91 : ((s[k].toNat : Int) == 91) = false := by rw [h]; rfl
    have q93 : ((s[k].toNat : Int) == 93) = false := by rw [h]; rfl
    have q123 : ((s[k].toNat : Int) == 123) = false := by rw [h]; rfl
    have q125 : ((s[k].toNat : Int) == 125) = true := by rw [h]; rfl
    clear h
    go_enter Tryz.func23, Tryz.ntmps23
    go_wp2
    go_ret
    exact ⟨k + 1, by go_num, hk, HP.out, Below.refl _ _⟩
  · have hb0 : ((s[k].toNat : Int) == 34) = false := by rw [h]; rfl
    have q91 : ((s[k].toNat : Int) == 91) = false := by rw [h]; rfl
    have q93 : ((s[k].toNat : Int) == 93) = false := by rw [h]; rfl
    have q123 : ((s[k].toNat : Int) == 123) = false := by rw [h]; rfl
    have q125 : ((s[k].toNat : Int) == 125) = false := by rw [h]; rfl
    have q44 : ((s[k].toNat : Int) == 44) = true := by rw [h]; rfl
    clear h
    go_enter Tryz.func23, Tryz.ntmps23
    go_wp2
    go_ret
    exact ⟨k + 1, by go_num, hk, HP.out, Below.refl _ _⟩
  · have hb0 : ((s[k].toNat : Int) == 34) = false := by rw [h]; rfl
    have q91 : ((s[k].toNat : Int) == 91) = false := by rw [h]; rfl
    have q93 : ((s[k].toNat : Int) == 93) = false := by rw [h]; rfl
    have q123 : ((s[k].toNat : Int) == 123) = false := by rw [h]; rfl
    have q125 : ((s[k].toNat : Int) == 125) = false := by rw [h]; rfl
    have q44 : ((s[k].toNat : Int) == 44) = false := by rw [h]; rfl
    have q58 : ((s[k].toNat : Int) == 58) = true := by rw [h]; rfl
    clear h
    go_enter Tryz.func23, Tryz.ntmps23
    go_wp2
    go_ret
    exact ⟨k + 1, by go_num, hk, HP.out, Below.refl _ _⟩

theorem dl_yes {c : UInt8} (h : Js.dl c = true) : spI (c.toNat : Int) = true ∨ (spI (c.toNat : Int) = false ∧ (c = 44 ∨ c = 93 ∨ c = 125)) := by
  have e : spI (c.toNat : Int) = Js.sp c.toNat := (spI_sp (c.toNat : Int) (by omega)).symm
  rw [e]
  simp only [Js.dl, Bool.or_eq_true, beq_iff_eq] at h
  cases hs : Js.sp c.toNat with
  | true => exact .inl rfl
  | false =>
    rw [hs] at h
    rcases h with ((h | h) | h) | h
    · cases h
    · exact .inr ⟨rfl, .inl h⟩
    · exact .inr ⟨rfl, .inr (.inl h)⟩
    · exact .inr ⟨rfl, .inr (.inr h)⟩

set_option maxRecDepth 100000 in
set_option maxHeartbeats 4000000 in
theorem piece_word (s : ByteArray) (hs : s.size ≤ 1000000) (k : Nat) (hk : k < s.size) (h34 : s[k] ≠ 34) (hc : Js.struc s[k] = false) (w : World) :
    Calls Tryz.prog 23 #[.string s, .int .i64 (k : Int)] w (Pc s k w) := by
  obtain ⟨n1, n2, n3, n4, n5, n6⟩ := struc_not hc
  have HP : Hid ((Js.piece (At s k)).2 = Js.wEnd (At s k)) := by
    show (Js.piece (At s k)).2 = Js.wEnd (At s k)
    rw [At_cons s k hk]
    simp [Js.piece, h34, hc]
  have hb0 : ((s[k].toNat : Int) == 34) = false := byte_no (n := 34) h34
  have q1 : ((s[k].toNat : Int) == 91) = false := byte_no (n := 91) n1
  have q2 : ((s[k].toNat : Int) == 93) = false := byte_no (n := 93) n2
  have q3 : ((s[k].toNat : Int) == 123) = false := byte_no (n := 123) n3
  have q4 : ((s[k].toNat : Int) == 125) = false := byte_no (n := 125) n4
  have q5 : ((s[k].toNat : Int) == 44) = false := byte_no (n := 44) n5
  have q6 : ((s[k].toNat : Int) == 58) = false := byte_no (n := 58) n6
  clear n1 n2 n3 n4 n5 n6 h34 hc
  go_enter Tryz.func23, Tryz.ntmps23
  go_wp2_with fail
  go_loopg [1] (s.size - k) (fun gk i wr => wr = w ∧ ∃ j : Nat, gk + j = s.size ∧ k ≤ j ∧ i = .int .i64 j ∧ Js.wEnd (At s k) = Js.wEnd (At s j))
  case atStart => exact ⟨rfl, k, by omega, by omega, rfl, rfl⟩
  case round =>
    obtain ⟨rfl, j, hgj, hj1, rfl, hps⟩ := hrel
    have hjs : j ≤ s.size := by omega
    have HG := Lib.hid hgj
    have HX := Lib.hid hps
    clear hgj hps q1 q2 q3 q4 q5 q6 hb0
    by_cases hlt : j < s.size
    · have HC := Lib.hid (At_cons s j hlt)
      cases hd : Js.dl s[j] with
      | true =>
        have HE : Hid (Js.wEnd (At s j) = At s j) := by
          show Js.wEnd (At s j) = At s j
          rw [HC.out, Js.wEnd_dl hd]
        rcases dl_yes hd with hsp | ⟨hsp, h | h | h⟩
        · clear hd
          go_wp2_with (first | (go_at_call 27; refine (blank_any _ _).mono ?_; rintro e w' ⟨rfl, rfl⟩))
          go_ret
          exact ⟨j, rfl, hjs, by rw [HP.out, HX.out, HE.out], Below.refl _ _⟩
        · have p1 : ((s[j].toNat : Int) != 44) = false := by rw [h]; rfl
          clear hd h
          go_wp2_with (first | (go_at_call 27; refine (blank_any _ _).mono ?_; rintro e w' ⟨rfl, rfl⟩))
          go_ret
          exact ⟨j, rfl, hjs, by rw [HP.out, HX.out, HE.out], Below.refl _ _⟩
        · have p1 : ((s[j].toNat : Int) != 44) = true := by rw [h]; rfl
          have p2 : ((s[j].toNat : Int) != 93) = false := by rw [h]; rfl
          clear hd h
          go_wp2_with (first | (go_at_call 27; refine (blank_any _ _).mono ?_; rintro e w' ⟨rfl, rfl⟩))
          go_ret
          exact ⟨j, rfl, hjs, by rw [HP.out, HX.out, HE.out], Below.refl _ _⟩
        · have p1 : ((s[j].toNat : Int) != 44) = true := by rw [h]; rfl
          have p2 : ((s[j].toNat : Int) != 93) = true := by rw [h]; rfl
          have p3 : ((s[j].toNat : Int) != 125) = false := by rw [h]; rfl
          clear hd h
          go_wp2_with (first | (go_at_call 27; refine (blank_any _ _).mono ?_; rintro e w' ⟨rfl, rfl⟩))
          go_ret
          exact ⟨j, rfl, hjs, by rw [HP.out, HX.out, HE.out], Below.refl _ _⟩
      | false =>
        have HE : Hid (Js.wEnd (At s j) = Js.wEnd (At s (j + 1))) := by
          show Js.wEnd (At s j) = Js.wEnd (At s (j + 1))
          rw [HC.out, Js.wEnd_cons hd]
        obtain ⟨m1, m2, m3, m4⟩ := Js.dl_false hd
        have hsp : spI (s[j].toNat : Int) = false := (spI_sp (s[j].toNat : Int) (by omega)).symm.trans m1
        have p1 : ((s[j].toNat : Int) != 44) = true := by rw [bne, beq_eq_false_iff_ne.2 (by omega)]; rfl
        have p2 : ((s[j].toNat : Int) != 93) = true := by rw [bne, beq_eq_false_iff_ne.2 (by omega)]; rfl
        have p3 : ((s[j].toNat : Int) != 125) = true := by rw [bne, beq_eq_false_iff_ne.2 (by omega)]; rfl
        clear hd m1 m2 m3 m4
        go_wp2_with (first | (go_at_call 27; refine (blank_any _ _).mono ?_; rintro e w' ⟨rfl, rfl⟩))
        go_roundg (s.size - (j + 1))
        case measure => have := HG.out; omega
        case rel => exact ⟨rfl, j + 1, by omega, by omega, by go_num, by rw [HX.out, HE.out]⟩
    · have HE : Hid (Js.wEnd (At s j) = At s j) := by
        show Js.wEnd (At s j) = At s j
        rw [At_end s j (by omega)]
        rfl
      go_wp2_with (first | (go_at_call 27; refine (blank_any _ _).mono ?_; rintro e w' ⟨rfl, rfl⟩))
      go_ret
      exact ⟨j, rfl, hjs, by rw [HP.out, HX.out, HE.out], Below.refl _ _⟩

theorem piece_any (s : ByteArray) (hs : s.size ≤ 1000000) (k : Nat) (hk : k < s.size) (hp : s[k] = 34 → ∃ r, Js.pStr (At s (k + 1)) = some r) (w : World) :
    Calls Tryz.prog 23 #[.string s, .int .i64 (k : Int)] w (Pc s k w) := by
  by_cases h : s[k] = 34
  · obtain ⟨r, hr⟩ := hp h
    exact piece_str s hs k hk h r hr w
  · cases hc : Js.struc s[k] with
    | true => exact piece_one s hs k hk hc w
    | false => exact piece_word s hs k hk h hc w

end Go.Proofs.YtlmhpmbgalmpgaaGreatDoor
