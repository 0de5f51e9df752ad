/-
  spec.Depth: it answers some number. A text that is read token by token.
-/
import Derived.Test.YtlmhpmbgalmpgaaGreatDoorPe2
import Derived.Test.YtlmhpmbgalmpgaaGreatDoorPl14
import Derived.Lib.MinMax
namespace Go.Proofs.YtlmhpmbgalmpgaaGreatDoor
open Go.RowKit

/-- What is left of the text at a place between two tokens: these tokens. -/
structure AInv (s : ByteArray) (p : Nat) (ts : List (List UInt8)) : Prop where
  ple : p ≤ s.size
  skp : Js.skip (At s p) = At s p
  ts : ∃ m z, Js.TS m (At s p) ts z

theorem AInv.start {s : ByteArray} {ts : List (List UInt8)} {z : List UInt8} (h : Js.TS Js.init s.data.toList ts z) {n : Nat} (hn : n ≤ s.size) (hat : At s n = Js.skip (At s 0)) : AInv s n ts := by
  have h0 : At s 0 = s.data.toList := by simp [At]
  rw [h0] at hat
  obtain ⟨z', h'⟩ := h.skip
  exact ⟨hn, by rw [hat, Js.skip_skip], _, z', by rw [hat]; exact h'⟩

theorem AInv.done {s : ByteArray} {ts : List (List UInt8)} (h : AInv s s.size ts) : ts = [] := by
  obtain ⟨m, z, h1⟩ := h.ts
  rw [At_end s s.size (Nat.le_refl _)] at h1
  exact h1.nil

theorem AInv.token {s : ByteArray} {p : Nat} {ts : List (List UInt8)} (h : AInv s p ts) (hp : p < s.size) :
    (s[p] = 34 → ∃ r, Js.pStr (At s (p + 1)) = some r) ∧ Js.sp s[p].toNat = false ∧
    ∃ u ts', ts = (s[p] :: u) :: ts' ∧
    ∀ n, n ≤ s.size → At s n = (Js.piece (At s p)).2 → p < n ∧ (s.extract p n).data.toList = s[p] :: u ∧ ∀ n2, n2 ≤ s.size → At s n2 = Js.skip (At s n) → p < n2 ∧ AInv s n2 ts' := by
  obtain ⟨m, z, hts⟩ := h.ts
  have hcons := At_cons s p hp
  have hsp : Js.sp s[p].toNat = false := Js.skip_head _ _ _ (by rw [h.skp]; exact hcons)
  rw [hcons] at hts
  obtain ⟨u, rest, m1, m2, ts', e1, e2, ht, hr⟩ := hts.cons hsp
  have hpc := ht.piece hr
  refine ⟨fun h34 => ?_, hsp, u, ts', e2, fun n hn hat => ?_⟩
  · cases hq : Js.pStr (At s (p + 1)) with
    | some r => exact ⟨r, rfl⟩
    | none =>
      rw [h34, ← e1] at hpc
      simp [Js.piece, hq] at hpc
  · rw [hcons, e1, hpc] at hat
    have hat : At s n = rest := hat
    have hl1 := At_len s n
    have hl2 := At_len s (p + 1)
    rw [e1, List.length_append, ← hat, hl1] at hl2
    refine ⟨by omega, ?_, fun n2 hn2 hat2 => ?_⟩
    · rw [ByteArray.data_extract, Array.toList_extract]
      show (s.data.toList.drop p).take (n - p) = _
      show (At s p).take (n - p) = _
      rw [hcons, e1, show n - p = u.length + 1 by omega, List.take_succ_cons, List.take_left' rfl]
    · have hsk := Js.skip_le (At s n)
      rw [← hat2, At_len, hl1] at hsk
      obtain ⟨z', h'⟩ := hr.skip
      exact ⟨by omega, hn2, by rw [hat2, Js.skip_skip], m2, z', by rw [hat2, hat]; exact h'⟩

set_option maxRecDepth 100000 in
set_option maxHeartbeats 8000000 in
theorem depth_any (s : ByteArray) (hs : s.size ≤ 1000000) (ha : Js.acc Js.init s.data.toList = true) (w : World) :
    Calls Tryz.prog 10 #[.string s] w (fun e w' => (∃ n : Int, e = .returned (.int .i64 n)) ∧ Below w.heap.size w w') := by
  obtain ⟨ts0, z0, hts⟩ := Js.ts_init ha
  have HTS := Lib.hid hts
  clear ha hts
  go_enter Tryz.func10, Tryz.ntmps10
  go_wp2_with fail
  refine (blankEnd_any s hs 0 0 rfl (Nat.zero_le _) w).mono ?_
  rintro e w1 ⟨n0, rfl, hn0, hat0, rfl⟩
  have HG0 := Lib.hid (AInv.start HTS.out hn0 hat0)
  clear hat0
  go_wp2_with fail
  go_loopg [3, 4, 5] (s.size - n0) (fun gk x y i wr => ∃ (p : Nat) (a b : Int) (ts : List (List UInt8)), gk + p = s.size ∧ x = .int .i64 a ∧ y = .int .i64 b ∧ i = .int .i64 (p : Int) ∧ AInv s p ts ∧ -(p : Int) ≤ a ∧ a ≤ p ∧ 0 ≤ b ∧ b ≤ p ∧ Below w.heap.size w wr)
  case atStart => exact ⟨n0, 0, 0, ts0, by omega, rfl, rfl, rfl, HG0.out, by omega, by omega, by omega, by omega, Below.refl _ _⟩
  case round =>
    obtain ⟨p, a, b, ts, hgk, rfl, rfl, rfl, hin, ha1, ha2, hb1, hb2, hbe⟩ := hrel
    have hple := hin.ple
    have HIN := Lib.hid hin
    have HBE := Lib.hid hbe
    have HGK := Lib.hid hgk
    clear hin hbe hgk
    by_cases hlt : p < s.size
    · obtain ⟨t1, -, u, ts', -, t2⟩ := HIN.out.token hlt
      have HT2 := Lib.hid t2
      have HPC := fun W => Lib.hid (piece_any s hs p hlt t1 W)
      clear t1 t2
      go_wp2_with (first
        | (go_at_call 23; refine (HPC _).out.mono ?_; rintro e w2 ⟨n, rfl, hn, hat, hb2⟩; obtain ⟨hpn, -, t3⟩ := HT2.out n hn hat; have HT3 := Lib.hid t3; have HB2 := Lib.hid (HBE.out.trans (hb2.mono HBE.out.size)); clear hat t3 hb2)
        | (go_at_call 15; refine (blankEnd_any s hs (n : Int) n rfl hn _).mono ?_; rintro e w3 ⟨n2, rfl, hn2, hat2, rfl⟩; obtain ⟨h5, h6⟩ := HT3.out n2 hn2 hat2; have H6 := Lib.hid h6; clear h6 hat2))
      all_goals
        go_roundg (s.size - n2)
        case rel => exact ⟨n2, _, _, ts', by omega, rfl, rfl, rfl, H6.out, by omega, by omega, by omega, by omega, HB2.out⟩
        case measure => have := HGK.out; omega
    · go_wp2_with fail
      go_ret
      exact ⟨⟨_, rfl⟩, HBE.out⟩

end Go.Proofs.YtlmhpmbgalmpgaaGreatDoor
