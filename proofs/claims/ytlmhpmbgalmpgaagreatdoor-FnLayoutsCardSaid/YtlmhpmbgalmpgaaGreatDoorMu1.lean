/-
  impl.much: it answers something, and leaves all as it was.
-/
import Derived.Test.YtlmhpmbgalmpgaaGreatDoorSc9
import Derived.Lib.MinMax
namespace Go.Proofs.YtlmhpmbgalmpgaaGreatDoor
open Go.RowKit

set_option maxRecDepth 100000 in
set_option maxHeartbeats 4000000 in
theorem much_any (s p i : ByteArray) (hs : s.size ≤ 4000) (hp : p.size ≤ 20) (hi : i.size ≤ 20) (w : World) :
    Calls Tryz.prog 24 #[.string s, .string p, .string i] w (fun e w' => (∃ b : Bool, e = .returned (.bool b)) ∧ w' = w) := by
  go_enter Tryz.func24, Tryz.ntmps24
  go_wp2_with fail
  go_loopg [7, 8, 9, 10] s.size (fun gk x y z n wr => wr = w ∧ ∃ (k : Nat) (a b c : Int), gk + k = s.size ∧ n = .int .i64 (k : Int) ∧ x = .int .i64 a ∧ y = .int .i64 b ∧ z = .int .i64 c ∧ 0 ≤ a ∧ a ≤ k ∧ -(k : Int) ≤ b ∧ b ≤ k ∧ 0 ≤ c ∧ c ≤ k)
  case atStart => exact ⟨rfl, 0, 0, 0, 0, by omega, rfl, rfl, rfl, rfl, by omega, by omega, by omega, by omega, by omega, by omega⟩
  case round =>
    obtain ⟨rfl, k, a, b, c, hgk, rfl, rfl, rfl, rfl, ha1, ha2, hb1, hb2, hc1, hc2⟩ := hrel
    by_cases hlt : k < s.size
    · go_wp2_with fail
      all_goals
        go_roundg (s.size - (k + 1))
        case measure => omega
        case rel => exact ⟨rfl, k + 1, _, _, _, by omega, by go_num, rfl, rfl, rfl, by omega, by omega, by omega, by omega, by omega, by omega⟩
    · have hc3 : c * i.size ≤ 4000 * 20 := by
        have h1 : c * (i.size : Int) ≤ 4000 * (i.size : Int) := Int.mul_le_mul_of_nonneg_right (by omega) (by omega)
        omega
      have hc4 : 0 ≤ c * i.size := Int.mul_nonneg hc1 (by omega)
      obtain ⟨m, hm⟩ : ∃ m, c * (i.size : Int) = m := ⟨_, rfl⟩
      rw [hm] at hc3 hc4
      have hp1 : (a + 1) * (1 + (p.size : Int) + m) ≤ 4001 * (1 + 20 + 80000) := Int.le_trans (Int.mul_le_mul_of_nonneg_right (by omega) (by omega)) (Int.mul_le_mul_of_nonneg_left (by omega) (by omega))
      have hp2 : 0 ≤ (a + 1) * (1 + (p.size : Int) + m) := Int.mul_nonneg (by omega) (by omega)
      go_wp2_with fail
      go_ret
      exact ⟨⟨_, rfl⟩, rfl⟩

end Go.Proofs.YtlmhpmbgalmpgaaGreatDoor
