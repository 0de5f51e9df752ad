/-
  appendNewline.
-/
import Derived.Test.YtlmhpmbgalmpgaaGreatDoorCp3
import Derived.Test.YtlmhpmbgalmpgaaGreatDoorPl9
namespace Go.Proofs.YtlmhpmbgalmpgaaGreatDoor
open Go.RowKit

theorem Ap.begin {e : TypeId} {B : Nat} {w : World} {v : Value} {ks : List UInt8} (h : w.ownsRow B e 1 v ks.length (Lib.byteCells ks)) (hB : B ≤ w.heap.size) : Ap e B v.ownBlock w w v ks :=
  ⟨h, fun _ hk => .inl hk, hB, rfl, rfl, rfl, Nat.le_refl _, fun _ _ _ => rfl, fun _ _ _ cs hc => ⟨cs, hc, rfl⟩⟩

theorem Ap.then {e : TypeId} {B : Nat} {d : Option Nat} {W w w' : World} {v v' : Value} {ks ks' : List UInt8} (h : Ap e B d W w v ks) (k : Ap e B v.ownBlock w w' v' ks') : Ap e B d W w' v' ks' := by
  refine ⟨k.own, fun q hq => ?_, h.base, k.os.trans h.os, k.tape.trans h.tape, k.output.trans h.output, Nat.le_trans h.size k.size, fun q hq hd => ?_, fun q hd hq cs hc => ?_⟩
  · rcases k.lies q hq with h1 | h1
    · exact h.lies q h1
    · exact .inr (Nat.le_trans h.size h1)
  · refine (k.block q (Nat.lt_of_lt_of_le hq h.size) fun e => ?_).trans (h.block q hq hd)
    rcases h.lies q e with e2 | e2
    · exact hd e2
    · omega
  · obtain ⟨cs1, h1, h2⟩ := h.shape q hd hq cs hc
    by_cases hv : v.ownBlock = some q
    · obtain ⟨cs2, h3, h4⟩ := k.shape q hv (Nat.lt_of_lt_of_le hq h.size) cs1 h1
      exact ⟨cs2, h3, h4.trans h2⟩
    · exact ⟨cs1, (k.block q (Nat.lt_of_lt_of_le hq h.size) hv).trans h1, h2⟩

theorem Ap.grew {e : TypeId} {B : Nat} {w w' : World} {v v' : Value} {ks' : List UInt8} (k : Ap e B v.ownBlock w w' v' ks') : w.grownBy w' v.ownBlock :=
  ⟨k.os, k.tape, k.output, k.size, fun q hq hn => k.block q hq (Ne.symm hn)⟩

/-- The bytes of a slice that was just laid. -/
theorem new_bytes' (w : World) (T : TypeId) (cs : Array Value) (ns : List UInt8) (h : cs.toList = Lib.byteCells ns) : ∀ j (hj : j < ns.length), (w.alloc (.cells cs T)).cell? ((⟨w.heap.size, 0, none⟩ : Addr).add j) = some (.int .u8 (ns[j].toNat : Int)) := by
  intro j hj
  rw [Lib.addr_add, Nat.zero_add, Lib.cell_of_heap (heap_alloc_new w _)]
  rw [← Array.getElem?_toList, h]
  simp [Lib.byteCells, hj]

theorem reps_length (n : Nat) (u : List UInt8) : (Js.reps n u).length = n * u.length := by
  induction n with
  | zero => simp [Js.reps]
  | succ n ih => rw [Js.reps, List.length_append, ih, Nat.succ_mul]

set_option maxRecDepth 100000 in
set_option maxHeartbeats 4000000 in
theorem newline_any (B : Nat) (v : Value) (ks : List UInt8) (p i : ByteArray) (d : Int) (hd : d ≤ 1000000) (hp : p.size ≤ 1000) (hi' : i.size ≤ 1000) (hk : ks.length ≤ 100000000000) (w : World) (hB : B ≤ w.heap.size) (hv : w.ownsRow B 5 1 v ks.length (Lib.byteCells ks)) :
    Calls Tryz.prog 53 #[v, .string p, .string i, .int .i64 d] w (fun e w' => ∃ v', e = .returned v' ∧ Ap 5 B v.ownBlock w w' v' (ks ++ Js.nl p.data.toList i.data.toList d)) := by
  have HA := Lib.hid (Ap.begin hv hB)
  obtain ⟨i0, hi, hz0, hz1, hz2⟩ := info_parts Tryz.infoU8
  have hpl : p.data.toList.length = p.size := by simp
  have hil : i.data.toList.length = i.size := by simp
  clear hv
  go_enter Tryz.func53, Tryz.ntmps53
  go_wp2_with (first
    | (at_builtin; refine wpList_append_ap_string _ rfl _ _ 40 9 rfl 5 i0 Tryz.underlying40 Tryz.underlying9 hi hz0 hz1 hz2 rfl hap1 p rfl (by simp only [List.length_append, List.length_cons, List.length_nil]; omega) ?_; rintro v2 w2 hap2 -)
    | (at_builtin; refine wpList_append_ap _ rfl _ _ 40 rfl 5 i0 Tryz.underlying40 hi hz0 hz1 hz2 rfl (HA.out.alloc _) _ _ _ [10] rfl rfl (new_bytes' _ _ _ _ rfl) (by omega) ?_; rintro v1 w1 hap1 -))
  have HA2 := Lib.hid hap2
  clear hap1 hap2
  go_loopg [0, 9] d.toNat (fun gk x n wr => ∃ j : Nat, gk + j = d.toNat ∧ n = .int .i64 (j : Int) ∧ Ap 5 B v.ownBlock w wr x (ks ++ 10 :: (p.data.toList ++ Js.reps j i.data.toList)))
  case atStart => exact ⟨0, by omega, rfl, by have := HA2.out; simpa [Js.reps] using this⟩
  case round =>
    obtain ⟨j, hgj, rfl, hap⟩ := hrel
    have HAP := Lib.hid hap
    have HG := Lib.hid hgj
    clear hap
    by_cases hlt : (j : Int) < d
    · have dl : decide ((j : Int) < d) = true := decide_eq_true hlt
      have hlim : (ks ++ 10 :: (p.data.toList ++ Js.reps j i.data.toList)).length + i.size ≤ 140737488355328 := by
        simp only [List.length_append, List.length_cons, reps_length, hpl, hil]
        have : j * i.size ≤ 1000000 * 1000 := Nat.mul_le_mul (by omega) hi'
        omega
      have HLM := Lib.hid hlim
      clear hlim hgj
      go_wp2_with (at_builtin; refine wpList_append_ap_string _ rfl _ _ 40 9 rfl 5 i0 Tryz.underlying40 Tryz.underlying9 hi hz0 hz1 hz2 rfl HAP.out i rfl HLM.out ?_; rintro v3 w3 hap3 -)
      have HAP3 := Lib.hid hap3
      clear hap3
      go_roundg (d.toNat - (j + 1))
      case rel => exact ⟨j + 1, by have := HG.out; omega, by go_num, by have := HAP3.out; simpa [Js.reps] using this⟩
      case measure => have := HG.out; omega
    · have dl : decide ((j : Int) < d) = false := decide_eq_false hlt
      have hjd : j = d.toNat := by omega
      clear hgj
      go_wp2
      go_ret
      exact ⟨_, rfl, by rw [Js.nl, ← hjd]; exact HAP.out⟩

end Go.Proofs.YtlmhpmbgalmpgaaGreatDoor
