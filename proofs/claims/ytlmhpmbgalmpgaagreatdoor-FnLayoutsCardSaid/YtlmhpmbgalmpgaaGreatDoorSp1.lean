/-
  The reference's small functions: blanks, digits, fail.
-/
import Derived.Test.YtlmhpmbgalmpgaaGreatDoorSc2
import Derived.Deep.LoopGhost
import Derived.BigQuiet
import Derived.Deep.QuietTactic
namespace Go.Proofs.YtlmhpmbgalmpgaaGreatDoor
open Go.RowKit

set_option maxHeartbeats 400000 in
theorem blank_any (c : Int) (w : World) :
    Calls Tryz.prog 27 #[.int .u8 c] w fun e w' => e = .returned (.bool (spI c)) ∧ w = w' := by
  have hq : spI c = (c == 32 || c == 9 || c == 10 || c == 13) := by
    unfold spI
    cases (c == 32) <;> cases (c == 9) <;> cases (c == 13) <;> cases (c == 10) <;> rfl
  have HQ := Lib.hid hq
  clear hq
  go_enter Tryz.func27, Tryz.ntmps27
  go_wp2
  all_goals
    go_ret
    refine ⟨?_, rfl⟩
    rw [HQ.out]
    first
      | rfl
      | (simp [*]; done)

set_option maxHeartbeats 400000 in
theorem digit_any (c : Int) (w : World) :
    Calls Tryz.prog 39 #[.int .u8 c] w fun e w' => e = .returned (.bool (dgI c)) ∧ w = w' := by
  rcases dgI_cases c with ⟨hd, hd1, hd2⟩ | ⟨hd, hd1⟩ | ⟨hd, hd1⟩
  all_goals
    have HD := Lib.hid hd
    clear hd
    go_enter Tryz.func39, Tryz.ntmps39
    go_wp2
    go_ret
    exact ⟨by rw [HD.out]; first | rfl | exact congrArg (fun b => Ending.returned (Value.bool b)) (decide_eq_false (by omega)), rfl⟩

/-- What a hexadecimal digit counts. -/
def HexD (c : Int) (w : World) (e : Ending) (w' : World) : Prop := ∃ v : Int, e = .returned (.int .i64 v) ∧ (if hxI c then 0 ≤ v else v = -1) ∧ w = w'

set_option maxHeartbeats 1000000 in
theorem hexDigit_any (c : Int) (_h0 : 0 ≤ c) (_h1 : c ≤ 255) (w : World) :
    Calls Tryz.prog 60 #[.int .u8 c] w (HexD c w) := by
  rcases hxI_cases c with ⟨hd, hd1, hd2⟩ | ⟨hd, hd1, hd2⟩ | ⟨hd, hd1, hd2⟩ | ⟨hd, hd1, hd2⟩ | ⟨hd, hd1, hd2⟩ | ⟨hd, hd1, hd2⟩ | ⟨hd, hd1, hd2⟩
  all_goals
    have HD := Lib.hid hd
    clear hd
    go_enter Tryz.func60, Tryz.ntmps60
    go_wp2
    go_ret
    refine ⟨_, rfl, ?_, rfl⟩
    rw [HD.out]
    simp
    try omega

/-- Where the reference's scanner lies. -/
def Rs (w : World) (g : Nat) (s : ByteArray) (b : Int) : Prop := w.heap[g]? = some (.cells #[.string s, .int .i64 b] 53 (0, 0))

theorem Rs.cells {w : World} {g : Nat} {s : ByteArray} {b : Int} (h : Rs w g s b) :
    w.cell? ⟨g, 0, none⟩ = some (.string s) ∧ w.cell? ⟨g, 1, none⟩ = some (.int .i64 b) ∧ w.frozen? ⟨g, 0, none⟩ = false ∧ w.frozen? ⟨g, 1, none⟩ = false := by
  unfold Rs at h
  simp [World.cell?, World.frozen?, h]
theorem Rs.lt {w : World} {g : Nat} {s : ByteArray} {b : Int} (h : Rs w g s b) : g < w.heap.size := (Array.getElem?_eq_some_iff.1 h).1
theorem Rs.set1 {w : World} {g : Nat} {s : ByteArray} {b : Int} (h : Rs w g s b) (n : Int) : Rs (w.setCell ⟨g, 1, none⟩ (.int .i64 n)) g s n := heap_set_same h _

/-- What is left of a text from a place on. -/
def At (s : ByteArray) (k : Nat) : List UInt8 := s.data.toList.drop k

theorem At_cons (s : ByteArray) (k : Nat) (h : k < s.size) : At s k = s[k] :: At s (k + 1) := by
  unfold At
  rw [List.drop_eq_getElem_cons (by simpa using h)]
  rfl
theorem At_end (s : ByteArray) (k : Nat) (h : s.size ≤ k) : At s k = [] := by
  unfold At
  exact List.drop_eq_nil_of_le (by simpa using h)
theorem At_length (s : ByteArray) (k : Nat) : (At s k).length = s.size - k := by simp [At]

/-- Only block g has changed (and what is new). -/
abbrev Only (g : Nat) (w w' : World) : Prop := w.grownBy w' (some g)
theorem Only.refl (g : Nat) (w : World) : Only g w w := ⟨rfl, rfl, rfl, Nat.le_refl _, fun _ _ _ => rfl⟩
theorem Only.trans {g : Nat} {a b c : World} (h : Only g a b) (k : Only g b c) : Only g a c :=
  ⟨k.os.trans h.os, k.tape.trans h.tape, k.output.trans h.output, Nat.le_trans h.size k.size, fun i hi hg => (k.block i (Nat.lt_of_lt_of_le hi h.size) hg).trans (h.block i hi hg)⟩
theorem Only.set (g i : Nat) (w : World) (v : Value) : Only g w (w.setCell ⟨g, i, none⟩ v) :=
  ⟨rfl, rfl, rfl, by simp [World.setCell], fun k _ hk => Below.heap_setCell _ _ _ _ (fun e => hk (by rw [e]))⟩

/-- A reader that has read: where it stands, what is left. -/
def Ok (s : ByteArray) (g : Nat) (w : World) (rest : List UInt8) (e : Ending) (w' : World) : Prop :=
  ∃ n : Nat, e = .returned (.int .i64 (n : Int)) ∧ n ≤ s.size ∧ At s n = rest ∧ Rs w' g s (-1) ∧ Only g w w'
/-- A reader that refuses. -/
def No (s : ByteArray) (g : Nat) (w : World) (e : Ending) (w' : World) : Prop :=
  ∃ n b : Nat, e = .returned (.int .i64 (n : Int)) ∧ n ≤ s.size ∧ Rs w' g s (b : Int) ∧ Only g w w'
def Rd (s : ByteArray) (g : Nat) (w : World) (o : Option (List UInt8)) (e : Ending) (w' : World) : Prop :=
  match o with
  | some rest => Ok s g w rest e w'
  | none => No s g w e w'

set_option maxHeartbeats 400000 in
theorem fail_any (s : ByteArray) (g : Nat) (a : Int) (k : Nat) (ha : a = (k : Int)) (hk : k ≤ s.size) (w : World) (h : Rs w g s (-1)) :
    Calls Tryz.prog 21 #[.pointer (some ⟨g, 0, none⟩), .int .i64 a] w (No s g w) := by
  subst ha
  obtain ⟨c0, c1, f0, f1⟩ := h.cells
  have HR := Lib.hid h
  clear h
  go_enter Tryz.func21, Tryz.ntmps21
  go_wp2
  go_ret
  exact ⟨k, k, rfl, hk, HR.out.set1 _, Only.set _ _ _ _⟩

/-- Where blanks end. -/
def Skipped (s : ByteArray) (l : List UInt8) (w : World) (e : Ending) (w' : World) : Prop := ∃ n : Nat, e = .returned (.int .i64 (n : Int)) ∧ n ≤ s.size ∧ At s n = l ∧ w = w'

set_option maxHeartbeats 1000000 in
theorem blankEnd_big (s : ByteArray) (hs : s.size ≤ 100000000000) (a : Int) (k : Nat) (ha : a = (k : Int)) (hk : k ≤ s.size) (w : World) :
    Calls Tryz.prog 15 #[.string s, .int .i64 a] w (Skipped s (Js.skip (At s k)) w) := by
  subst ha
  go_enter Tryz.func15, Tryz.ntmps15
  go_wp2_with fail
  go_loop [1] (fun i => ∃ j : Nat, j ≤ s.size ∧ i = .int .i64 j ∧ Js.skip (At s k) = Js.skip (At s j)) (fun i => s.size - (intOf i).toNat)
  case atStart => exact ⟨k, hk, rfl, rfl⟩
  case round =>
    obtain ⟨j, hj, rfl, hsk⟩ := hrel
    have HS := Lib.hid hsk
    clear hsk
    by_cases hlt : j < s.size
    · have HC := Lib.hid (At_cons s j hlt)
      cases hsp : spI (s[j].toNat : Int) with
      | true =>
        go_wp2_with (go_at_call 27; refine (blank_any _ _).mono ?_; rintro e w' ⟨rfl, rfl⟩)
        go_round
        case rel => exact ⟨j + 1, by omega, by go_num, by rw [HS.out, HC.out, Js.skip, show Js.sp s[j].toNat = true from (spI_sp (s[j].toNat : Int) (by omega)).trans hsp]; rfl⟩
        case measure => simp [intOf]; omega
      | false =>
        go_wp2_with (go_at_call 27; refine (blank_any _ _).mono ?_; rintro e w' ⟨rfl, rfl⟩)
        go_ret
        exact ⟨j, rfl, hj, by rw [HS.out, HC.out, Js.skip, show Js.sp s[j].toNat = false from (spI_sp (s[j].toNat : Int) (by omega)).trans hsp]; rfl, rfl⟩
    · go_wp2_with (go_at_call 27; refine (blank_any _ _).mono ?_; rintro e w' ⟨rfl, rfl⟩)
      go_ret
      exact ⟨j, rfl, hj, by rw [HS.out, At_end s j (by omega)]; rfl, rfl⟩

theorem blankEnd_any (s : ByteArray) (hs : s.size ≤ 1000000) (a : Int) (k : Nat) (ha : a = (k : Int)) (hk : k ≤ s.size) (w : World) :
    Calls Tryz.prog 15 #[.string s, .int .i64 a] w (Skipped s (Js.skip (At s k)) w) := blankEnd_big s (by omega) a k ha hk w

end Go.Proofs.YtlmhpmbgalmpgaaGreatDoor
