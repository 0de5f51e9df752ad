/-
  json.Compact, impl.fault and impl.Compact.
-/
import Derived.Test.YtlmhpmbgalmpgaaGreatDoorCp2
namespace Go.Proofs.YtlmhpmbgalmpgaaGreatDoor
open Go.RowKit

theorem Ap.below' {e : TypeId} {B : Nat} {d : Option Nat} {W w : World} {v : Value} {ks : List UInt8} (h : Ap e B d W w v ks) (hd : ∀ k, d = some k → B ≤ k) : Below B W w :=
  ⟨h.os, h.tape, h.output, h.size, fun k hk => h.block k (Nat.lt_of_lt_of_le hk h.base) fun e => by have := hd k e; omega⟩

/-- The loan lies elsewhere than a row that is frozen in part. -/
theorem Grown.apart' {B b ds : Nat} {W w1 : World} {v0 : Value} (hg : W.grownBy w1 (some b)) (ha : Avail B b w1 v0) (hds : ds < W.heap.size) (hdb : ds ≠ b) {cs : Array Value} {fr : Nat × Nat} (ho : W.heap[ds]? = some (.cells cs 5 fr)) (hfr : fr ≠ (0, 0)) : v0.ownBlock ≠ some ds := by
  intro he
  obtain ⟨_, lr, _, h2, _⟩ := ha
  rcases h2.2 with ⟨hv, _⟩ | ⟨g, cap, cur, hv, _, hh, _⟩
  · rw [hv] at he; cases he
  · rw [hv] at he
    have hgd : g = ds := by simpa [Value.ownBlock] using he
    subst hgd
    rw [hg.block g hds (fun e => hdb (Option.some.inj e)), ho] at hh
    injection hh with hh
    injection hh with _ _ h3
    exact hfr h3

theorem Avail.own' {B b : Nat} {w : World} {v0 : Value} (h : Avail B b w v0) : w.ownsRow B 5 1 v0 0 [] := by
  obtain ⟨_, _, _, h2, _⟩ := h
  exact h2

/-- A text in a block of its own. -/
structure Src2 (W : World) (ds : Nat) (l : List UInt8) : Prop where
  bytes : Bytes W ds l
  row : ∃ cs fr, W.heap[ds]? = some (.cells cs 5 fr) ∧ fr ≠ (0, 0)

theorem Src2.lt {W : World} {ds : Nat} {l : List UInt8} (h : Src2 W ds l) : ds < W.heap.size := by
  obtain ⟨_, cs, fr, h1, _⟩ := h
  exact Lib.lt_of_heap h1

theorem src_made' (w : World) (s : ByteArray) (c : Nat) : Src2 (w.alloc (.cells (bytesRow s c) 5 ((bytesRow s c).size, (bytesRow s c).size + 1))) w.heap.size s.data.toList :=
  ⟨bytes_made w s c _, bytesRow s c, ((bytesRow s c).size, (bytesRow s c).size + 1), heap_alloc_new w _, fun e => absurd (congrArg Prod.snd e) (Nat.succ_ne_zero _)⟩

/-- What Compact leaves: the text without the blanks, or an error. -/
def Packed (B b : Nat) (l : List UInt8) (W : World) (e : Ending) (w' : World) : Prop :=
  Below B W w' ∧
  (Js.acc Js.init l = true → e = .returned .nilIface ∧ Lib.IsBuffer 44 5 B b (Lib.byteCells (Js.comp Js.init l)) w') ∧
  (Js.acc Js.init l = false → ∃ p, e = .returned (.iface 68 (.pointer (some ⟨p, 0, none⟩))) ∧ ErB w' p)

theorem drewN_below (B n : Nat) (w : World) : Below B w (w.drewN n) := ⟨rfl, rfl, rfl, Nat.le_refl _, fun _ _ => rfl⟩

set_option maxRecDepth 100000 in
set_option maxHeartbeats 1000000 in
theorem jcompact_any (B b ds cap : Nat) (l : List UInt8) (hl : l.length ≤ 100000000000) (W : World) (hB : B ≤ b) (hb : Fresh0 b W) (hs : Src2 W ds l) (hdb : ds ≠ b) (hcap : l.length ≤ cap) (hcm : cap ≤ maxLen) :
    Calls Tryz.prog 17 #[.pointer (some ⟨b, 0, none⟩), .slice (some ⟨ds, 0, none⟩) l.length cap] W (Packed B b l W) := by
  have hBw : B ≤ W.heap.size := by obtain ⟨_, h⟩ := hb; exact Nat.le_trans hB (Nat.le_of_lt (Lib.lt_of_heap h))
  have HB := Lib.hid hb
  have HS := Lib.hid hs
  have HL := Lib.hid (Js.comp_le l Js.init)
  clear hb hs
  cases hacc : Js.acc Js.init l with
  | true =>
    have HACC := Lib.hid hacc
    clear hacc
    go_enter Tryz.func17, Tryz.ntmps17
    go_wp2_with (first
      | (go_at_call 30; refine (grow_any B b l.length (by omega) _ hB HB.out).mono ?_; rintro e w1 ⟨rfl, hgr⟩; have HG := Lib.hid hgr; clear hgr; obtain ⟨v0, hv0⟩ := HG.out.1; have HV := Lib.hid hv0; clear hv0)
      | (go_at_call 31; refine (avail_any B b v0 _ HV.out).mono ?_; rintro e w2 ⟨rfl, n, rfl⟩)
      | (go_at_call 32; refine (compact_any B ds cap v0 l hl (w1.drewN n) (Nat.le_trans hBw HG.out.2.1.size) HV.out.own' (Grown.apart' HG.out.2.2 HV.out HS.out.lt hdb HS.out.row.choose_spec.choose_spec.1 HS.out.row.choose_spec.choose_spec.2) (Nat.lt_of_lt_of_le HS.out.lt HG.out.2.2.size) (HS.out.bytes.kept (HG.out.2.2.block ds HS.out.lt (fun e => hdb (Option.some.inj e)))) hcap hcm).mono ?_; rintro e w3 ⟨hyes, -⟩; obtain ⟨v, rfl, hap⟩ := hyes HACC.out; have HAP := Lib.hid hap; clear hap hyes)
      | (go_at_call 33; refine (write_any _ (show Avail B b (w1.drewN n) v0 from HV.out) HAP.out (by have := HL.out; omega)).mono ?_; rintro e w4 ⟨rfl, hI, hbel, -⟩; have HI := Lib.hid hI; have HBE := Lib.hid hbel; clear hI hbel))
    go_ret
    exact ⟨HG.out.2.1.trans (Below.trans (Below.trans (drewN_below B n w1) (HAP.out.below' fun k hk => (HV.out.own'.lt k hk).1)) HBE.out), fun _ => ⟨rfl, HI.out⟩, fun h => (nomatch (HACC.out.symm.trans h : true = false))⟩
  | false =>
    have HACC := Lib.hid hacc
    clear hacc
    go_enter Tryz.func17, Tryz.ntmps17
    go_wp2_with (first
      | (go_at_call 30; refine (grow_any B b l.length (by omega) _ hB HB.out).mono ?_; rintro e w1 ⟨rfl, hgr⟩; have HG := Lib.hid hgr; clear hgr; obtain ⟨v0, hv0⟩ := HG.out.1; have HV := Lib.hid hv0; clear hv0)
      | (go_at_call 31; refine (avail_any B b v0 _ HV.out).mono ?_; rintro e w2 ⟨rfl, n, rfl⟩)
      | (go_at_call 32; refine (compact_any B ds cap v0 l hl (w1.drewN n) (Nat.le_trans hBw HG.out.2.1.size) HV.out.own' (Grown.apart' HG.out.2.2 HV.out HS.out.lt hdb HS.out.row.choose_spec.choose_spec.1 HS.out.row.choose_spec.choose_spec.2) (Nat.lt_of_lt_of_le HS.out.lt HG.out.2.2.size) (HS.out.bytes.kept (HG.out.2.2.block ds HS.out.lt (fun e => hdb (Option.some.inj e)))) hcap hcm).mono ?_; rintro e w3 ⟨-, hno⟩; obtain ⟨v, p, rfl, hap, hp⟩ := hno HACC.out; have HAP := Lib.hid hap; have HP := Lib.hid hp; clear hap hno hp)
      | (go_at_call 33; refine (write_any _ (show Avail B b (w1.drewN n) v0 from HV.out) HAP.out (by simp)).mono ?_; rintro e w4 ⟨rfl, -, hbel, hkp⟩; have HP2 := Lib.hid (hkp _ HP.out); have HBE := Lib.hid hbel; clear hkp hbel))
    go_ret
    exact ⟨HG.out.2.1.trans (Below.trans (Below.trans (drewN_below B n w1) (HAP.out.below' fun k hk => (HV.out.own'.lt k hk).1)) HBE.out), fun h => (nomatch (HACC.out.symm.trans h : false = true)), fun _ => ⟨p, rfl, HP2.out⟩⟩

/-- A fault with a code. -/
def IsFault (v : Value) (c : Int) : Prop := ∃ n : Int, v = .agg #[.int .i64 c, .int .i64 n, .string ⟨#[]⟩, .string ⟨#[]⟩, .string ⟨#[]⟩, .string ⟨#[]⟩]

set_option maxRecDepth 100000 in
set_option maxHeartbeats 4000000 in
theorem fault_any (p : Nat) (w : World) (h : ErB w p) :
    Calls Tryz.prog 18 #[.iface 68 (.pointer (some ⟨p, 0, none⟩))] w (fun e w' => (∃ v, e = .returned v ∧ IsFault v 1) ∧ Below w.heap.size w w') := by
  obtain ⟨s, n, hp⟩ := h
  have c1 : ∀ o, (w.alloc o).cell? ⟨p, 1, none⟩ = some (.int .i64 n) := fun o => by rw [Lib.cell_of_heap ((Below.heap_alloc w o p (Lib.lt_of_heap hp)).trans hp)]; rfl
  clear hp
  have hta : ∀ (q : Option Addr) (W : World), (Instr.typeAssert (.iface 68 (.pointer q)) 46 68 true).run Tryz.prog W = .ok (.tuple #[.pointer q, .bool true]) W := fun q W => by kernel_rfl
  go_enter Tryz.func18, Tryz.ntmps18
  go_wp2
  refine bodyPost_ret (v := .agg #[.int .i64 1, .int .i64 n, .string ⟨#[]⟩, .string ⟨#[]⟩, .string ⟨#[]⟩, .string ⟨#[]⟩]) (by simp [results, Tryz.results18, go_sem]) rfl ⟨⟨_, rfl, n, rfl⟩, (Below.refl _ w).alloc (Nat.le_refl _) _⟩

end Go.Proofs.YtlmhpmbgalmpgaaGreatDoor
