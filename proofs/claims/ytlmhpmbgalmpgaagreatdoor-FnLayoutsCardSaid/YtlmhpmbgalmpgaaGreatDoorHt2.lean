/-
  json.HTMLEscape and impl.HTMLEscape.
-/
import Derived.Test.YtlmhpmbgalmpgaaGreatDoorHt1
namespace Go.Proofs.YtlmhpmbgalmpgaaGreatDoor
open Go.RowKit

theorem Ap.below {e : TypeId} {B : Nat} {d : Option Nat} {W w : World} {v : Value} {ks : List UInt8} (h : Ap e B d W w v ks) (hd : ∀ k, d = some k → B ≤ k) : Below B W w :=
  ⟨h.os, h.tape, h.output, h.size, fun k hk => h.block k (Nat.lt_of_lt_of_le hk h.base) fun e => by have := hd k e; omega⟩

/-- The loan lies elsewhere than a row that is frozen in part. -/
theorem Grown.apart {B b ds : Nat} {W w1 : World} {v0 : Value} (hg : W.grownBy w1 (some b)) (ha : Avail B b w1 v0) (hds : ds < W.heap.size) (hdb : ds ≠ b) {cs : Array Value} {fr : Nat × Nat} (ho : W.heap[ds]? = some (.cells cs 5 fr)) (hfr : fr ≠ (0, 0)) : v0.ownBlock ≠ some ds := by
  intro he
  obtain ⟨_, lr, _, h2, _⟩ := ha
  rcases h2.2 with ⟨hv, _⟩ | ⟨g, cap, cur, hv, _, hh, _⟩
  · rw [hv] at he; cases he
  · rw [hv] at he
    have hgd : g = ds := by simpa [Value.ownBlock] using he
    subst hgd
    rw [hg.block g hds (fun e => hdb (Option.some.inj e)), ho] at hh
    injection hh with hh
    injection hh with _ _ h3
    exact hfr h3

theorem Avail.own {B b : Nat} {w : World} {v0 : Value} (h : Avail B b w v0) : w.ownsRow B 5 1 v0 0 [] := by
  obtain ⟨_, _, _, h2, _⟩ := h
  exact h2

theorem Avail.drewN {B b n : Nat} {w : World} {v0 : Value} (h : Avail B b w v0) : Avail B b (w.drewN n) v0 := h

/-- A text in a block of its own. -/
structure Src1 (W : World) (ds : Nat) (l : List UInt8) : Prop where
  bytes : Bytes W ds l
  row : ∃ cs fr, W.heap[ds]? = some (.cells cs 5 fr) ∧ fr ≠ (0, 0)

theorem Src1.lt {W : World} {ds : Nat} {l : List UInt8} (h : Src1 W ds l) : ds < W.heap.size := by
  obtain ⟨_, cs, fr, h1, _⟩ := h
  exact Lib.lt_of_heap h1

/-- What a function that writes a text into a fresh buffer leaves. -/
def Filled (B b : Nat) (l : List UInt8) (W : World) (e : Ending) (w' : World) : Prop := e = .returned (.tuple #[]) ∧ Lib.IsBuffer 44 5 B b (Lib.byteCells l) w' ∧ Below B W w'

theorem esc_len (l : List UInt8) : (Js.esc l).length ≤ 6 * l.length := by
  induction hn : l.length using Nat.strongRecOn generalizing l with
  | _ n ih =>
    match l with
    | [] => rw [Js.esc_nil]; simp
    | c :: r =>
      simp only [List.length_cons] at hn
      have ih1 := ih r.length (by omega) r rfl
      cases hs : Js.spec1 c with
      | true => rw [Js.esc_spec hs, List.length_append, Js.escOf_length]; omega
      | false =>
        cases hp : Js.isSep (c :: r) with
        | true =>
          rw [Js.esc_sep hs hp]
          obtain ⟨x, r', hr, _⟩ := Js.isSep_iff.1 hp
          have h2 := ih (r.drop 2).length (by rw [List.length_drop]; omega) (r.drop 2) rfl
          rw [List.length_drop] at h2
          have h3 : (Js.sepOf (c :: r)).length = 6 := by rw [hr]; rfl
          rw [List.length_append, h3]
          have h4 : r.length = r'.length + 2 := by
            have := congrArg List.length hr
            simp only [List.length_cons] at this
            omega
          omega
        | false => rw [Js.esc_plain hs hp, List.length_cons]; omega

set_option maxRecDepth 100000 in
set_option maxHeartbeats 1000000 in
theorem jhtml_any (B b ds cap : Nat) (l : List UInt8) (hl : l.length ≤ 10000000000) (W : World) (hB : B ≤ b) (hb : Fresh0 b W) (hs : Src1 W ds l) (hdb : ds ≠ b) (hcap : l.length ≤ cap) (hcm : cap ≤ maxLen) :
    Calls Tryz.prog 28 #[.pointer (some ⟨b, 0, none⟩), .slice (some ⟨ds, 0, none⟩) l.length cap] W (Filled B b (Js.esc l) W) := by
  have hBw : B ≤ W.heap.size := by obtain ⟨_, h⟩ := hb; exact Nat.le_trans hB (Nat.le_of_lt (Lib.lt_of_heap h))
  have HB := Lib.hid hb
  have HS := Lib.hid hs
  have HL := Lib.hid (esc_len l)
  clear hb hs
  go_enter Tryz.func28, Tryz.ntmps28
  go_wp2_with (first
    | (go_at_call 30; refine (grow_any B b l.length (by omega) _ hB HB.out).mono ?_; rintro e w1 ⟨rfl, hgr⟩; have HG := Lib.hid hgr; clear hgr; obtain ⟨v0, hv0⟩ := HG.out.1; have HV := Lib.hid hv0; clear hv0)
    | (go_at_call 31; refine (avail_any B b v0 _ HV.out).mono ?_; rintro e w2 ⟨rfl, n, rfl⟩)
    | (go_at_call 42; refine (html_any B ds cap v0 l hl (w1.drewN n) (Nat.le_trans hBw HG.out.2.1.size) HV.out.own (Grown.apart HG.out.2.2 HV.out HS.out.lt hdb HS.out.row.choose_spec.choose_spec.1 HS.out.row.choose_spec.choose_spec.2) (Nat.lt_of_lt_of_le HS.out.lt HG.out.2.2.size) (HS.out.bytes.kept (HG.out.2.2.block ds HS.out.lt (fun e => hdb (Option.some.inj e)))) hcap hcm).mono ?_; rintro e w3 ⟨v, rfl, hap⟩; have HAP := Lib.hid hap; clear hap)
    | (go_at_call 33; refine (write_any _ HV.out.drewN HAP.out (by have := HL.out; omega)).mono ?_; rintro e w4 ⟨rfl, hI, hbel, -⟩; have HI := Lib.hid hI; have HBE := Lib.hid hbel; clear hI hbel))
  go_end0
  refine ⟨rfl, HI.out, HG.out.2.1.trans (Below.trans (Below.trans (⟨rfl, rfl, rfl, Nat.le_refl _, fun _ _ => rfl⟩ : Below B w1 (w1.drewN n)) (HAP.out.below fun k hk => (HV.out.own.lt k hk).1)) HBE.out)⟩

/-- The text as the call's own slice holds it. -/
theorem src_made (w : World) (s : ByteArray) (c : Nat) : Src1 (w.alloc (.cells (bytesRow s c) 5 ((bytesRow s c).size, (bytesRow s c).size + 1))) w.heap.size s.data.toList :=
  ⟨bytes_made w s c _, bytesRow s c, ((bytesRow s c).size, (bytesRow s c).size + 1), heap_alloc_new w _, fun e => absurd (congrArg Prod.snd e) (Nat.succ_ne_zero _)⟩

set_option maxRecDepth 100000 in
set_option maxHeartbeats 1000000 in
theorem ihtml_big (s : ByteArray) (hs : s.size ≤ 10000000000) (w : World) :
    Calls Tryz.prog 14 #[.string s] w (fun e w' => e = .returned (.string ⟨(Js.esc s.data.toList).toArray⟩) ∧ Below w.heap.size w w') := by
  have hF : Fresh0 w.heap.size (w.alloc (.cells #[.slice none 0 0, .int .i64 0, .int .i8 0] 44)) := ⟨0, heap_alloc_new w _⟩
  have hb0 : Below w.heap.size w (w.alloc (.cells #[.slice none 0 0, .int .i64 0, .int .i8 0] 44)) := (Below.refl _ w).alloc (Nat.le_refl _) _
  have hz0 : (w.alloc (.cells #[.slice none 0 0, .int .i64 0, .int .i8 0] 44)).heap.size = w.heap.size + 1 := by simp
  generalize hW0 : w.alloc (.cells #[.slice none 0 0, .int .i64 0, .int .i8 0] 44) = W0 at *
  have hc := run_bytes_of_string (P := Tryz.prog) W0 9 40 5 s Tryz.underlying9 Tryz.underlying40 Tryz.underlying5
  have hlen : s.data.toList.length = s.size := by simp
  have hcg := grownCap_ge W0 s.size 0 5
  have hcm := grownCap_le_maxLen W0 s.size 0 5 (by unfold maxLen; omega)
  generalize grownCap W0 s.size 0 5 = c at hc hcg hcm
  have hS := src_made W0.drew s c
  have hz : (W0.drew.alloc (.cells (bytesRow s c) 5 ((bytesRow s c).size, (bytesRow s c).size + 1))).heap.size = W0.heap.size + 1 := by simp
  have hF1 : Fresh0 w.heap.size (W0.drew.alloc (.cells (bytesRow s c) 5 ((bytesRow s c).size, (bytesRow s c).size + 1))) := by
    obtain ⟨lr, h⟩ := hF
    exact ⟨lr, (Below.heap_alloc W0.drew _ _ (Lib.lt_of_heap h)).trans h⟩
  have hb : Below w.heap.size W0 (W0.drew.alloc (.cells (bytesRow s c) 5 ((bytesRow s c).size, (bytesRow s c).size + 1))) := ((Below.refl _ W0).drew).alloc (by show w.heap.size ≤ W0.heap.size; omega) _
  generalize W0.drew.alloc (.cells (bytesRow s c) 5 ((bytesRow s c).size, (bytesRow s c).size + 1)) = W at *
  have HV := jhtml_any w.heap.size w.heap.size W0.heap.size c s.data.toList (by rw [hlen]; exact hs) W (Nat.le_refl _) hF1 hS (by omega) (by rw [hlen]; exact hcg) hcm
  rw [hlen, hz0] at HV
  have HV' := Lib.hid HV
  have HB := Lib.hid (hb0.trans hb)
  have HW0 := Lib.hid hW0
  clear HV hb hb0 hlen hz hS hF hF1 hcg hcm hz0
  subst hW0
  go_enter Tryz.func14, Tryz.ntmps14
  go_wp2_with (first
    | (go_at_call 28; refine HV'.out.mono ?_; rintro e w2 ⟨rfl, hI, hb2⟩; have HI := Lib.hid hI; have HB2 := Lib.hid hb2; clear hI hb2)
    | (go_at_call 19; refine (Tryz.Buffer_String w.heap.size w.heap.size _ _ HI.out).mono ?_; rintro e w3 ⟨rfl, n, rfl⟩))
  go_ret
  exact ⟨rfl, (HB.out.trans HB2.out).trans (⟨rfl, rfl, rfl, Nat.le_refl _, fun _ _ => rfl⟩ : Below w.heap.size w2 (w2.drewN n))⟩

theorem ihtml_any (s : ByteArray) (hs : s.size ≤ 8000) (w : World) :
    Calls Tryz.prog 14 #[.string s] w (fun e w' => e = .returned (.string ⟨(Js.esc s.data.toList).toArray⟩) ∧ Below w.heap.size w w') := ihtml_big s (by omega) w

end Go.Proofs.YtlmhpmbgalmpgaaGreatDoor
