/-
  The scanner's stack: push, pop; the states that look at it.
-/
import Derived.Test.YtlmhpmbgalmpgaaGreatDoorSc3
import Derived.WalkSmall
namespace Go.Proofs.YtlmhpmbgalmpgaaGreatDoor
open Go.RowKit

theorem Tryz.infoInt : (Tryz.prog.info? 3).map (fun i => (i.zero, i.size, i.bytes)) = some (some (.int .i64 0), 1, 8) := by kernel_rfl

/-- A row that owns something has a place. -/
theorem own_shape {w : World} {base : Nat} {e : TypeId} {v : Value} {n : Nat} {xs : List Value} (h : w.ownsRow base e 1 v n xs) (hn : 0 < n) : ∃ q cap, v = .slice (some ⟨q, 0, none⟩) n cap ∧ base ≤ q := by
  rcases h.2 with ⟨_, h0⟩ | ⟨q, cap, _, hv, hb, _⟩
  · omega
  · exact ⟨q, cap, hv, hb⟩

theorem ScB.grown {w w' : World} {g : Nat} {fv tv pv ev bv : Value} (h : ScB w g fv tv pv ev bv) {row : Option Nat} (hg : w.grownBy w' row) (hr : some g ≠ row) : ScB w' g fv tv pv ev bv :=
  (hg.block g h.lt hr).trans h

/-- What a push leaves: the stack is one longer. -/
theorem push_parts {w w1 : World} {g : Nat} {m : Js.M} {pv ev v : Value} {b : Int} (h : ScP w g m pv ev b) (p : Js.Ps) (o : Obj)
    (hown : w1.ownsRow (g + 1) 3 1 v (m.stk.length + 1) (stkV m.stk ++ [.int .i64 (psI p)])) (hgr : (w.alloc o).grownBy w1 pv.ownBlock)
    (hat : v.ownBlock = pv.ownBlock ∨ v.ownBlock = some (w.heap.size + 1)) (hb : m.bad = false) :
    ScB w1 g (fv m.st) (.bool m.top) pv ev (.int .i64 b) ∧ (m.stk.length < 10000 → ScP (w1.setCell ⟨g, 2, none⟩ v) g { m with stk := p :: m.stk } v ev b) ∧
      ScB (w1.setCell ⟨g, 2, none⟩ v) g (fv m.st) (.bool m.top) v ev (.int .i64 b) ∧ Kp g w (w1.setCell ⟨g, 2, none⟩ v) ∧
      (w1.setCell ⟨g, 2, none⟩ v).ownsRow (g + 1) 3 1 v (p :: m.stk).length (stkV (p :: m.stk)) := by
  have hlt := h.own.lt
  have hgp : some g ≠ pv.ownBlock := by
    intro e
    have := hlt g e.symm
    omega
  have b0 := h.blk.lt
  have b1 : ScB w1 g (fv m.st) (.bool m.top) pv ev (.int .i64 b) := (h.blk.alloc o).grown hgr hgp
  have b2 := b1.set2 v
  have ho : (w1.setCell ⟨g, 2, none⟩ v).ownsRow (g + 1) 3 1 v (p :: m.stk).length (stkV (p :: m.stk)) := by
    rw [stkV_cons]
    exact own_set hown _
  refine ⟨b1, fun hS => ⟨b2, ho, ?_, ?_⟩, b2, ?_, ho⟩
  · have := h.err
    rw [hb] at this
    show if m.bad then _ else _
    rw [hb]
    exact this
  · intro _
    show m.stk.length + 1 ≤ 10000
    omega
  · refine ⟨hgr.os, hgr.tape, hgr.output, ?_, ?_, ?_⟩
    · have := hgr.size
      simp [World.setCell] at this ⊢
      omega
    · intro k hk hkg hkr
      rw [rowOf_eq h.blk] at hkr
      rw [Below.heap_setCell _ _ _ _ hkg, hgr.block k (by simp; omega) (fun e => hkr e.symm), Below.heap_alloc _ _ _ hk]
    · rw [rowOf_eq b2, rowOf_eq h.blk]
      rcases hat with e | e
      · exact .inl e
      · refine .inr fun k hk => ?_
        rw [e] at hk
        simp at hk
        omega

set_option maxRecDepth 100000 in
set_option maxHeartbeats 1000000 in
theorem push_any (g : Nat) (m : Js.M) (c : Int) (p : Js.Ps) (k : Int) (n : Nat) (hk : k = n) (q : Int) (hq : q = psI p) (h0 : 0 ≤ c) (h1 : c ≤ 255) (hb : m.bad = false) (w : World) (h : Sc w g m) :
    Calls Tryz.prog 67 #[.pointer (some ⟨g, 0, none⟩), .int .u8 c, .int .i64 q, .int .i64 k] w (After g w (Js.push m p m.st n)) := by
  obtain ⟨pv, ev, b, hp⟩ := h
  obtain ⟨c0, c1, c2, c3, c4, f0, f1, f2, f3, f4⟩ := hp.blk.cells
  have hlen := hp.len hb
  have hglt := hp.blk.lt
  have hpv := hp.own
  have H := Lib.hid hp
  subst hq
  obtain ⟨i0, hi, hz0, hz1, hz2⟩ := info_parts Tryz.infoInt
  have Hk := Lib.hid hk
  have Hb := Lib.hid hb
  clear hk hb hp c0 c1 c3 c4 f0 f1 f3 f4
  go_enter Tryz.func67, Tryz.ntmps67
  go_wp2_with (first
    | (at_builtin; refine wpList_append_own_at _ rfl _ _ 98 rfl (g + 1) 3 i0 (.int .i64 0) 1 8 Tryz.underlying98 hi hz0 hz1 hz2 rfl (by decide) _ _ _ rfl (hpv.alloc _) ⟨w.heap.size, 0, none⟩ 1 1 [.int .i64 (psI p)] rfl rfl ?c1 ?c2 ?c3 ?c4 ?c5 ?_))
  case c1 => exact cell_one_new _ _ _
  case c2 => intro u hu; simp at hu; subst hu; rfl
  case c3 => unfold maxLen; omega
  case c4 => omega
  case c5 => simp; omega
  · intro v w1 hown hgr _ hat
    obtain ⟨b1, hS, b2, hkp, ho2⟩ := push_parts H.out p _ hown hgr hat Hb.out
    obtain ⟨q, cap, rfl, _⟩ := own_shape hown (by omega)
    obtain ⟨d0, d1, d2, d3, d4, e0, e1, e2, e3, e4⟩ := b1.cells
    obtain ⟨x0, x1, x2, x3, x4, y0, y1, y2, y3, y4⟩ := b2.cells
    have HS := Lib.hid hS
    have B2 := Lib.hid b2
    have HK := Lib.hid hkp
    have HO := Lib.hid ho2
    clear hS b1 b2 hkp ho2 hown hgr hat hpv d0 d1 d3 d4 e0 e1 e3 e4 x0 x1 x3 x4 y0 y1 y2 y3 y4
    by_cases hl : m.stk.length < 10000
    · have hpush : Js.push m p m.st n = ({ m with stk := p :: m.stk }, n) := by unfold Js.push; rw [if_pos hl]
      have HPU := Lib.hid hpush
      clear hpush
      go_wp2
      go_ret
      rw [HPU.out]
      exact ⟨by rw [Hk.out]; rfl, ⟨_, _, _, HS.out hl⟩, HK.out⟩
    · have hpush : Js.push m p m.st n = Js.fail { m with stk := p :: m.stk } := by unfold Js.push; rw [if_neg hl]
      have HPU := Lib.hid hpush
      clear hpush
      go_wp2_with (go_at_call 76; refine (error_any g _ _ _ _ b c _ h0 h1 (by decide) _ B2.out).mono ?_; rintro e w' ⟨rfl, he⟩)
      go_ret
      rw [HPU.out]
      exact After.from HK.out (fail_of (m := { m with stk := p :: m.stk }) B2.out HO.out (by assumption))

theorem stkV_top (p : Js.Ps) (S : List Js.Ps) : (stkV (p :: S))[S.length]? = some (.int .i64 (psI p)) := by
  rw [stkV_cons, List.getElem?_append_right (by rw [stkV_length]; omega), stkV_length]
  simp

/-- What the walk sees of a stack that is not empty. -/
theorem ScP.peek {w : World} {g : Nat} {m : Js.M} {pv ev : Value} {b : Int} (h : ScP w g m pv ev b) {p : Js.Ps} {S : List Js.Ps} (hS : m.stk = p :: S) :
    ∃ q cap, pv = .slice (some ⟨q, 0, none⟩) (S.length + 1) cap ∧ g + 1 ≤ q ∧ S.length + 1 ≤ cap ∧ cap ≤ maxLen ∧ w.cell? ⟨q, S.length, none⟩ = some (.int .i64 (psI p)) ∧ w.frozen? ⟨q, S.length, none⟩ = false ∧ q < w.heap.size := by
  have ho := h.own
  rw [hS] at ho
  rcases ho.2 with ⟨_, h0⟩ | ⟨q, cap, cur, hv, hb, hh, hn, hm, hc, ht⟩
  · simp at h0
  · have hcell := ho.cells (g := q) (by rw [hv]; rfl) S.length _ (stkV_top p S)
    have ha : (⟨q, 0, none⟩ : Addr).add S.length = ⟨q, S.length, none⟩ := by unfold Addr.add; split <;> simp_all
    rw [ha] at hcell
    exact ⟨q, cap, hv, hb, hn, hm, hcell, by simp [World.frozen?, hh], (Array.getElem?_eq_some_iff.1 hh).1⟩

/-- The stack one shorter. -/
theorem own_pop {w : World} {base : Nat} {q cap n : Nat} {p : Js.Ps} {S : List Js.Ps} (hn : n = S.length) (h : w.ownsRow base 3 1 (.slice (some ⟨q, 0, none⟩) (n + 1) cap) (n + 1) (stkV (p :: S))) :
    w.ownsRow base 3 1 (.slice (some ⟨q, 0, none⟩) n cap) n (stkV S) := by
  subst hn
  rw [stkV_cons] at h
  exact ownsRow_pop (by rw [stkV_length]; omega) h

/-- The top of the stack written. -/
theorem ScP.poke {w : World} {g : Nat} {m : Js.M} {pv ev : Value} {b : Int} (h : ScP w g m pv ev b) {p : Js.Ps} {S : List Js.Ps} (hS : m.stk = p :: S) (p' : Js.Ps) {q cap : Nat} (hv : pv = .slice (some ⟨q, 0, none⟩) (S.length + 1) cap) :
    ScP (w.setCell ⟨q, S.length, none⟩ (.int .i64 (psI p'))) g { m with stk := p' :: S } pv ev b ∧ Kp g w (w.setCell ⟨q, S.length, none⟩ (.int .i64 (psI p'))) := by
  have ho := h.own
  have hlt := ho.lt q (by rw [hv]; rfl)
  have hb : ScB (w.setCell ⟨q, S.length, none⟩ (.int .i64 (psI p'))) g (fv m.st) (.bool m.top) pv ev (.int .i64 b) :=
    (Below.heap_setCell w ⟨q, S.length, none⟩ _ g (by show g ≠ q; omega)).trans h.blk
  refine ⟨⟨hb, ?_, ?_, ?_⟩, ⟨rfl, rfl, rfl, by simp [World.setCell], fun k _ hg hr => ?_, .inl ?_⟩⟩
  · rw [hS] at ho
    rw [hv] at ho ⊢
    rcases ho.2 with ⟨h0, _⟩ | ⟨q', cap', cur, hv', hb', hh, hn, hm, hc, ht⟩
    · cases h0
    · cases hv'
      refine ⟨by simp [stkV_length], .inr ⟨q, cap, cur.setIfInBounds S.length (.int .i64 (psI p')), rfl, hb', heap_set_same hh _, by simpa using hn, hm, by simpa using hc, ?_⟩⟩
      rw [stkV_cons] at ht
      rw [stkV_cons, Array.toList_setIfInBounds]
      simp only [List.length_cons, Nat.mul_one] at ht ⊢
      rw [List.take_set, ht, List.set_append_right _ _ (by rw [stkV_length]; omega), stkV_length]
      simp
  · have := h.err
    show if m.bad then _ else _
    split at this
    · rename_i hbad
      rw [if_pos hbad]
      exact this.kept fun x hx hE => Below.heap_setCell _ _ _ _ (by
        show x ≠ q
        rintro rfl
        obtain ⟨s, n, hE⟩ := hE
        rcases ho.2 with ⟨h0, _⟩ | ⟨q', cap', cur, hv', hb', hh, _⟩
        · rw [hv] at h0; cases h0
        · rw [hv] at hv'
          have hq : q' = x := by
            injection hv' with e1
            injection e1 with e2
            injection e2 with e3
            exact e3.symm
          rw [hq] at hh
          rw [hh] at hE
          cases hE)
    · rename_i hbad
      rw [if_neg hbad]
      exact this
  · intro hbad
    have := h.len hbad
    rw [hS] at this
    exact this
  · exact Below.heap_setCell _ _ _ _ (by
      show k ≠ q
      rintro rfl
      exact hr (by rw [rowOf_eq h.blk, hv]; rfl))
  · rw [rowOf_eq hb, rowOf_eq h.blk]

/-- The slice of the stack one shorter. -/
theorem ScP.cut {w : World} {g : Nat} {m : Js.M} {pv ev : Value} {b : Int} (h : ScP w g m pv ev b) {p : Js.Ps} {S : List Js.Ps} (hS : m.stk = p :: S) {q cap : Nat} (hv : pv = .slice (some ⟨q, 0, none⟩) (S.length + 1) cap) :
    ScP (w.setCell ⟨g, 2, none⟩ (.slice (some ⟨q, 0, none⟩) S.length cap)) g { m with stk := S } (.slice (some ⟨q, 0, none⟩) S.length cap) ev b ∧ Kp g w (w.setCell ⟨g, 2, none⟩ (.slice (some ⟨q, 0, none⟩) S.length cap)) := by
  have ho := h.own
  rw [hS, hv] at ho
  have hb := h.blk.set2 (.slice (some ⟨q, 0, none⟩) S.length cap)
  refine ⟨⟨hb, own_set (own_pop rfl ho) _, ?_, ?_⟩, ⟨rfl, rfl, rfl, by simp [World.setCell], fun k _ hg _ => Below.heap_setCell _ _ _ _ hg, .inl ?_⟩⟩
  · have := h.err
    show if m.bad then _ else _
    split at this
    · rename_i hbad; rw [if_pos hbad]; exact this.kept fun x hx _ => Below.heap_setCell _ _ _ _ (by show x ≠ g; omega)
    · rename_i hbad; rw [if_neg hbad]; exact this
  · intro hbad
    have := h.len hbad
    rw [hS] at this
    simp at this
    show S.length ≤ 10000
    omega
  · rw [rowOf_eq hb, rowOf_eq h.blk, hv]
    rfl

/-- What a pop comes to. -/
def Popped (g : Nat) (w : World) (m : Js.M) (e : Ending) (w' : World) : Prop := e = .returned (.tuple #[]) ∧ Sc w' g (Js.pop m) ∧ Kp g w w'

set_option maxRecDepth 100000 in
set_option maxHeartbeats 1000000 in
theorem pop_any (g : Nat) (m : Js.M) (p : Js.Ps) (S : List Js.Ps) (hS : m.stk = p :: S) (w : World) (h : Sc w g m) :
    Calls Tryz.prog 95 #[.pointer (some ⟨g, 0, none⟩)] w (Popped g w m) := by
  obtain ⟨pv, ev, b, hp⟩ := h
  obtain ⟨q, cap, hv, _, hcap, hcm, _, _, _⟩ := hp.peek hS
  have hc := hp.cut hS hv
  obtain ⟨n, hn⟩ : ∃ n, n = S.length := ⟨_, rfl⟩
  rw [← hn] at hc hv hcap
  obtain ⟨c0, c1, c2, c3, c4, f0, f1, f2, f3, f4⟩ := hp.blk.cells
  obtain ⟨d0, d1, d2, d3, d4, e0, e1, e2, e3, e4⟩ := hc.1.blk.cells
  have HC := Lib.hid hc
  have HS := Lib.hid hS
  have HN := Lib.hid hn
  subst hv
  have hcm2 : cap ≤ 9223372036854775807 := hcm
  clear hc hp hS hn hcm c0 c1 c3 c4 f0 f1 f3 f4 d2 d3 d4 e2 e3 e4
  by_cases h0 : n = 0
  · subst h0
    go_enter Tryz.func95, Tryz.ntmps95
    go_wp2
    go_end0
    have hS0 : S = [] := List.eq_nil_of_length_eq_zero HN.out.symm
    have hpop : Js.pop m = { m with st := .et, stk := S, top := true } := by
      unfold Js.pop
      rw [HS.out, hS0]
    refine ⟨rfl, ?_, ?_⟩
    · rw [hpop]
      exact ⟨_, _, _, (HC.out.1.set0 .et).set1 true⟩
    · exact (HC.out.2.trans (kp_set (by omega) _)).trans (kp_set (by omega) _)
  · go_enter Tryz.func95, Tryz.ntmps95
    go_wp2
    go_end0
    have hpop : Js.pop m = { m with st := .ev, stk := S } := by
      unfold Js.pop
      rw [HS.out]
      cases S with
      | nil => exact absurd HN.out h0
      | cons _ _ => rfl
    refine ⟨rfl, ?_, ?_⟩
    · rw [hpop]
      exact ⟨_, _, _, HC.out.1.set0 .ev⟩
    · exact HC.out.2.trans (kp_set (by omega) _)

end Go.Proofs.YtlmhpmbgalmpgaaGreatDoor
